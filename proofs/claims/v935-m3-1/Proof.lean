import JvmDerived
import JvmDerived.Pilot.@@N@@Statement
import JvmDerived.Pilot.@@N@@Code
set_option linter.unusedVariables false
set_option linter.unusedSimpArgs false
namespace Jvm.Pilot.@@N@@
open Jvm Jvm.ClassFile Sem Op Lib Jvm.Free Jvm.Stand Jvm.LawKit Jvm.RoadKit Bundle Jvm.Pilot.@@N@@.Jvm.D
theorem own_w {ws : List Jvm.Cond} {a0 : Array Value} {Z : State} (hw : ∀ d ∈ ws, d.before a0 Z = true) (i : Nat) {d : Jvm.Cond} (h : ws[i]? = some d) : d.before a0 Z = true := hw _ (List.mem_of_getElem? h)
/-- the run comes to a state of which P holds -/
def Rch (tb : Tables) (e : Env) (below : List Frame) (P : State → Prop) (t : State) : Prop := ∃ u, Steps tb e below t u ∧ P u
theorem Rch.st {tb : Tables} {e : Env} {below : List Frame} {P : State → Prop} {t t' : State} (h : ∀ target, Steps tb e below t' target → Steps tb e below t target) (k : Rch tb e below P t') : Rch tb e below P t := by
  obtain ⟨u, h1, h2⟩ := k
  exact ⟨u, h u h1, h2⟩
theorem Rch.tr {tb : Tables} {e : Env} {below : List Frame} {P : State → Prop} {t t' : State} (h : Steps tb e below t t') (k : Rch tb e below P t') : Rch tb e below P t := by
  obtain ⟨u, h1, h2⟩ := k
  exact ⟨u, h.trans h1, h2⟩
theorem Rch.fin {tb : Tables} {e : Env} {below : List Frame} {P : State → Prop} {t u : State} (h : Steps tb e below t u) (k : P u) : Rch tb e below P t := ⟨u, h, k⟩
theorem Rch.out {tb : Tables} {e : Env} {below : List Frame} {P : State → Outcome → Prop} {t : State} (h : Rch tb e below (fun u => ∃ o, P u o) t) : ∃ u o, Steps tb e below t u ∧ P u o := by
  obtain ⟨u, h1, o, h2⟩ := h
  exact ⟨u, o, h1, h2⟩
theorem own_eqInt {t : Term} {n : Int32} {args : Array Value} {s : State} (h : (Cond.eq t (.int n)).value args s none s [] = some true) : t.eval args s none [] s = some (.int n) := by
  have hn : (Term.int n).eval args s none [] s = some (.int n) := rfl
  cases hv : t.eval args s none [] s with
  | none => simp [Cond.value, hv] at h
  | some x => cases x <;> simp [Cond.value, hv, hn] at h ⊢; exact h
theorem own_retI {p : Program} {l : Launch} {e : Env} {R : Room} {s : State} {m : MethodId} {args : Array Value} {below : List Frame} {meth : Method} {c : Code} {T : State} {locs : List Loc} {cells slots : Nat} (X : Stand p l e R s m args below meth c T locs cells slots) (hx : p.tables.exec = Jvm.exec) {pc : Nat} {Ls : Array Slot} {z : Int32} {rest : List Value} (hret : meth.sig.returnType = some .int) (hd : decode c.code pc = .ok (.ireturn, 1)) {fs : List Frame}
    (hl : ∀ (f : JFrame) (acts : List Action), f.method = m → f.locked = none → f.entered = [] → (doReturn e (T.setTop f) acts (some (.int z))).1 = T.setFrames fs) : Steps p.tables e below (T.setTop (mkF m pc Ls (.int z :: rest))) (T.setFrames fs) :=
  retOut X hx hret rfl (Or.inl ⟨rfl, Or.inl rfl, z, rfl⟩) hd hl
theorem own_retA {p : Program} {l : Launch} {e : Env} {R : Room} {s : State} {m : MethodId} {args : Array Value} {below : List Frame} {meth : Method} {c : Code} {T : State} {locs : List Loc} {cells slots : Nat} (X : Stand p l e R s m args below meth c T locs cells slots) (hx : p.tables.exec = Jvm.exec) {pc : Nat} {Ls : Array Slot} {w : Value} {t : FieldType} {rest : List Value} (hret : meth.sig.returnType = some t) (hn : narrow t w = w) (ht : t.isReference = true) (hw : w.isRef = true) (hd : decode c.code pc = .ok (.areturn, 1)) {fs : List Frame}
    (hl : ∀ (f : JFrame) (acts : List Action), f.method = m → f.locked = none → f.entered = [] → (doReturn e (T.setTop f) acts (some w)).1 = T.setFrames fs) : Steps p.tables e below (T.setTop (mkF m pc Ls (w :: rest))) (T.setFrames fs) :=
  retOut X hx hret hn (Or.inr (Or.inr (Or.inr (Or.inr ⟨rfl, ht, hw⟩)))) hd hl
theorem own_retJ {p : Program} {l : Launch} {e : Env} {R : Room} {s : State} {m : MethodId} {args : Array Value} {below : List Frame} {meth : Method} {c : Code} {T : State} {locs : List Loc} {cells slots : Nat} (X : Stand p l e R s m args below meth c T locs cells slots) (hx : p.tables.exec = Jvm.exec) {pc : Nat} {Ls : Array Slot} {z : Int64} {rest : List Value} (hret : meth.sig.returnType = some .long) (hd : decode c.code pc = .ok (.lreturn, 1)) {fs : List Frame}
    (hl : ∀ (f : JFrame) (acts : List Action), f.method = m → f.locked = none → f.entered = [] → (doReturn e (T.setTop f) acts (some (.long z))).1 = T.setFrames fs) : Steps p.tables e below (T.setTop (mkF m pc Ls (.long z :: rest))) (T.setFrames fs) :=
  retOut X hx hret rfl (Or.inr (Or.inl ⟨rfl, rfl, z, rfl⟩)) hd hl
theorem own_retD {p : Program} {l : Launch} {e : Env} {R : Room} {s : State} {m : MethodId} {args : Array Value} {below : List Frame} {meth : Method} {c : Code} {T : State} {locs : List Loc} {cells slots : Nat} (X : Stand p l e R s m args below meth c T locs cells slots) (hx : p.tables.exec = Jvm.exec) {pc : Nat} {Ls : Array Slot} {z : UInt64} {rest : List Value} (hret : meth.sig.returnType = some .double) (hd : decode c.code pc = .ok (.dreturn, 1)) {fs : List Frame}
    (hl : ∀ (f : JFrame) (acts : List Action), f.method = m → f.locked = none → f.entered = [] → (doReturn e (T.setTop f) acts (some (.double z))).1 = T.setFrames fs) : Steps p.tables e below (T.setTop (mkF m pc Ls (.double z :: rest))) (T.setFrames fs) :=
  retOut X hx hret rfl (Or.inr (Or.inr (Or.inl ⟨rfl, rfl, z, rfl⟩))) hd hl

def own_A (y : Int32) : Prop := 0 ≤ y.toInt ∧ y.toInt < 128
theorem own_i2b {y : Int32} (h : own_A y) : y.toInt8.toInt32 = y := by
  apply Int32.toInt_inj.mp
  rw [Int8.toInt_toInt32, Int32.toInt_toInt8]
  exact Int.bmod_eq_of_le (by have := h.1; omega) (by have := h.2; omega)
theorem own_nar_byte {y : Int32} (h : own_A y) : nar .byte y = y := own_i2b h
theorem own_i2c {y : Int32} (h : own_A y) : y.toUInt32.toUInt16.toUInt32.toInt32 = y := by
  have h1 := h.1
  have h2 := h.2
  have hn : y.toUInt32.toNat = y.toInt.toNat := by
    have e : y.toInt = y.toUInt32.toBitVec.toInt := rfl
    have hl := y.toUInt32.toNat_lt
    rw [BitVec.toInt_eq_toNat_cond] at e
    have e2 : y.toUInt32.toBitVec.toNat = y.toUInt32.toNat := rfl
    rw [e2] at e
    split at e <;> omega
  have hu : y.toUInt32.toUInt16.toUInt32 = y.toUInt32 := by
    apply UInt32.toNat_inj.mp
    rw [UInt16.toNat_toUInt32, UInt32.toNat_toUInt16]
    omega
  rw [hu]
  rfl
theorem own_nar_char {y : Int32} (h : own_A y) : nar .char y = y := own_i2c h
theorem own_fit_byte {y : Int32} (h : own_A y) : fits .byte (.int y) = true := by have q := fits_nar_byte y; rw [own_i2b h] at q; exact q
theorem own_fit_char {y : Int32} (h : own_A y) : fits .char (.int y) = true := by have q := fits_nar_char y; rw [own_nar_char h] at q; exact q
theorem own_A0 {y : Int32} (h : own_A y) : ¬ y < (0 : Int32) := by
  rw [Int32.lt_iff_toInt_lt]
  have e : (0 : Int32).toInt = 0 := rfl
  have := h.1
  omega
theorem own_A255 {y : Int32} (h : own_A y) : ¬ (255 : Int32) < y := by
  rw [Int32.lt_iff_toInt_lt]
  have e : (255 : Int32).toInt = 255 := rfl
  have := h.2
  omega
theorem own_and127 (w : Int32) : own_A (w &&& (127 : Int32)) := by
  have h := c_and w 127 (by decide)
  have e : (127 : Int32).toInt = 127 := rfl
  exact ⟨h.1, by have := h.2; omega⟩
theorem own_asc (w : Int32) : own_A ((w &&& (127 : Int32)).toUInt32.toUInt16.toUInt32.toInt32) := by rw [own_i2c (own_and127 w)]; exact own_and127 w
theorem own_and3 (w : Int32) : (w &&& (3 : Int32)) = (0 : Int32) ∨ (w &&& (3 : Int32)) = (1 : Int32) ∨ (w &&& (3 : Int32)) = (2 : Int32) ∨ (w &&& (3 : Int32)) = (3 : Int32) := by
  have h := c_and w 3 (by decide)
  have e3 : (3 : Int32).toInt = 3 := rfl
  have e0 : (0 : Int32).toInt = 0 := rfl
  have e1 : (1 : Int32).toInt = 1 := rfl
  have e2 : (2 : Int32).toInt = 2 := rfl
  rw [← Int32.toInt_inj, ← Int32.toInt_inj, ← Int32.toInt_inj, ← Int32.toInt_inj, e0, e1, e2, e3]
  omega
theorem own_shl0 (c : Int32) : (c <<< ((0 : Int32) &&& 31)) = c := by
  have e : ((0 : Int32) &&& 31) = 0 := by decide
  rw [e]; exact Int32.shiftLeft_zero
theorem own_shr0 (c : Int32) : (c >>> ((0 : Int32) &&& 31)) = c := by
  have e : ((0 : Int32) &&& 31) = 0 := by decide
  rw [e]; exact Int32.shiftRight_zero
/-- a byte array's list behind a copy to the place dp -/
def own_cp (vs vd : List Value) (dp nn : Nat) : List Value := vd.take dp ++ (List.range nn).map (fun i => vs.getD ((0 : Int32).toNatClampNeg + i) (.int 0)) ++ vd.drop (dp + nn)
theorem own_cplen {vs vd : List Value} {dp nn : Nat} (h : dp + nn ≤ vd.length) : (own_cp vs vd dp nn).length = vd.length := by
  unfold own_cp
  simp only [List.length_append, List.length_take, List.length_map, List.length_range, List.length_drop]
  omega
theorem own_EW {Z : State} {a0 : Array Value} (hw : ∀ d ∈ tables_1, d.before a0 Z = true) : EW Z a0 consts_1 := EW.cons (own_w hw 57 rfl) (by decide) (EW.cons (own_w hw 132 rfl) (by decide) (EW.cons (own_w hw 14 rfl) (by decide) EW.nil))
theorem own_t0 : (∀ c ∈ ("<!DOCTYPE html>\n" : String).toList, c.toNat < 256) ∧ ("<!DOCTYPE html>\n" : String).toList.map (fun c => Value.int (Jvm.Lit.byteI c.toNat.toUInt16)) = [(.int (60 : Int32)), (.int (33 : Int32)), (.int (68 : Int32)), (.int (79 : Int32)), (.int (67 : Int32)), (.int (84 : Int32)), (.int (89 : Int32)), (.int (80 : Int32)), (.int (69 : Int32)), (.int (32 : Int32)), (.int (104 : Int32)), (.int (116 : Int32)), (.int (109 : Int32)), (.int (108 : Int32)), (.int (62 : Int32)), (.int (10 : Int32))] := ⟨by decide, by decide⟩
theorem own_t1 : (∀ c ∈ ("</" : String).toList, c.toNat < 256) ∧ ("</" : String).toList.map (fun c => Value.int (Jvm.Lit.byteI c.toNat.toUInt16)) = [(.int (60 : Int32)), (.int (47 : Int32))] := ⟨by decide, by decide⟩
theorem own_t2 : (∀ c ∈ ("" : String).toList, c.toNat < 256) ∧ ("" : String).toList.map (fun c => Value.int (Jvm.Lit.byteI c.toNat.toUInt16)) = [] := ⟨by decide, by decide⟩
theorem own_mr {g : JFrame} {n W : Nat} (h0 : g.monitorRoom = 0) (h : n = W) : 2 * g.monitorRoom + n ≤ W := by rw [h0, h]; omega
section Calls
variable {p : Program} {l : Launch} {e : Env} {R : Room} {s : State} {m : MethodId} {args : Array Value} {below : List Frame} {meth : Method} {c : Code} {T : State} {locs : List Loc} {cells slots : Nat} {Z : State} {a0 : Array Value} {h : Heap} {rm : Room} {W : Nat} {as' : Array Value} {Q : Option Value → Heap → List Loc → Prop}
theorem own_callS (X : Stand p l e R s m args below meth c T locs cells slots) (hx : p.tables.exec = Jvm.exec) (hZ : Z.Warmed39 s.vm) {own : String} {index : Nat} {y : MethodName} {bytes : ByteArray} {maxL : Nat} {ret : Option FieldType}
    (hown : s.vm.findClass own = some m.cls) (wl : (Cond.methodLink own index y).before a0 Z = true) (wst : (Cond.static y).before a0 Z = true) (wi : (Cond.initialized y.cls).before a0 Z = true) (wc : (Cond.code y bytes maxL ret).before a0 Z = true) (hy : y.cls ≠ "java/lang/invoke/MethodHandle" ∧ y.cls ≠ "java/lang/invoke/VarHandle")
    (hM : MetFree l y (head1 [Cond.code y bytes maxL ret] rm) (fun a U => a = as' ∧ Z.Warmed39 U.vm ∧ U.heap = h) (fun _ _ _ _ _ => True) (fun _ U o U' => ∃ v L, o = .returned v ∧ Q v U'.heap L ∧ FrameEnd U o U' L rm.cells rm.slots))
    (hf : rm.frames + 1 ≤ R.frames) (hl : W + (maxL + 11) + rm.locals ≤ R.locals) (eT : T.heap = h) (hc : cells + rm.cells ≤ R.cells) (hs : slots + rm.slots ≤ R.slots)
    {g : JFrame} (hg : g.method = m) (hsize : g.locals.size = c.maxLocals) {argsL rest : List Value} (hlen : ∀ sig, parseMethodDescriptor y.desc = some sig → argsL.length = sig.parameters.length) (hstack : g.stack = argsL.reverse ++ rest) (hW : 2 * g.monitorRoom + (rest.map fun v => v.category).sum ≤ W) (hdg : decode c.code g.pc = .ok (.invokestatic index, 3)) (has : argsL.toArray = as') :
    ∃ (v : Option Value) (T' : State) (L : List Loc), Stand p l e R s m args below meth c T' (locs ++ L) (cells + rm.cells) (slots + rm.slots) ∧ Q v T'.heap L ∧ ∀ target, Steps p.tables e below (T'.setTop { g with pc := g.pc + 3, stack := v.toList ++ rest }) target → Steps p.tables e below (T.setTop g) target := by
  obtain ⟨v, _, ⟨T', L', k', n'⟩, -, X', ⟨Lc, hQ, h1, h2, h3⟩, st⟩ := Jvm.LawKit.callS X hx hown (mvT hZ wl) (mvT hZ wst) (mvT hZ wi) (mvT hZ wc) hy (backOf (W := W) hM hZ wc wi hf hl) hg hsize hlen hstack hW hdg (fun _ _ => ⟨has, eT, hc, hs⟩)
  dsimp only [Pt.U, Pt.locs, Pt.cells, Pt.slots] at X' h1 h2 h3 st hQ
  subst h1 h2 h3
  exact ⟨v, T', Lc, X', hQ, st⟩
theorem own_callI (X : Stand p l e R s m args below meth c T locs cells slots) (hx : p.tables.exec = Jvm.exec) (hZ : Z.Warmed39 s.vm) {own : String} {index : Nat} {y : MethodName} (hy1 : y.name = "<init>") {bytes : ByteArray} {maxL : Nat}
    (hown : s.vm.findClass own = some m.cls) (wl : (Cond.methodLink own index y).before a0 Z = true) (win : (Cond.instanceMethod y).before a0 Z = true) (wi : (Cond.initialized y.cls).before a0 Z = true) (wc : (Cond.code y bytes maxL none).before a0 Z = true) (hy : y.cls ≠ "java/lang/invoke/MethodHandle" ∧ y.cls ≠ "java/lang/invoke/VarHandle")
    (hM : MetFree l y (head1 [Cond.code y bytes maxL none] rm) (fun a U => a = as' ∧ Z.Warmed39 U.vm ∧ U.heap = h) (fun _ _ _ _ _ => True) (fun _ U o U' => ∃ v L, o = .returned v ∧ Q v U'.heap L ∧ FrameEnd U o U' L rm.cells rm.slots))
    (hf : rm.frames + 1 ≤ R.frames) (hl : W + (maxL + 11) + rm.locals ≤ R.locals) (eT : T.heap = h) (hc : cells + rm.cells ≤ R.cells) (hs : slots + rm.slots ≤ R.slots)
    {g : JFrame} (hg : g.method = m) (hsize : g.locals.size = c.maxLocals) {a : Addr} {argsL rest : List Value} (hlen : ∀ sig, parseMethodDescriptor y.desc = some sig → argsL.length = sig.parameters.length) (hstack : g.stack = argsL.reverse ++ .ref a :: rest) (hW : 2 * g.monitorRoom + (rest.map fun v => v.category).sum ≤ W) (hdg : decode c.code g.pc = .ok (.invokespecial index, 3)) (has : (.ref a :: argsL).toArray = as') :
    ∃ (v : Option Value) (T' : State) (L : List Loc), Stand p l e R s m args below meth c T' (locs ++ L) (cells + rm.cells) (slots + rm.slots) ∧ Q v T'.heap L ∧ ∀ target, Steps p.tables e below (T'.setTop { g with pc := g.pc + 3, stack := v.toList ++ rest }) target → Steps p.tables e below (T.setTop g) target := by
  obtain ⟨v, _, ⟨T', L', k', n'⟩, -, X', ⟨Lc, hQ, h1, h2, h3⟩, st⟩ := X.specialBack hx hy1 hown (mvT hZ wl) (mvT hZ win) (mvT hZ wc) hy (backOf (W := W) hM hZ wc wi hf hl) hg hsize (Steps.refl _) (a := a) hlen hstack hW hdg (fun _ _ => ⟨has, eT, hc, hs⟩)
  dsimp only [Pt.U, Pt.locs, Pt.cells, Pt.slots] at X' h1 h2 h3 st hQ
  subst h1 h2 h3
  exact ⟨v, T', Lc, X', hQ, fun t k => st.trans k⟩
theorem own_callV (X : Stand p l e R s m args below meth c T locs cells slots) (hx : p.tables.exec = Jvm.exec) (hZ : Z.Warmed39 s.vm) {own C : String} {index : Nat} {y z : MethodName} {bytes : ByteArray} {maxL : Nat} {ret : Option FieldType}
    (hown : s.vm.findClass own = some m.cls) (wl : (Cond.methodLink own index y).before a0 Z = true) (wd : (Cond.declares y).before a0 Z = true) (hnf : NotFace s y) (wse : (Cond.selects C y z).before a0 Z = true) (win : (Cond.instanceMethod z).before a0 Z = true) (wi : (Cond.initialized z.cls).before a0 Z = true) (wc : (Cond.code z bytes maxL ret).before a0 Z = true) (hy : y.cls ≠ "java/lang/invoke/MethodHandle" ∧ y.cls ≠ "java/lang/invoke/VarHandle")
    (hM : MetFree l z (head1 [Cond.code z bytes maxL ret] rm) (fun a U => a = as' ∧ Z.Warmed39 U.vm ∧ U.heap = h) (fun _ _ _ _ _ => True) (fun _ U o U' => ∃ v L, o = .returned v ∧ Q v U'.heap L ∧ FrameEnd U o U' L rm.cells rm.slots))
    (hf : rm.frames + 1 ≤ R.frames) (hl : W + (maxL + 11) + rm.locals ≤ R.locals) (eT : T.heap = h) {b : Addr} (hE : Exa Z h b C) (hc : cells + rm.cells ≤ R.cells) (hs : slots + rm.slots ≤ R.slots)
    {g : JFrame} (hg : g.method = m) (hsize : g.locals.size = c.maxLocals) {argsL rest : List Value} (hlen : ∀ sig, parseMethodDescriptor y.desc = some sig → argsL.length = sig.parameters.length) (hstack : g.stack = argsL.reverse ++ .ref b :: rest) (hW : 2 * g.monitorRoom + (rest.map fun v => v.category).sum ≤ W) (hdg : decode c.code g.pc = .ok (.invokevirtual index, 3)) (has : (.ref b :: argsL).toArray = as') :
    ∃ (v : Option Value) (T' : State) (L : List Loc), Stand p l e R s m args below meth c T' (locs ++ L) (cells + rm.cells) (slots + rm.slots) ∧ Q v T'.heap L ∧ ∀ target, Steps p.tables e below (T'.setTop { g with pc := g.pc + 3, stack := v.toList ++ rest }) target → Steps p.tables e below (T.setTop g) target := by
  obtain ⟨cq, kq, qa, qb, qc⟩ := isOf hZ eT hE
  obtain ⟨v, _, ⟨T', L', k', n'⟩, -, X', ⟨Lc, hQ, h1, h2, h3⟩, st⟩ := X.virtualBack hx hown (mvT hZ wl) (mvT hZ wd) hnf (mvT hZ wse) (mvT hZ win) hy (backOf (W := W) hM hZ wc wi hf hl) qa qc hg hsize (Steps.refl _) hlen hstack hW hdg (fun _ _ => ⟨has, eT, hc, hs⟩)
  dsimp only [Pt.U, Pt.locs, Pt.cells, Pt.slots] at X' h1 h2 h3 st hQ
  subst h1 h2 h3
  exact ⟨v, T', Lc, X', hQ, fun t k => st.trans k⟩
theorem own_callF (X : Stand p l e R s m args below meth c T locs cells slots) (hx : p.tables.exec = Jvm.exec) (hZ : Z.Warmed39 s.vm) {own C : String} {index count : Nat} {xi y : MethodName} {bytes : ByteArray} {maxL : Nat} {ret : Option FieldType}
    (hown : s.vm.findClass own = some m.cls) (wl : (Cond.methodLink own index xi).before a0 Z = true) (wd : (Cond.declares xi).before a0 Z = true) (wfa : (Cond.interfaceMethod xi.cls xi.cls xi.name xi.desc).before args s = true) (wse : (Cond.selects C xi y).before a0 Z = true) (win : (Cond.instanceMethod y).before a0 Z = true) (wpu : (Cond.publicMethod y).before a0 Z = true) (wun : (Cond.unhidden C xi.name xi.desc).before a0 Z = true) (wca : (Cond.castable C xi.cls).before a0 Z = true) (wi : (Cond.initialized y.cls).before a0 Z = true) (wc : (Cond.code y bytes maxL ret).before a0 Z = true) (hy : xi.cls ≠ "java/lang/invoke/MethodHandle" ∧ xi.cls ≠ "java/lang/invoke/VarHandle")
    (hM : MetFree l y (head1 [Cond.code y bytes maxL ret] rm) (fun a U => a = as' ∧ Z.Warmed39 U.vm ∧ U.heap = h) (fun _ _ _ _ _ => True) (fun _ U o U' => ∃ v L, o = .returned v ∧ Q v U'.heap L ∧ FrameEnd U o U' L rm.cells rm.slots))
    (hf : rm.frames + 1 ≤ R.frames) (hl : W + (maxL + 11) + rm.locals ≤ R.locals) (eT : T.heap = h) {b : Addr} (hE : Exa Z h b C) (hc : cells + rm.cells ≤ R.cells) (hs : slots + rm.slots ≤ R.slots)
    {g : JFrame} (hg : g.method = m) (hsize : g.locals.size = c.maxLocals) {argsL rest : List Value} (hlen : ∀ sig, parseMethodDescriptor xi.desc = some sig → argsL.length = sig.parameters.length) (hstack : g.stack = argsL.reverse ++ .ref b :: rest) (hW : 2 * g.monitorRoom + (rest.map fun v => v.category).sum ≤ W) (hdg : decode c.code g.pc = .ok (.invokeinterface index count, 5)) (has : (.ref b :: argsL).toArray = as') :
    ∃ (v : Option Value) (T' : State) (L : List Loc), Stand p l e R s m args below meth c T' (locs ++ L) (cells + rm.cells) (slots + rm.slots) ∧ Q v T'.heap L ∧ ∀ target, Steps p.tables e below (T'.setTop { g with pc := g.pc + 5, stack := v.toList ++ rest }) target → Steps p.tables e below (T.setTop g) target := by
  obtain ⟨cq, kq, qa, qb, qc⟩ := isOf hZ eT hE
  obtain ⟨v, _, ⟨T', L', k', n'⟩, -, X', ⟨Lc, hQ, h1, h2, h3⟩, st⟩ := X.interfaceBack hx hown (mvT hZ wl) (mvT hZ wd) wfa (mvT hZ wse) (mvT hZ win) (mvT hZ wpu) (mvT hZ wun) (mvT hZ wca) hy (backOf (W := W) hM hZ wc wi hf hl) qa qb qc hg hsize (Steps.refl _) hlen hstack hW hdg (fun _ _ => ⟨has, eT, hc, hs⟩)
  dsimp only [Pt.U, Pt.locs, Pt.cells, Pt.slots] at X' h1 h2 h3 st hQ
  subst h1 h2 h3
  exact ⟨v, T', Lc, X', hQ, fun t k => st.trans k⟩
theorem own_callP (X : Stand p l e R s m args below meth c T locs cells slots) (hx : p.tables.exec = Jvm.exec) (hZ : Z.Warmed39 s.vm) {own : String} {index : Nat} {y : MethodName} {bytes : ByteArray} {maxL : Nat} {ret : Option FieldType}
    (hown : s.vm.findClass own = some m.cls) (wl : (Cond.methodLink own index y).before a0 Z = true) (win : (Cond.instanceMethod y).before a0 Z = true) (wse : (Cond.selects y.cls y y).before a0 Z = true) (wpr : (Cond.privateMethod y).before a0 Z = true) (wi : (Cond.initialized y.cls).before a0 Z = true) (wc : (Cond.code y bytes maxL ret).before a0 Z = true) (hy : y.cls ≠ "java/lang/invoke/MethodHandle" ∧ y.cls ≠ "java/lang/invoke/VarHandle")
    (hM : MetFree l y (head1 [Cond.code y bytes maxL ret] rm) (fun a U => a = as' ∧ Z.Warmed39 U.vm ∧ U.heap = h) (fun _ _ _ _ _ => True) (fun _ U o U' => ∃ v L, o = .returned v ∧ Q v U'.heap L ∧ FrameEnd U o U' L rm.cells rm.slots))
    (hf : rm.frames + 1 ≤ R.frames) (hl : W + (maxL + 11) + rm.locals ≤ R.locals) (eT : T.heap = h) {b : Addr} {C : String} (hE : Exa Z h b C) (hc : cells + rm.cells ≤ R.cells) (hs : slots + rm.slots ≤ R.slots)
    {g : JFrame} (hg : g.method = m) (hsize : g.locals.size = c.maxLocals) {argsL rest : List Value} (hlen : ∀ sig, parseMethodDescriptor y.desc = some sig → argsL.length = sig.parameters.length) (hstack : g.stack = argsL.reverse ++ .ref b :: rest) (hW : 2 * g.monitorRoom + (rest.map fun v => v.category).sum ≤ W) (hdg : decode c.code g.pc = .ok (.invokevirtual index, 3)) (has : (.ref b :: argsL).toArray = as') :
    ∃ (v : Option Value) (T' : State) (L : List Loc), Stand p l e R s m args below meth c T' (locs ++ L) (cells + rm.cells) (slots + rm.slots) ∧ Q v T'.heap L ∧ ∀ target, Steps p.tables e below (T'.setTop { g with pc := g.pc + 3, stack := v.toList ++ rest }) target → Steps p.tables e below (T.setTop g) target := by
  obtain ⟨cq, q1, q2⟩ := hE.cell
  obtain ⟨v, _, ⟨T', L', k', n'⟩, -, X', ⟨Lc, hQ, h1, h2, h3⟩, st⟩ := X.privateBack hx hown (mvT hZ wl) (mvT hZ win) (mvT hZ wse) (Cond.privateMethod_at (mvP hZ wpr (args := #[]))) (mvT hZ wc) hy (backOf (W := W) hM hZ wc wi hf hl) hg hsize (Steps.refl _) (by rw [eT]; exact q1) q2 hlen hstack hW hdg (fun _ _ => ⟨has, eT, hc, hs⟩)
  dsimp only [Pt.U, Pt.locs, Pt.cells, Pt.slots] at X' h1 h2 h3 st hQ
  subst h1 h2 h3
  exact ⟨v, T', Lc, X', hQ, fun t k => st.trans k⟩
end Calls
theorem own_decl {Z : State} {a0 : Array Value} {y : MethodName} {bytes : ByteArray} {maxL : Nat} {ret : Option FieldType} (w : (Cond.instanceMethod y).before a0 Z = true) (wc : (Cond.code y bytes maxL ret).before a0 Z = true) : (Cond.declares y).before a0 Z = true := by
  obtain ⟨mk, methM, hn, hm, hst, -⟩ := Cond.instanceMethod_spec w
  obtain ⟨m2, cM, q1, -, -, -, -, -, -, hsig⟩ := Cond.code_spec hn wc
  cases hm.symm.trans q1
  simp [Cond.before, Cond.holds, Cond.value, hn, hm, hst, hsig]
theorem own_nf {U : State} {args : Array Value} {C : String} {y0 y : MethodName} (w : (Cond.selects C y0 y0).before args U = true) (wi : (Cond.instanceMethod y0).before args U = true) (e : y0.cls = y.cls) : NotFace U y := fun r hr => by
  obtain ⟨mk, methM, hn, -⟩ := Cond.instanceMethod_spec wi
  obtain ⟨kr, h1, h2⟩ := notFace_of_selects w mk hn
  have h3 := findClass_of_methodNamed hn
  have h4 := findClass_of_methodNamed hr
  rw [e] at h3
  have e5 : mk.cls = r.cls := Option.some.inj (h3.symm.trans h4)
  exact ⟨kr, by rw [← e5]; exact h1, h2⟩
theorem own_same {Z : State} {a0 : Array Value} {y : MethodName} (w : (Cond.declares y).before a0 Z = true) (nf : NotFace Z y) (hy : y.cls ≠ "java/lang/invoke/MethodHandle" ∧ y.cls ≠ "java/lang/invoke/VarHandle") : (Cond.sameMethod y.cls y.cls y.name y.desc).before a0 Z = true := by
  obtain ⟨r0, r, hn, hrm, hst, hsig⟩ := Cond.declares_spec w
  obtain ⟨k, hk, hni⟩ := nf r0 hn
  obtain ⟨k', hk', hname⟩ := className_of_methodNamed hn
  cases hk.symm.trans hk'
  have hc := findClass_of_methodNamed hn
  have hdecl : k.findMethod y.name y.desc = some r0.idx := by
    have h' := hn
    simp only [State.methodNamed?, hc, hk, Option.bind_eq_bind, Option.bind_some, Option.bind_eq_some_iff, Option.pure_def, Option.some.injEq] at h'
    obtain ⟨i, hi, hmi⟩ := h'
    rw [← hmi]; exact hi
  have hpoly : ∀ q, signaturePolymorphic k q = false := fun q => by
    have n1 : (k.name == "java/lang/invoke/MethodHandle") = false := by rw [hname]; exact beq_false_of_ne hy.1
    have n2 : (k.name == "java/lang/invoke/VarHandle") = false := by rw [hname]; exact beq_false_of_ne hy.2
    simp [signaturePolymorphic, n1, n2]
  have hup : Z.vm.lookupUp r0.cls y.name y.desc = some r0 := by
    simp [Vm.lookupUp, lookupInSuperclasses, hk, hdecl]
  have hf : Z.methodFound? y.cls y.name y.desc = some r0 := (State.methodFound?_class hc hk hni hpoly r0).mpr ⟨hup, k, hk⟩
  have hn' : Z.methodNamed? ⟨y.cls, y.name, y.desc⟩ = some r0 := hn
  simp [Cond.before, Cond.holds, Cond.value, hc, hf, hn', hk, hni]
section CallsU
variable {p : Program} {l : Launch} {e : Env} {R : Room} {s : State} {m : MethodId} {args : Array Value} {below : List Frame} {meth : Method} {c : Code} {T : State} {locs : List Loc} {cells slots : Nat} {Z : State} {a0 : Array Value} {h : Heap} {rm : Room} {W : Nat} {as' : Array Value} {Q : Option Value → Heap → List Loc → Prop}
theorem own_callU (X : Stand p l e R s m args below meth c T locs cells slots) (hx : p.tables.exec = Jvm.exec) (hZ : Z.Warmed39 s.vm) {own K : String} {index : Nat} {y : MethodName} {bytes : ByteArray} {maxL : Nat} {ret : Option FieldType}
    (hown : s.vm.findClass own = some m.cls) (wl : (Cond.methodLink own index y).before a0 Z = true) (w2 : (Cond.sameMethod y.cls y.cls y.name y.desc).before a0 Z = true) (win : (Cond.instanceMethod y).before a0 Z = true) (w4 : (Cond.superclass own y.cls).before a0 Z = true) (hn : y.name ≠ "<init>") (wi : (Cond.initialized y.cls).before a0 Z = true) (wc : (Cond.code y bytes maxL ret).before a0 Z = true)
    (hM : MetFree l y (head1 [Cond.code y bytes maxL ret] rm) (fun a U => a = as' ∧ Z.Warmed39 U.vm ∧ U.heap = h) (fun _ _ _ _ _ => True) (fun _ U o U' => ∃ v L, o = .returned v ∧ Q v U'.heap L ∧ FrameEnd U o U' L rm.cells rm.slots))
    (hf : rm.frames + 1 ≤ R.frames) (hl : W + (maxL + 11) + rm.locals ≤ R.locals) (eT : T.heap = h) {a : Addr} (hE : Ins Z h a K true) (hc : cells + rm.cells ≤ R.cells) (hs : slots + rm.slots ≤ R.slots)
    {g : JFrame} (hg : g.method = m) (hsize : g.locals.size = c.maxLocals) {argsL rest : List Value} (hlen : ∀ sig, parseMethodDescriptor y.desc = some sig → argsL.length = sig.parameters.length) (hstack : g.stack = argsL.reverse ++ .ref a :: rest) (hW : 2 * g.monitorRoom + (rest.map fun v => v.category).sum ≤ W) (hdg : decode c.code g.pc = .ok (.invokespecial index, 3)) (has : (.ref a :: argsL).toArray = as') :
    ∃ (v : Option Value) (T' : State) (L : List Loc), Stand p l e R s m args below meth c T' (locs ++ L) (cells + rm.cells) (slots + rm.slots) ∧ Q v T'.heap L ∧ ∀ target, Steps p.tables e below (T'.setTop { g with pc := g.pc + 3, stack := v.toList ++ rest }) target → Steps p.tables e below (T.setTop g) target := by
  obtain ⟨v, _, ⟨T', L', k', n'⟩, -, X', ⟨Lc, hQ, h1, h2, h3⟩, st⟩ := superBack X hx hZ hown wl w2 win w4 hn (backOf (W := W) hM hZ wc wi hf hl) eT hE hg hsize wc hlen hstack hW hdg (fun _ _ => ⟨has, eT, hc, hs⟩)
  dsimp only [Pt.U, Pt.locs, Pt.cells, Pt.slots] at X' h1 h2 h3 st hQ
  subst h1 h2 h3
  exact ⟨v, T', Lc, X', hQ, fun t k => st.trans k⟩
end CallsU
section CallsS
variable {p : Program} {l : Launch} {e : Env} {R : Room} {s : State} {vm0 : Vm} {k0 : Nat} {m : MethodId} {args : Array Value} {below : List Frame} {meth : Method} {c : Code} {T : State} {locs : List Loc} {cells slots : Nat} {Z : State} {a0 : Array Value} {h : Heap} {rm : Room} {W : Nat} {as' : Array Value} {Q : Option Value → Heap → List Loc → Prop}
theorem own_callIS (X : Stand p l e R (s.setVm vm0) m args below meth c T locs cells slots) (hx : p.tables.exec = Jvm.exec) (hZ : Z.Warmed39 (s.setVm vm0).vm) (hS : s.Since vm0 k0) (hk : k0 ≤ h.size) {own : String} {index : Nat} {y : MethodName} (hy1 : y.name = "<init>") {bytes : ByteArray} {maxL : Nat}
    (hown : (s.setVm vm0).vm.findClass own = some m.cls) (wl : (Cond.methodLink own index y).before a0 Z = true) (win : (Cond.instanceMethod y).before a0 Z = true) (wi : (Cond.initialized y.cls).before a0 Z = true) (wc : (Cond.code y bytes maxL none).before a0 Z = true) (hy : y.cls ≠ "java/lang/invoke/MethodHandle" ∧ y.cls ≠ "java/lang/invoke/VarHandle")
    (hM : MetFree l y (head1 [Cond.code y bytes maxL none] rm) (fun a U => a = as' ∧ Z.Warmed39 U.vm ∧ U.heap = h) (fun _ _ _ _ _ => True) (fun _ U o U' => ∃ v L, o = .returned v ∧ Q v U'.heap L ∧ ReturnedEndW U o U' L rm.cells rm.slots))
    (hf : rm.frames + 1 ≤ R.frames) (hl : W + (maxL + 11) + rm.locals ≤ R.locals) (eT : T.heap = h) (hc : cells + rm.cells ≤ R.cells) (hs : slots + rm.slots ≤ R.slots)
    {g : JFrame} (hg : g.method = m) (hsize : g.locals.size = c.maxLocals) {a : Addr} {argsL rest : List Value} (hlen : ∀ sig, parseMethodDescriptor y.desc = some sig → argsL.length = sig.parameters.length) (hstack : g.stack = argsL.reverse ++ .ref a :: rest) (hW : 2 * g.monitorRoom + (rest.map fun v => v.category).sum ≤ W) (hdg : decode c.code g.pc = .ok (.invokespecial index, 3)) (has : (.ref a :: argsL).toArray = as') :
    ∃ (v : Option Value) (T' : State) (L : List Loc), Stand p l e R (s.setVm T'.vm) m args below meth c T' (locs ++ L) (cells + rm.cells) (slots + rm.slots) ∧ Q v T'.heap L ∧ s.Since T'.vm T'.heap.size ∧ Z.Warmed39 (s.setVm T'.vm).vm ∧ (s.setVm T'.vm).vm.findClass own = some m.cls ∧ ∀ target, Steps p.tables e below (T'.setTop { g with pc := g.pc + 3, stack := v.toList ++ rest }) target → Steps p.tables e below (T.setTop g) target := by
  obtain ⟨v, _, ⟨T', L', k', n'⟩, -, X', hS', hg', ⟨Lc, hQ, h1, h2, h3⟩, st⟩ := X.specialBackS hx hy1 hown (mvT hZ wl) (mvT hZ win) (mvT hZ wc) hy (backOfS (W := W) hM hZ wc wi hf hl) hg hsize (Steps.refl _) (a := a) hlen hstack hW hdg (fun _ _ => ⟨has, eT, hc, hs⟩)
  dsimp only [Pt.U, Pt.locs, Pt.cells, Pt.slots] at X' h1 h2 h3 st hQ hS' hg'
  subst h1 h2 h3
  obtain ⟨r1, r2, r3, r4⟩ := rebS hS (by rw [eT]; exact hk) X' hS' hg' hZ hown
  exact ⟨v, T', Lc, r1, hQ, r2, r3, r4, fun t k => st.trans k⟩
theorem own_callVS (X : Stand p l e R (s.setVm vm0) m args below meth c T locs cells slots) (hx : p.tables.exec = Jvm.exec) (hZ : Z.Warmed39 (s.setVm vm0).vm) (hS : s.Since vm0 k0) (hk : k0 ≤ h.size) {own C : String} {index : Nat} {y z : MethodName} {bytes : ByteArray} {maxL : Nat} {ret : Option FieldType}
    (hown : (s.setVm vm0).vm.findClass own = some m.cls) (wl : (Cond.methodLink own index y).before a0 Z = true) (wd : (Cond.declares y).before a0 Z = true) (hnf : NotFace (s.setVm vm0) y) (wse : (Cond.selects C y z).before a0 Z = true) (win : (Cond.instanceMethod z).before a0 Z = true) (wi : (Cond.initialized z.cls).before a0 Z = true) (wc : (Cond.code z bytes maxL ret).before a0 Z = true) (hy : y.cls ≠ "java/lang/invoke/MethodHandle" ∧ y.cls ≠ "java/lang/invoke/VarHandle")
    (hM : MetFree l z (head1 [Cond.code z bytes maxL ret] rm) (fun a U => a = as' ∧ Z.Warmed39 U.vm ∧ U.heap = h) (fun _ _ _ _ _ => True) (fun _ U o U' => ∃ v L, o = .returned v ∧ Q v U'.heap L ∧ ReturnedEndW U o U' L rm.cells rm.slots))
    (hf : rm.frames + 1 ≤ R.frames) (hl : W + (maxL + 11) + rm.locals ≤ R.locals) (eT : T.heap = h) {b : Addr} (hE : Exa Z h b C) (hc : cells + rm.cells ≤ R.cells) (hs : slots + rm.slots ≤ R.slots)
    {g : JFrame} (hg : g.method = m) (hsize : g.locals.size = c.maxLocals) {argsL rest : List Value} (hlen : ∀ sig, parseMethodDescriptor y.desc = some sig → argsL.length = sig.parameters.length) (hstack : g.stack = argsL.reverse ++ .ref b :: rest) (hW : 2 * g.monitorRoom + (rest.map fun v => v.category).sum ≤ W) (hdg : decode c.code g.pc = .ok (.invokevirtual index, 3)) (has : (.ref b :: argsL).toArray = as') :
    ∃ (v : Option Value) (T' : State) (L : List Loc), Stand p l e R (s.setVm T'.vm) m args below meth c T' (locs ++ L) (cells + rm.cells) (slots + rm.slots) ∧ Q v T'.heap L ∧ s.Since T'.vm T'.heap.size ∧ Z.Warmed39 (s.setVm T'.vm).vm ∧ (s.setVm T'.vm).vm.findClass own = some m.cls ∧ ∀ target, Steps p.tables e below (T'.setTop { g with pc := g.pc + 3, stack := v.toList ++ rest }) target → Steps p.tables e below (T.setTop g) target := by
  obtain ⟨cq, kq, qa, qb, qc⟩ := isOf hZ eT hE
  obtain ⟨v, _, ⟨T', L', k', n'⟩, -, X', hS', hg', ⟨Lc, hQ, h1, h2, h3⟩, st⟩ := X.virtualBackS hx hown (mvT hZ wl) (mvT hZ wd) hnf (mvT hZ wse) (mvT hZ win) hy (backOfS (W := W) hM hZ wc wi hf hl) qa qc hg hsize (Steps.refl _) hlen hstack hW hdg (fun _ _ => ⟨has, eT, hc, hs⟩)
  dsimp only [Pt.U, Pt.locs, Pt.cells, Pt.slots] at X' h1 h2 h3 st hQ hS' hg'
  subst h1 h2 h3
  obtain ⟨r1, r2, r3, r4⟩ := rebS hS (by rw [eT]; exact hk) X' hS' hg' hZ hown
  exact ⟨v, T', Lc, r1, hQ, r2, r3, r4, fun t k => st.trans k⟩
end CallsS
section CallsH
variable {p : Program} {l : Launch} {e : Env} {R : Room} {s : State} {vm0 : Vm} {k0 : Nat} {m : MethodId} {args : Array Value} {below : List Frame} {meth : Method} {c : Code} {T : State} {locs : List Loc} {cells slots : Nat} {Z : State} {a0 : Array Value} {EL : List (String × Nat)} {h : Heap} {rm : Room} {W : Nat} {as' : Array Value} {Q : Option Value → Heap → List Loc → Vm → Prop} {xs : List Addr}
/-- RW14's backOfSH, with what must not be written and with the tables in the end's word -/
theorem own_backH {y : MethodName} {bytes : ByteArray} {maxL : Nat} {ret : Option FieldType} {len : Nat}
    (hM : MetFree l y (head1 [Cond.code y bytes maxL ret] rm) (fun a U => a = as' ∧ Z.Warmed39 U.vm ∧ U.heap = h ∧ CHv Z EL U.vm h ∧ ∀ x ∈ xs, Safe Z EL U.vm h x) (fun _ _ _ _ _ => True) (fun _ U o U' => ∃ v L, o = .returned v ∧ Q v U'.heap L U'.vm ∧ CHr Z EL U.vm U.heap U'.vm U'.heap ∧ ReturnedEndW U o U' L rm.cells rm.slots))
    (hZ : Z.Warmed39 vm0) (wc : (Cond.code y bytes maxL ret).before a0 Z = true) (wz : (Cond.initialized y.cls).before a0 Z = true) (hf : rm.frames + 1 ≤ R.frames) (hl : W + (maxL + 11) + rm.locals ≤ R.locals) (hEL : EW Z a0 EL) (H : CHv Z EL vm0 h) (hxs : ∀ x ∈ xs, x < h.size ∧ Safe Z EL vm0 h x) :
    BackS l R p e below (s.setVm vm0) args y len W (fun A a => a = as' ∧ A.U.heap = h ∧ A.cells + rm.cells ≤ R.cells ∧ A.slots + rm.slots ≤ R.slots)
      (fun A _ v B => ∃ L, Q v B.U.heap L B.U.vm ∧ B.locs = A.locs ++ L ∧ B.cells = A.cells + rm.cells ∧ B.slots = A.slots + rm.slots ∧ CHr Z EL vm0 h B.U.vm B.U.heap) :=
  BackS.of_freeW (bytes := bytes) (maxL := maxL) (ret := ret) (E := fun _ first o t L k n => k = rm.cells ∧ n = rm.slots ∧ (∃ v, o = .returned v ∧ Q v t.heap L t.vm) ∧ CHr Z EL first.vm first.heap t.vm t.heap) hM hf hl
    (fun m meth c A a Y hp => have hU : Z.Warmed39 A.U.vm := wtrans (s := s.setVm vm0) hZ Y.warmed
      ⟨by show (Cond.and _ .tt).before a A.U = true; rw [Cond.before_and, mv hU wc]; rfl, mv hU wc, mv hU wz, hp.2.2.1, hp.2.2.2⟩)
    (fun m meth c A a g mk Y hp => ⟨hp.1, wtrans (s := s.setVm vm0) hZ Y.warmed, hp.2.1, (CHv.at Y hZ hEL H).1, fun x hm => (CHv.at Y hZ hEL H).safe (hxs x hm).1 (hxs x hm).2⟩) (fun _ _ _ _ _ _ _ _ _ => trivial)
    (fun _ _ _ _ ⟨v, L, h1, h2, h3, h4⟩ => ⟨L, _, _, h4, rfl, rfl, ⟨v, h1, h2⟩, h3⟩)
    (fun m meth c A a g mk v t L k n Y hp _ _ ⟨e1, e2, ⟨v', e3, e4⟩, e5⟩ => by
      cases e3; subst e1 e2
      refine ⟨L, e4, rfl, rfl, rfl, (CHv.at Y hZ hEL H).trans ?_⟩
      rw [← hp.2.1]; exact e5)
theorem own_callIH (X : Stand p l e R (s.setVm vm0) m args below meth c T locs cells slots) (hx : p.tables.exec = Jvm.exec) (hZ : Z.Warmed39 (s.setVm vm0).vm) (hS : s.Since vm0 k0) (hk : k0 ≤ h.size) (hEL : EW Z a0 EL) (H : CHv Z EL vm0 h) (hxs : ∀ x ∈ xs, x < h.size ∧ Safe Z EL vm0 h x) {own : String} {index : Nat} {y : MethodName} (hy1 : y.name = "<init>") {bytes : ByteArray} {maxL : Nat}
    (hown : (s.setVm vm0).vm.findClass own = some m.cls) (wl : (Cond.methodLink own index y).before a0 Z = true) (win : (Cond.instanceMethod y).before a0 Z = true) (wi : (Cond.initialized y.cls).before a0 Z = true) (wc : (Cond.code y bytes maxL none).before a0 Z = true) (hy : y.cls ≠ "java/lang/invoke/MethodHandle" ∧ y.cls ≠ "java/lang/invoke/VarHandle")
    (hM : MetFree l y (head1 [Cond.code y bytes maxL none] rm) (fun a U => a = as' ∧ Z.Warmed39 U.vm ∧ U.heap = h ∧ CHv Z EL U.vm h ∧ ∀ x ∈ xs, Safe Z EL U.vm h x) (fun _ _ _ _ _ => True) (fun _ U o U' => ∃ v L, o = .returned v ∧ Q v U'.heap L U'.vm ∧ CHr Z EL U.vm U.heap U'.vm U'.heap ∧ ReturnedEndW U o U' L rm.cells rm.slots))
    (hf : rm.frames + 1 ≤ R.frames) (hl : W + (maxL + 11) + rm.locals ≤ R.locals) (eT : T.heap = h) (hc : cells + rm.cells ≤ R.cells) (hs : slots + rm.slots ≤ R.slots)
    {g : JFrame} (hg : g.method = m) (hsize : g.locals.size = c.maxLocals) {a : Addr} {argsL rest : List Value} (hlen : ∀ sig, parseMethodDescriptor y.desc = some sig → argsL.length = sig.parameters.length) (hstack : g.stack = argsL.reverse ++ .ref a :: rest) (hW : 2 * g.monitorRoom + (rest.map fun v => v.category).sum ≤ W) (hdg : decode c.code g.pc = .ok (.invokespecial index, 3)) (has : (.ref a :: argsL).toArray = as') :
    ∃ (v : Option Value) (T' : State) (L : List Loc), Stand p l e R (s.setVm T'.vm) m args below meth c T' (locs ++ L) (cells + rm.cells) (slots + rm.slots) ∧ Q v T'.heap L T'.vm ∧ CHr Z EL vm0 h T'.vm T'.heap ∧ s.Since T'.vm T'.heap.size ∧ Z.Warmed39 (s.setVm T'.vm).vm ∧ (s.setVm T'.vm).vm.findClass own = some m.cls ∧ ∀ target, Steps p.tables e below (T'.setTop { g with pc := g.pc + 3, stack := v.toList ++ rest }) target → Steps p.tables e below (T.setTop g) target := by
  obtain ⟨v, _, ⟨T', L', k', n'⟩, -, X', hS', hg', ⟨Lc, hQ, h1, h2, h3, h4⟩, st⟩ := X.specialBackS hx hy1 hown (mvT hZ wl) (mvT hZ win) (mvT hZ wc) hy (own_backH (W := W) hM hZ wc wi hf hl hEL H hxs) hg hsize (Steps.refl _) (a := a) hlen hstack hW hdg (fun _ _ => ⟨has, eT, hc, hs⟩)
  dsimp only [Pt.U, Pt.locs, Pt.cells, Pt.slots] at X' h1 h2 h3 h4 st hQ hS' hg'
  subst h1 h2 h3
  obtain ⟨r1, r2, r3, r4⟩ := rebS hS (by rw [eT]; exact hk) X' hS' hg' hZ hown
  exact ⟨v, T', Lc, r1, hQ, h4, r2, r3, r4, fun t k => st.trans k⟩
theorem own_callVH (X : Stand p l e R (s.setVm vm0) m args below meth c T locs cells slots) (hx : p.tables.exec = Jvm.exec) (hZ : Z.Warmed39 (s.setVm vm0).vm) (hS : s.Since vm0 k0) (hk : k0 ≤ h.size) (hEL : EW Z a0 EL) (H : CHv Z EL vm0 h) (hxs : ∀ x ∈ xs, x < h.size ∧ Safe Z EL vm0 h x) {own C : String} {index : Nat} {y z : MethodName} {bytes : ByteArray} {maxL : Nat} {ret : Option FieldType}
    (hown : (s.setVm vm0).vm.findClass own = some m.cls) (wl : (Cond.methodLink own index y).before a0 Z = true) (wd : (Cond.declares y).before a0 Z = true) (hnf : NotFace (s.setVm vm0) y) (wse : (Cond.selects C y z).before a0 Z = true) (win : (Cond.instanceMethod z).before a0 Z = true) (wi : (Cond.initialized z.cls).before a0 Z = true) (wc : (Cond.code z bytes maxL ret).before a0 Z = true) (hy : y.cls ≠ "java/lang/invoke/MethodHandle" ∧ y.cls ≠ "java/lang/invoke/VarHandle")
    (hM : MetFree l z (head1 [Cond.code z bytes maxL ret] rm) (fun a U => a = as' ∧ Z.Warmed39 U.vm ∧ U.heap = h ∧ CHv Z EL U.vm h ∧ ∀ x ∈ xs, Safe Z EL U.vm h x) (fun _ _ _ _ _ => True) (fun _ U o U' => ∃ v L, o = .returned v ∧ Q v U'.heap L U'.vm ∧ CHr Z EL U.vm U.heap U'.vm U'.heap ∧ ReturnedEndW U o U' L rm.cells rm.slots))
    (hf : rm.frames + 1 ≤ R.frames) (hl : W + (maxL + 11) + rm.locals ≤ R.locals) (eT : T.heap = h) {b : Addr} (hE : Exa Z h b C) (hc : cells + rm.cells ≤ R.cells) (hs : slots + rm.slots ≤ R.slots)
    {g : JFrame} (hg : g.method = m) (hsize : g.locals.size = c.maxLocals) {argsL rest : List Value} (hlen : ∀ sig, parseMethodDescriptor y.desc = some sig → argsL.length = sig.parameters.length) (hstack : g.stack = argsL.reverse ++ .ref b :: rest) (hW : 2 * g.monitorRoom + (rest.map fun v => v.category).sum ≤ W) (hdg : decode c.code g.pc = .ok (.invokevirtual index, 3)) (has : (.ref b :: argsL).toArray = as') :
    ∃ (v : Option Value) (T' : State) (L : List Loc), Stand p l e R (s.setVm T'.vm) m args below meth c T' (locs ++ L) (cells + rm.cells) (slots + rm.slots) ∧ Q v T'.heap L T'.vm ∧ CHr Z EL vm0 h T'.vm T'.heap ∧ s.Since T'.vm T'.heap.size ∧ Z.Warmed39 (s.setVm T'.vm).vm ∧ (s.setVm T'.vm).vm.findClass own = some m.cls ∧ ∀ target, Steps p.tables e below (T'.setTop { g with pc := g.pc + 3, stack := v.toList ++ rest }) target → Steps p.tables e below (T.setTop g) target := by
  obtain ⟨cq, kq, qa, qb, qc⟩ := isOf hZ eT hE
  obtain ⟨v, _, ⟨T', L', k', n'⟩, -, X', hS', hg', ⟨Lc, hQ, h1, h2, h3, h4⟩, st⟩ := X.virtualBackS hx hown (mvT hZ wl) (mvT hZ wd) hnf (mvT hZ wse) (mvT hZ win) hy (own_backH (W := W) hM hZ wc wi hf hl hEL H hxs) qa qc hg hsize (Steps.refl _) hlen hstack hW hdg (fun _ _ => ⟨has, eT, hc, hs⟩)
  dsimp only [Pt.U, Pt.locs, Pt.cells, Pt.slots] at X' h1 h2 h3 h4 st hQ hS' hg'
  subst h1 h2 h3
  obtain ⟨r1, r2, r3, r4⟩ := rebS hS (by rw [eT]; exact hk) X' hS' hg' hZ hown
  exact ⟨v, T', Lc, r1, hQ, h4, r2, r3, r4, fun t k => st.trans k⟩
end CallsH
theorem d2_0 : decode jdk_42_method_149_code 0 = .ok (.aload_n 0, 1) := by decide +kernel
theorem d2_1 : decode jdk_42_method_149_code 1 = .ok (.invokespecial 1, 3) := by decide +kernel
theorem d2_4 : decode jdk_42_method_149_code 4 = .ok (.iload_n 3, 1) := by decide +kernel
theorem d2_5 : decode jdk_42_method_149_code 5 = .ok (.ifCond .ne 22, 3) := by decide +kernel
theorem d2_8 : decode jdk_42_method_149_code 8 = .ok (.aload_n 0, 1) := by decide +kernel
theorem d2_9 : decode jdk_42_method_149_code 9 = .ok (.ldc 7, 2) := by decide +kernel
theorem d2_11 : decode jdk_42_method_149_code 11 = .ok (.getfield 9, 3) := by decide +kernel
theorem d2_14 : decode jdk_42_method_149_code 14 = .ok (.putfield 9, 3) := by decide +kernel
theorem d2_17 : decode jdk_42_method_149_code 17 = .ok (.aload_n 0, 1) := by decide +kernel
theorem d2_18 : decode jdk_42_method_149_code 18 = .ok (.ldc 7, 2) := by decide +kernel
theorem d2_20 : decode jdk_42_method_149_code 20 = .ok (.getfield 15, 3) := by decide +kernel
theorem d2_23 : decode jdk_42_method_149_code 23 = .ok (.putfield 15, 3) := by decide +kernel
theorem d2_26 : decode jdk_42_method_149_code 26 = .ok (.return_, 1) := by decide +kernel
def Q_cinit0 (Z : State) (a : Addr) (ca : Addr) (cs : Int32) (h0 : Heap) (n0 : Nat) (v : Option Value) (h : Heap) (L : List Loc) (vm : Vm) : Prop := ∃ (bx : Addr) (kb : ClassId), v = none ∧ Fr n0 L ∧ Keep h0 h [a] ∧ Old Z n0 h ∧ Exa Z h a "java/lang/String" ∧ Fld Z h a "java/lang/String" "coder" "B" (.int (0 : Int32)) ∧ Fld Z h a "java/lang/String" "value" "[B" (.ref bx) ∧ Arv Z h bx kb .byte (0 : Int32) [] (.int (0 : Int32))
theorem pn_java_lang_String : plainName "java/lang/String" = true := by first | (simp [plainName, overriddenIn]; done) | decide +kernel
theorem ef_cinit0 (m : MethodId) (a : Addr) (ca : Addr) (cs : Int32) : entryFrame m #[(.ref a), (.ref ca), (.int (0 : Int32)), (.int (0 : Int32)), .null] 6 = mkF m 0 #[.val (.ref a), .val (.ref ca), .val (.int (0 : Int32)), .val (.int (0 : Int32)), .val .null, .unset] [] := by first | (simp [entryFrame, mkF, argsToLocals, Value.category]; done) | rfl
set_option maxRecDepth 65536 in
set_option maxHeartbeats 40000000 in
theorem cinit0 (l : Launch) (Z : State) (a0 : Array Value) (hw : ∀ d ∈ tables_1, d.before a0 Z = true) (ws : List Jvm.Cond) (a : Addr) (ca : Addr) (cs : Int32) (h0 : Heap) (n0 : Nat) (zD0 : Sta Z Z.heap "java/lang/String" "COMPACT_STRINGS" "Z" (.int cs)) (zP0 : Old Z n0 h0) (zP1 : Exa Z h0 a "java/lang/String") (zP2 : Fld Z h0 a "java/lang/String" "coder" "B" (.int (0 : Int32))) (zP3 : Fld Z h0 a "java/lang/String" "value" "[B" .null) (zP4 : n0 ≤ a) :
    MetFree l (⟨"java/lang/String", "<init>", "([CIILjava/lang/Void;)V"⟩ : MethodName) (head1 (Jvm.Cond.code (⟨"java/lang/String", "<init>", "([CIILjava/lang/Void;)V"⟩ : MethodName) jdk_42_method_149_code 6 none :: ws) ({ frames := 1, cells := 4, slots := 8, locals := 12 } : Room)) (fun aA uU => aA = #[(.ref a), (.ref ca), (.int (0 : Int32)), (.int (0 : Int32)), .null] ∧ Z.Warmed39 uU.vm ∧ uU.heap = h0 ∧ CHv Z consts_1 uU.vm h0 ∧ ∀ x ∈ ([a] : List Addr), Safe Z consts_1 uU.vm h0 x) (fun _ _ _ _ _ => True) (fun _ uU oO uU' => ∃ vV lL, oO = .returned vV ∧ Q_cinit0 Z a ca cs h0 n0 vV uU'.heap lL uU'.vm ∧ CHr Z consts_1 uU.vm uU.heap uU'.vm uU'.heap ∧ ReturnedEndW uU oO uU' lL ({ frames := 1, cells := 4, slots := 8, locals := 12 } : Room).cells ({ frames := 1, cells := 4, slots := 8, locals := 12 } : Room).slots) := by
  refine MetFree.of_bodySF (plainFor_of_name pn_java_lang_String) hisR ?_
  intro p e s m args below meth c s₁ Bd hml0 hP hK
  obtain ⟨rfl, hZ, hh, hCH, hSF⟩ := hP
  have hx := Bd.exec
  have hby := Bd.bytes
  have hml : c.maxLocals = 6 := hml0
  have hown : s.vm.findClass "java/lang/String" = some m.cls := findClass_of_methodNamed Bd.named
  have hnm := (name_of_methodNamed Bd.named Bd.method).1
  have X0 : Stand p l e ({ frames := 1, cells := 4, slots := 8, locals := 12 } : Room) s m #[(.ref a), (.ref ca), (.int (0 : Int32)), (.int (0 : Int32)), .null] below meth c s₁ [] 0 0 := Stand.of_body Bd
  have e0 : s₁.heap = h0 := by rw [← hh, Bd.state]; rfl
  have N0 := Fr.nil n0
  have hwS : ∀ a ∈ Bundle.stringAtoms, a.before a0 Z = true := fun d hd => hw d ((by decide +kernel : ∀ d ∈ Bundle.stringAtoms, d ∈ tables_1) d hd)
  have CR0 : CHr Z consts_1 s.vm h0 s.vm h0 := CHr.refl hCH
  refine Rch.out (Rch.st (fun t k => castTop (ef_cinit0 m a ca cs) k) ?_)
  show Rch p.tables e below _ (s₁.setTop (mkF m 0 #[.val (.ref a), .val (.ref ca), .val (.int (0 : Int32)), .val (.int (0 : Int32)), .val .null, .unset] []))
  have sf_a := hSF a (List.mem_of_getElem? (i := 0) rfl)
  refine Rch.st (fun _ hr => XS.aloadN X0.here hx rfl (hb hby d2_0) rfl rfl hr) ?_
  obtain ⟨T1, X1, e1, st1⟩ := initO X0 hx hZ hown (own_w hw 11 rfl) (own_w hw 12 rfl) (own_w hw 13 rfl) e0 (g := (mkF m 1 #[.val (.ref a), .val (.ref ca), .val (.int (0 : Int32)), .val (.int (0 : Int32)), .val .null, .unset] [(.ref a)])) rfl (by rw [hml]; rfl) rfl (hb hby d2_1) (by decide) (W := 0) (own_mr rfl rfl) (by decide)
  refine Rch.st st1 ?_
  refine Rch.st (fun _ hr => XS.iloadN X1.here hx rfl (hb hby d2_4) rfl hr) ?_
  refine Rch.st (fun _ hr => XS.ifNo X1.here hx rfl (hb hby d2_5) rfl ((if0 _ _).trans (teq (by decide : (0 : Int32) = (0 : Int32))).2) hr) ?_
  refine Rch.st (fun _ hr => XS.aloadN X1.here hx rfl (hb hby d2_8) rfl rfl hr) ?_
  have hS0 : s.Since s.vm h0.size := (State.WarmedH.refl s).since _
  obtain ⟨b2, T2, h2, kk2, dl2, kl2, X2, e2, E2, hS2, hk2, hZ2, hown2, Ea2, Fc2, Fv2, Va2, la2, lb2, hC2, -, hne2, st2⟩ := ldcCH (s := s) (vm0 := s.vm) X1 hx hZ hown (own_w hw 14 rfl) hwS e1 hS0 (Nat.le_refl _) (own_EW hw) (List.mem_of_getElem? (i := 2) rfl) CR0.1 (vs := []) (z := (0 : Int32)) own_t2 (by decide) rfl (g := (mkF m 9 #[.val (.ref a), .val (.ref ca), .val (.int (0 : Int32)), .val (.int (0 : Int32)), .val .null, .unset] [(.ref a)])) rfl (hb hby d2_9) (n := 0) (by decide) (by decide) (by decide) (by decide)
  refine Rch.st st2 ?_
  have CR3 := CR0.trans hC2
  have K4 := (Keep.refl h0 [a]).ext E2
  have hcs6 := hC2
  have sf6 := hcs6.safe zP1.lt sf_a
  have nq5 := hne2 a sf6
  obtain ⟨T7, X7, e7, st7⟩ := getF X2 hx hZ2 hown2 (host := "") (Or.inl (own_w hw 20 rfl)) Via.refl e2 Fv2 (g := (mkF m 11 #[.val (.ref a), .val (.ref ca), .val (.int (0 : Int32)), .val (.int (0 : Int32)), .val .null, .unset] [(.ref b2), (.ref a)])) rfl rfl (hb hby d2_11)
  refine Rch.st st7 ?_
  have f8 := (zP3.ext E2)
  have f9 := (zP1.ext E2)
  obtain ⟨T10, h10, X10, e10, W10, st10⟩ := putF X7 hx hZ2 hown2 (host := "") (Or.inl (own_w hw 20 rfl)) Via.refl e7 f8 f9 (Or.inr ⟨(own_w hw 16 rfl), rfl, hnm⟩) (own_w hw 1 rfl) (ty := (.array .byte)) (by decide) rfl rfl (g := (mkF m 14 #[.val (.ref a), .val (.ref ca), .val (.int (0 : Int32)), .val (.int (0 : Int32)), .val .null, .unset] [(.ref dl2), (.ref a)])) rfl rfl (hb hby d2_14)
  refine Rch.st st10 ?_
  have N10 := Fr.snoc X10 N0 zP4
  have f11 := (zP0.ext E2)
  have cs12 := CHr.wr W10 sf6 CR3.1
  have CR12 := CR3.trans cs12
  have K13 := K4.wr W10 (Or.inl (List.mem_of_getElem? (i := 0) rfl))
  have Fw10 := f8.same W10
  show Rch p.tables e below _ (T10.setTop (mkF m 17 #[.val (.ref a), .val (.ref ca), .val (.int (0 : Int32)), .val (.int (0 : Int32)), .val .null, .unset] []))
  refine Rch.st (fun _ hr => XS.aloadN X10.here hx rfl (hb hby d2_17) rfl rfl hr) ?_
  obtain ⟨b14, T14, h14, kk14, dl14, kl14, X14, e14, E14, hS14, hk14, hZ14, hown14, Ea14, Fc14, Fv14, Va14, la14, lb14, hC14, -, hne14, st14⟩ := ldcCH (s := s) (vm0 := T2.vm) X10 hx hZ2 hown2 (own_w hw 14 rfl) hwS e10 hS2 (Nat.le_trans hk2 (Keep.of_wr W10).1) (own_EW hw) (List.mem_of_getElem? (i := 2) rfl) CR12.1 (vs := []) (z := (0 : Int32)) own_t2 (by decide) rfl (g := (mkF m 18 #[.val (.ref a), .val (.ref ca), .val (.int (0 : Int32)), .val (.int (0 : Int32)), .val .null, .unset] [(.ref a)])) rfl (hb hby d2_18) (n := 0) (by decide) (by decide) (by decide) (by decide)
  refine Rch.st st14 ?_
  have f15 := (f11.wr W10 zP4)
  have CR16 := CR12.trans hC14
  have K17 := K13.ext E14
  have hcs19 := (cs12.trans hC14)
  have sf19 := hcs19.safe (Nat.lt_of_lt_of_le zP1.lt hcs6.2.1) sf6
  have nq18 := hne14 a sf19
  obtain ⟨T20, X20, e20, st20⟩ := getF X14 hx hZ14 hown14 (host := "") (Or.inl (own_w hw 21 rfl)) Via.refl e14 Fc14 (g := (mkF m 20 #[.val (.ref a), .val (.ref ca), .val (.int (0 : Int32)), .val (.int (0 : Int32)), .val .null, .unset] [(.ref b14), (.ref a)])) rfl rfl (hb hby d2_20)
  refine Rch.st st20 ?_
  have f21 := (((zP2.ext E2).other W10 (Or.inr (slot_ne (Or.inr (own_w hw 17 rfl)) (Or.inr (own_w hw 16 rfl)) (by decide) (t := .byte) (t' := (.array .byte)) (by decide) (by decide)))).ext E14)
  have f22 := ((f9.wr W10).ext E14)
  obtain ⟨T23, h23, X23, e23, W23, st23⟩ := putFN X20 hx hZ14 hown14 (own_w hw 21 rfl) Via.refl e20 f21 f22 (Or.inr ⟨(own_w hw 17 rfl), rfl, hnm⟩) (own_w hw 1 rfl) (ty := .byte) (v' := .int (nar .byte (0 : Int32))) (by decide) rfl (fits_nar_byte _) (g := (mkF m 23 #[.val (.ref a), .val (.ref ca), .val (.int (0 : Int32)), .val (.int (0 : Int32)), .val .null, .unset] [(.int (0 : Int32)), (.ref a)])) rfl rfl (hb hby d2_23)
  refine Rch.st st23 ?_
  have N23 := Fr.snoc X23 N10 zP4
  have f24 := (f15.ext E14)
  have cs25 := CHr.wr W23 sf19 CR16.1
  have CR25 := CR16.trans cs25
  have K26 := K17.wr W23 (Or.inl (List.mem_of_getElem? (i := 0) rfl))
  have Fw23 : Fld Z h23 a "java/lang/String" "coder" "B" (.int (0 : Int32)) := f21.same W23
  obtain ⟨fs, hr, hrun, hended, hREW⟩ := Jvm.Stand.leaveW (s := s) (vm₁ := T14.vm) X23 hS14 (by rw [e23]; exact (Nat.le_trans hk14 (Keep.of_wr W23).1)) (v := none) (fun _ => rfl)
  have f27 := (f24.wr W23 zP4)
  have f28 := (f22.wr W23)
  have f29 := ((Fw10.ext E14).other W23 (Or.inr (slot_ne (Or.inr (own_w hw 16 rfl)) (Or.inr (own_w hw 17 rfl)) (by decide) (t := (.array .byte)) (t' := .byte) (by decide) (by decide))))
  have f30 := (((Va2.other W10 (Ne.symm nq5.2)).ext E14).other W23 (Ne.symm nq5.2))
  have hCE : CHr Z consts_1 s.vm s.heap T23.vm T23.heap := by rw [hh, e23]; exact CR25.trans (CHv.at (s := s) (vm0 := T14.vm) X23 hZ14 (own_EW hw) CR25.1)
  refine Rch.fin (u := T23.setFrames fs) (X23.returnOut hx Bd.returns (hb hby d2_26) hr) ⟨_, hrun, hended, _, _, rfl, ?_, hCE, hREW.1, hREW.2.1, hREW.2.2.1, hREW.2.2.2.mono (by decide) (by decide)⟩
  show Q_cinit0 Z a ca cs h0 n0 _ T23.heap _ T23.vm
  rw [e23]
  exact ⟨dl2, kl2, rfl, N23, K26, f27, f28, Fw23, f29, f30⟩
theorem d1_0 : decode jdk_42_method_3_code 0 = .ok (.aload_n 0, 1) := by decide +kernel
theorem d1_1 : decode jdk_42_method_3_code 1 = .ok (.aload_n 1, 1) := by decide +kernel
theorem d1_2 : decode jdk_42_method_3_code 2 = .ok (.iconst 0, 1) := by decide +kernel
theorem d1_3 : decode jdk_42_method_3_code 3 = .ok (.aload_n 1, 1) := by decide +kernel
theorem d1_4 : decode jdk_42_method_3_code 4 = .ok (.arraylength, 1) := by decide +kernel
theorem d1_5 : decode jdk_42_method_3_code 5 = .ok (.aconst_null, 1) := by decide +kernel
theorem d1_6 : decode jdk_42_method_3_code 6 = .ok (.invokespecial 27, 3) := by decide +kernel
theorem pd_0 : parseMethodDescriptor "([CIILjava/lang/Void;)V" = some ⟨[(.array .char), .int, .int, (.object "java/lang/Void")], none⟩ := by decide +kernel
abbrev Y_0 : MethodName := ⟨"java/lang/String", "<init>", "([CIILjava/lang/Void;)V"⟩
theorem d1_9 : decode jdk_42_method_3_code 9 = .ok (.return_, 1) := by decide +kernel
def Q_cinitC0 (Z : State) (a : Addr) (ca : Addr) (kc : ClassId) (cs : Int32) (h0 : Heap) (n0 : Nat) (v : Option Value) (h : Heap) (L : List Loc) (vm : Vm) : Prop := ∃ (bx : Addr) (kb : ClassId), v = none ∧ Fr n0 L ∧ Keep h0 h [a] ∧ Old Z n0 h ∧ Exa Z h a "java/lang/String" ∧ Fld Z h a "java/lang/String" "coder" "B" (.int (0 : Int32)) ∧ Fld Z h a "java/lang/String" "value" "[B" (.ref bx) ∧ Arv Z h bx kb .byte (0 : Int32) [] (.int (0 : Int32))
theorem ef_cinitC0 (m : MethodId) (a : Addr) (ca : Addr) (kc : ClassId) (cs : Int32) : entryFrame m #[(.ref a), (.ref ca)] 2 = mkF m 0 #[.val (.ref a), .val (.ref ca)] [] := by first | (simp [entryFrame, mkF, argsToLocals, Value.category]; done) | rfl
set_option maxRecDepth 65536 in
set_option maxHeartbeats 40000000 in
theorem cinitC0 (l : Launch) (Z : State) (a0 : Array Value) (hw : ∀ d ∈ tables_1, d.before a0 Z = true) (ws : List Jvm.Cond) (a : Addr) (ca : Addr) (kc : ClassId) (cs : Int32) (h0 : Heap) (n0 : Nat) (zD0 : Sta Z Z.heap "java/lang/String" "COMPACT_STRINGS" "Z" (.int cs)) (zP0 : Old Z n0 h0) (zP1 : Exa Z h0 a "java/lang/String") (zP2 : Fld Z h0 a "java/lang/String" "coder" "B" (.int (0 : Int32))) (zP3 : Fld Z h0 a "java/lang/String" "value" "[B" .null) (zP4 : n0 ≤ a) (zP5 : Arv Z h0 ca kc .char (0 : Int32) [] (.int (0 : Int32))) :
    MetFree l (⟨"java/lang/String", "<init>", "([C)V"⟩ : MethodName) (head1 (Jvm.Cond.code (⟨"java/lang/String", "<init>", "([C)V"⟩ : MethodName) jdk_42_method_3_code 2 none :: ws) ({ frames := 2, cells := 4, slots := 8, locals := 29 } : Room)) (fun aA uU => aA = #[(.ref a), (.ref ca)] ∧ Z.Warmed39 uU.vm ∧ uU.heap = h0 ∧ CHv Z consts_1 uU.vm h0 ∧ ∀ x ∈ ([a] : List Addr), Safe Z consts_1 uU.vm h0 x) (fun _ _ _ _ _ => True) (fun _ uU oO uU' => ∃ vV lL, oO = .returned vV ∧ Q_cinitC0 Z a ca kc cs h0 n0 vV uU'.heap lL uU'.vm ∧ CHr Z consts_1 uU.vm uU.heap uU'.vm uU'.heap ∧ ReturnedEndW uU oO uU' lL ({ frames := 2, cells := 4, slots := 8, locals := 29 } : Room).cells ({ frames := 2, cells := 4, slots := 8, locals := 29 } : Room).slots) := by
  refine MetFree.of_bodySF (plainFor_of_name pn_java_lang_String) hisR ?_
  intro p e s m args below meth c s₁ Bd hml0 hP hK
  obtain ⟨rfl, hZ, hh, hCH, hSF⟩ := hP
  have hx := Bd.exec
  have hby := Bd.bytes
  have hml : c.maxLocals = 2 := hml0
  have hown : s.vm.findClass "java/lang/String" = some m.cls := findClass_of_methodNamed Bd.named
  have hnm := (name_of_methodNamed Bd.named Bd.method).1
  have X0 : Stand p l e ({ frames := 2, cells := 4, slots := 8, locals := 29 } : Room) s m #[(.ref a), (.ref ca)] below meth c s₁ [] 0 0 := Stand.of_body Bd
  have e0 : s₁.heap = h0 := by rw [← hh, Bd.state]; rfl
  have N0 := Fr.nil n0
  have hwS : ∀ a ∈ Bundle.stringAtoms, a.before a0 Z = true := fun d hd => hw d ((by decide +kernel : ∀ d ∈ Bundle.stringAtoms, d ∈ tables_1) d hd)
  have CR0 : CHr Z consts_1 s.vm h0 s.vm h0 := CHr.refl hCH
  refine Rch.out (Rch.st (fun t k => castTop (ef_cinitC0 m a ca kc cs) k) ?_)
  show Rch p.tables e below _ (s₁.setTop (mkF m 0 #[.val (.ref a), .val (.ref ca)] []))
  have sf_a := hSF a (List.mem_of_getElem? (i := 0) rfl)
  refine Rch.st (fun _ hr => XS.aloadN X0.here hx rfl (hb hby d1_0) rfl rfl hr) ?_
  refine Rch.st (fun _ hr => XS.aloadN X0.here hx rfl (hb hby d1_1) rfl rfl hr) ?_
  refine Rch.st (fun _ hr => XS.iconst X0.here hx rfl (hb hby d1_2) hr) ?_
  refine Rch.st (fun _ hr => XS.aloadN X0.here hx rfl (hb hby d1_3) rfl rfl hr) ?_
  obtain ⟨cl1, Ar1, -, Sz1, Ng1, -, -⟩ := id zP5
  refine Rch.st (fun t hr => X0.arraylength hx (by rw [e0]; exact Ar1.1) (State.isArrayOf_alike hZ.alike Ar1.2.1) (g := (mkF m 4 #[.val (.ref a), .val (.ref ca)] [(.ref ca), (.int (0 : Int32)), (.ref ca), (.ref a)])) rfl rfl (hb hby d1_4) t hr) ?_
  rw [len_of Sz1 Ng1]
  refine Rch.st (fun _ hr => XS.aconstNull X0.here hx rfl (hb hby d1_5) hr) ?_
  have hS0 : s.Since s.vm h0.size := (State.WarmedH.refl s).since _
  obtain ⟨_, T2, Lc2, X2, hQ2, hC2, hS2, hZ2, hown2, st2⟩ := own_callIH (s := s) (vm0 := s.vm) X0 hx hZ hS0 (Nat.le_refl _) (own_EW hw) CR0.1 (xs := [a]) (allS ⟨zP1.lt, sf_a⟩ all0) (y := Y_0) rfl hown (own_w hw 7 rfl) (own_w hw 8 rfl) (own_w hw 2 rfl) (own_w hw 10 rfl) (by decide) (W := 0) (cinit0 l Z a0 hw [] a ca cs h0 n0 zD0 zP0 zP1 zP2 zP3 zP4) (by decide) (by decide) e0 (by decide) (by decide) (g := (mkF m 6 #[.val (.ref a), .val (.ref ca)] [.null, (.int (0 : Int32)), (.int (0 : Int32)), (.ref ca), (.ref a)])) rfl (by rw [hml]; rfl) (a := a) (argsL := [(.ref ca), (.int (0 : Int32)), (.int (0 : Int32)), .null]) (rest := []) (lenOf pd_0 rfl) rfl (own_mr rfl rfl) (hb hby d1_6) rfl
  obtain ⟨bx_2, kb_2, rfl, N2q, Kp2, Op2, R2_0, R2_1, R2_2, R2_3⟩ := hQ2
  have N2 := Fr.app N0 N2q
  refine Rch.st st2 ?_
  have ne3 := (Ne.symm (Exa.neArv zP1 zP5 (own_w hw 1 rfl)))
  have CR4 := CR0.trans hC2
  have K5 := (Keep.refl h0 [a]).trans Kp2 (allS (Or.inl (List.mem_of_getElem? (i := 0) rfl)) all0)
  obtain ⟨fs, hr, hrun, hended, hREW⟩ := Jvm.Stand.leaveW (s := s) (vm₁ := T2.vm) X2 hS2 (Nat.le_refl _) (v := none) (fun _ => rfl)
  have hCE : CHr Z consts_1 s.vm s.heap T2.vm T2.heap := by rw [hh]; exact CR4.trans (CHv.at (s := s) (vm0 := T2.vm) X2 hZ2 (own_EW hw) CR4.1)
  refine Rch.fin (u := T2.setFrames fs) (X2.returnOut hx Bd.returns (hb hby d1_9) hr) ⟨_, hrun, hended, _, _, rfl, ?_, hCE, hREW.1, hREW.2.1, hREW.2.2.1, hREW.2.2.2.mono (by decide) (by decide)⟩
  show Q_cinitC0 Z a ca kc cs h0 n0 _ T2.heap _ T2.vm
  exact ⟨bx_2, kb_2, rfl, N2, K5, Op2, R2_0, R2_1, R2_2, R2_3⟩
theorem d9_0 : decode jdk_52_method_21_code 0 = .ok (.iconst 0, 1) := by decide +kernel
theorem d9_1 : decode jdk_52_method_21_code 1 = .ok (.istore 5, 2) := by decide +kernel
theorem d9_3 : decode jdk_52_method_21_code 3 = .ok (.iload 5, 2) := by decide +kernel
theorem d9_5 : decode jdk_52_method_21_code 5 = .ok (.iload 4, 2) := by decide +kernel
theorem d9_7 : decode jdk_52_method_21_code 7 = .ok (.if_icmp .ge 37, 3) := by decide +kernel
theorem d9_10 : decode jdk_52_method_21_code 10 = .ok (.aload_n 0, 1) := by decide +kernel
theorem d9_11 : decode jdk_52_method_21_code 11 = .ok (.iload_n 1, 1) := by decide +kernel
theorem d9_12 : decode jdk_52_method_21_code 12 = .ok (.caload, 1) := by decide +kernel
theorem d9_13 : decode jdk_52_method_21_code 13 = .ok (.istore 6, 2) := by decide +kernel
theorem d9_15 : decode jdk_52_method_21_code 15 = .ok (.iload 6, 2) := by decide +kernel
theorem d9_17 : decode jdk_52_method_21_code 17 = .ok (.sipush 255, 3) := by decide +kernel
theorem d9_20 : decode jdk_52_method_21_code 20 = .ok (.if_icmp .le 6, 3) := by decide +kernel
theorem d9_26 : decode jdk_52_method_21_code 26 = .ok (.aload_n 2, 1) := by decide +kernel
theorem d9_27 : decode jdk_52_method_21_code 27 = .ok (.iload_n 3, 1) := by decide +kernel
theorem d9_28 : decode jdk_52_method_21_code 28 = .ok (.iload 6, 2) := by decide +kernel
theorem d9_30 : decode jdk_52_method_21_code 30 = .ok (.i2b, 1) := by decide +kernel
theorem d9_31 : decode jdk_52_method_21_code 31 = .ok (.bastore, 1) := by decide +kernel
theorem d9_32 : decode jdk_52_method_21_code 32 = .ok (.iinc 1 1, 3) := by decide +kernel
theorem d9_35 : decode jdk_52_method_21_code 35 = .ok (.iinc 3 1, 3) := by decide +kernel
theorem d9_38 : decode jdk_52_method_21_code 38 = .ok (.iinc 5 1, 3) := by decide +kernel
theorem d9_41 : decode jdk_52_method_21_code 41 = .ok (.goto (-38), 3) := by decide +kernel
theorem d9_44 : decode jdk_52_method_21_code 44 = .ok (.iload 4, 2) := by decide +kernel
theorem d9_46 : decode jdk_52_method_21_code 46 = .ok (.ireturn, 1) := by decide +kernel
def Q_ccompI2 (Z : State) (va : Addr) (vb : Addr) (ka : ClassId) (kb : ClassId) (y0 : Int32) (y1 : Int32) (h0 : Heap) (n0 : Nat) (v : Option Value) (h : Heap) (L : List Loc) : Prop := v = some (.int (2 : Int32)) ∧ Fr n0 L ∧ Keep h0 h [vb] ∧ Old Z n0 h ∧ Arv Z h vb kb .byte (2 : Int32) [(.int y0), (.int y1)] (.int (0 : Int32))
theorem pn_java_lang_StringUTF16 : plainName "java/lang/StringUTF16" = true := by first | (simp [plainName, overriddenIn]; done) | decide +kernel
theorem ef_ccompI2 (m : MethodId) (va : Addr) (vb : Addr) (ka : ClassId) (kb : ClassId) (y0 : Int32) (y1 : Int32) : entryFrame m #[(.ref va), (.int (0 : Int32)), (.ref vb), (.int (0 : Int32)), (.int (2 : Int32))] 7 = mkF m 0 #[.val (.ref va), .val (.int (0 : Int32)), .val (.ref vb), .val (.int (0 : Int32)), .val (.int (2 : Int32)), .unset, .unset] [] := by first | (simp [entryFrame, mkF, argsToLocals, Value.category]; done) | rfl
set_option maxRecDepth 65536 in
set_option maxHeartbeats 40000000 in
theorem ccompI2 (l : Launch) (Z : State) (a0 : Array Value) (hw : ∀ d ∈ tables_1, d.before a0 Z = true) (ws : List Jvm.Cond) (va : Addr) (vb : Addr) (ka : ClassId) (kb : ClassId) (y0 : Int32) (y1 : Int32) (h0 : Heap) (n0 : Nat) (zP0 : Old Z n0 h0) (zP1 : Arv Z h0 va ka .char (2 : Int32) [(.int y0), (.int y1)] (.int (0 : Int32))) (zP2 : Arv Z h0 vb kb .byte (2 : Int32) [(.int (0 : Int32)), (.int (0 : Int32))] (.int (0 : Int32))) (zP3 : n0 ≤ vb) (zP4 : va ≠ vb) (ha0 : own_A y0) (ha1 : own_A y1) :
    MetFree l (⟨"java/lang/StringUTF16", "compress", "([CI[BII)I"⟩ : MethodName) (head1 (Jvm.Cond.code (⟨"java/lang/StringUTF16", "compress", "([CI[BII)I"⟩ : MethodName) jdk_52_method_21_code 7 (some .int) :: ws) ({ frames := 0, cells := 0, slots := 0, locals := 0 } : Room)) (fun aA uU => aA = #[(.ref va), (.int (0 : Int32)), (.ref vb), (.int (0 : Int32)), (.int (2 : Int32))] ∧ Z.Warmed39 uU.vm ∧ uU.heap = h0) (fun _ _ _ _ _ => True) (fun _ uU oO uU' => ∃ vV lL, oO = .returned vV ∧ Q_ccompI2 Z va vb ka kb y0 y1 h0 n0 vV uU'.heap lL ∧ FrameEnd uU oO uU' lL ({ frames := 0, cells := 0, slots := 0, locals := 0 } : Room).cells ({ frames := 0, cells := 0, slots := 0, locals := 0 } : Room).slots) := by
  refine MetFree.of_bodySF (plainFor_of_name pn_java_lang_StringUTF16) hisR ?_
  intro p e s m args below meth c s₁ Bd hml0 hP hK
  obtain ⟨rfl, hZ, hh⟩ := hP
  have hx := Bd.exec
  have hby := Bd.bytes
  have hml : c.maxLocals = 7 := hml0
  have hown : s.vm.findClass "java/lang/StringUTF16" = some m.cls := findClass_of_methodNamed Bd.named
  have hnm := (name_of_methodNamed Bd.named Bd.method).1
  have X0 : Stand p l e ({ frames := 0, cells := 0, slots := 0, locals := 0 } : Room) s m #[(.ref va), (.int (0 : Int32)), (.ref vb), (.int (0 : Int32)), (.int (2 : Int32))] below meth c s₁ [] 0 0 := Stand.of_body Bd
  have e0 : s₁.heap = h0 := by rw [← hh, Bd.state]; rfl
  have N0 := Fr.nil n0
  refine Rch.out (Rch.st (fun t k => castTop (ef_ccompI2 m va vb ka kb y0 y1) k) ?_)
  show Rch p.tables e below _ (s₁.setTop (mkF m 0 #[.val (.ref va), .val (.int (0 : Int32)), .val (.ref vb), .val (.int (0 : Int32)), .val (.int (2 : Int32)), .unset, .unset] []))
  refine Rch.st (fun _ hr => XS.iconst X0.here hx rfl (hb hby d9_0) hr) ?_
  refine Rch.st (fun _ hr => XS.istore X0.here hx rfl (hb hby d9_1) rfl (l' := #[.val (.ref va), .val (.int (0 : Int32)), .val (.ref vb), .val (.int (0 : Int32)), .val (.int (2 : Int32)), .val (.int (0 : Int32)), .unset]) rfl hr) ?_
  refine Rch.st (fun _ hr => XS.iload X0.here hx rfl (hb hby d9_3) rfl hr) ?_
  refine Rch.st (fun _ hr => XS.iload X0.here hx rfl (hb hby d9_5) rfl hr) ?_
  refine Rch.st (fun _ hr => XS.icmpNo X0.here hx rfl (hb hby d9_7) rfl (tlt (by decide : (0 : Int32) < (2 : Int32))).2.1 hr) ?_
  refine Rch.st (fun _ hr => XS.aloadN X0.here hx rfl (hb hby d9_10) rfl rfl hr) ?_
  refine Rch.st (fun _ hr => XS.iloadN X0.here hx rfl (hb hby d9_11) rfl hr) ?_
  obtain ⟨cl1, Ar1, -, Sz1, Ng1, Ha1, -⟩ := id zP1
  have hin1 := inb_of (j := (0 : Int32)) Sz1 ⟨by decide, by decide⟩
  have hat1 := Ha1.at hin1 (v := (.int y0)) rfl
  refine Rch.st (fun t hr => X0.caload hx (j := (0 : Int32)) (v := (.int y0)) (by rw [e0]; exact Ar1.1) (State.isArrayOf_alike hZ.alike Ar1.2.1) Ar1.2.2 hin1 hat1 (g := (mkF m 12 #[.val (.ref va), .val (.int (0 : Int32)), .val (.ref vb), .val (.int (0 : Int32)), .val (.int (2 : Int32)), .val (.int (0 : Int32)), .unset] [(.int (0 : Int32)), (.ref va)])) rfl rfl (hb hby d9_12) t hr) ?_
  show Rch p.tables e below _ (s₁.setTop (mkF m 13 #[.val (.ref va), .val (.int (0 : Int32)), .val (.ref vb), .val (.int (0 : Int32)), .val (.int (2 : Int32)), .val (.int (0 : Int32)), .unset] [(.int y0)]))
  refine Rch.st (fun _ hr => XS.istore X0.here hx rfl (hb hby d9_13) rfl (l' := #[.val (.ref va), .val (.int (0 : Int32)), .val (.ref vb), .val (.int (0 : Int32)), .val (.int (2 : Int32)), .val (.int (0 : Int32)), .val (.int y0)]) rfl hr) ?_
  refine Rch.st (fun _ hr => XS.iload X0.here hx rfl (hb hby d9_15) rfl hr) ?_
  refine Rch.st (fun _ hr => XS.sipush X0.here hx rfl (hb hby d9_17) hr) ?_
  refine Rch.st (fun _ hr => XS.icmpYes X0.here hx rfl (pc0 := 20) (pc' := 26) rfl (hb hby d9_20) rfl (flt (own_A255 ha0)).2.2.2 (by decide) (by decide) hr) ?_
  refine Rch.st (fun _ hr => XS.aloadN X0.here hx rfl (hb hby d9_26) rfl rfl hr) ?_
  refine Rch.st (fun _ hr => XS.iloadN X0.here hx rfl (hb hby d9_27) rfl hr) ?_
  refine Rch.st (fun _ hr => XS.iload X0.here hx rfl (hb hby d9_28) rfl hr) ?_
  refine Rch.st (fun _ hr => XS.i2b X0.here hx rfl (hb hby d9_30) rfl hr) ?_
  show Rch p.tables e below _ (s₁.setTop (mkF m 31 #[.val (.ref va), .val (.int (0 : Int32)), .val (.ref vb), .val (.int (0 : Int32)), .val (.int (2 : Int32)), .val (.int (0 : Int32)), .val (.int y0)] [(.int (y0.toInt8.toInt32)), (.int (0 : Int32)), (.ref vb)]))
  rw [own_i2b ha0]
  obtain ⟨cl2, Ar2, qk2, Sz2, Ng2, Ha2, Gf2⟩ := id zP2
  have hin2 := inb_of (j := (0 : Int32)) Sz2 ⟨by decide, by decide⟩
  obtain ⟨T3, h3, X3, e3, W3, st3⟩ := stB X0 hx hZ e0 Ar2 (j := (0 : Int32)) hin2 (g := (mkF m 31 #[.val (.ref va), .val (.int (0 : Int32)), .val (.ref vb), .val (.int (0 : Int32)), .val (.int (2 : Int32)), .val (.int (0 : Int32)), .val (.int y0)] [(.int y0), (.int (0 : Int32)), (.ref vb)])) rfl rfl (hb hby d9_31)
  rw [own_nar_byte ha0] at W3
  refine Rch.st st3 ?_
  have N3 := Fr.snoc X3 N0 zP3
  have K4 := (Keep.refl h0 [vb]).wr W3 (Or.inl (List.mem_of_getElem? (i := 0) rfl))
  have V3 : Arv Z h3 vb kb .byte (2 : Int32) [(.int y0), (.int (0 : Int32))] (.int (0 : Int32)) := Arv.set Ar2 qk2 Sz2 Ng2 Ha2 Gf2 (own_fit_byte ha0) W3 0 rfl (Nat.le_of_ble_eq_true rfl)
  refine Rch.st (fun _ hr => XS.iinc X3.here hx rfl (hb hby d9_32) rfl (l' := #[.val (.ref va), .val (.int (1 : Int32)), .val (.ref vb), .val (.int (0 : Int32)), .val (.int (2 : Int32)), .val (.int (0 : Int32)), .val (.int y0)]) rfl hr) ?_
  refine Rch.st (fun _ hr => XS.iinc X3.here hx rfl (hb hby d9_35) rfl (l' := #[.val (.ref va), .val (.int (1 : Int32)), .val (.ref vb), .val (.int (1 : Int32)), .val (.int (2 : Int32)), .val (.int (0 : Int32)), .val (.int y0)]) rfl hr) ?_
  refine Rch.st (fun _ hr => XS.iinc X3.here hx rfl (hb hby d9_38) rfl (l' := #[.val (.ref va), .val (.int (1 : Int32)), .val (.ref vb), .val (.int (1 : Int32)), .val (.int (2 : Int32)), .val (.int (1 : Int32)), .val (.int y0)]) rfl hr) ?_
  refine Rch.st (fun _ hr => XS.goto X3.here hx rfl (pc0 := 41) (pc' := 3) rfl (hb hby d9_41) (by decide) (by decide) hr) ?_
  refine Rch.st (fun _ hr => XS.iload X3.here hx rfl (hb hby d9_3) rfl hr) ?_
  refine Rch.st (fun _ hr => XS.iload X3.here hx rfl (hb hby d9_5) rfl hr) ?_
  show Rch p.tables e below _ (T3.setTop (mkF m 7 #[.val (.ref va), .val (.int (1 : Int32)), .val (.ref vb), .val (.int (1 : Int32)), .val (.int (2 : Int32)), .val (.int (1 : Int32)), .val (.int y0)] [(.int (2 : Int32)), (.int (1 : Int32))]))
  refine Rch.st (fun _ hr => XS.icmpNo X3.here hx rfl (hb hby d9_7) rfl (tlt (by decide : (1 : Int32) < (2 : Int32))).2.1 hr) ?_
  refine Rch.st (fun _ hr => XS.aloadN X3.here hx rfl (hb hby d9_10) rfl rfl hr) ?_
  refine Rch.st (fun _ hr => XS.iloadN X3.here hx rfl (hb hby d9_11) rfl hr) ?_
  have f5 := (zP1.other W3 zP4)
  obtain ⟨cl6, Ar6, -, Sz6, Ng6, Ha6, -⟩ := id f5
  have hin6 := inb_of (j := (1 : Int32)) Sz6 ⟨by decide, by decide⟩
  have hat6 := Ha6.at hin6 (v := (.int y1)) rfl
  refine Rch.st (fun t hr => X3.caload hx (j := (1 : Int32)) (v := (.int y1)) (by rw [e3]; exact Ar6.1) (State.isArrayOf_alike hZ.alike Ar6.2.1) Ar6.2.2 hin6 hat6 (g := (mkF m 12 #[.val (.ref va), .val (.int (1 : Int32)), .val (.ref vb), .val (.int (1 : Int32)), .val (.int (2 : Int32)), .val (.int (1 : Int32)), .val (.int y0)] [(.int (1 : Int32)), (.ref va)])) rfl rfl (hb hby d9_12) t hr) ?_
  refine Rch.st (fun _ hr => XS.istore X3.here hx rfl (hb hby d9_13) rfl (l' := #[.val (.ref va), .val (.int (1 : Int32)), .val (.ref vb), .val (.int (1 : Int32)), .val (.int (2 : Int32)), .val (.int (1 : Int32)), .val (.int y1)]) rfl hr) ?_
  refine Rch.st (fun _ hr => XS.iload X3.here hx rfl (hb hby d9_15) rfl hr) ?_
  refine Rch.st (fun _ hr => XS.sipush X3.here hx rfl (hb hby d9_17) hr) ?_
  refine Rch.st (fun _ hr => XS.icmpYes X3.here hx rfl (pc0 := 20) (pc' := 26) rfl (hb hby d9_20) rfl (flt (own_A255 ha1)).2.2.2 (by decide) (by decide) hr) ?_
  show Rch p.tables e below _ (T3.setTop (mkF m 26 #[.val (.ref va), .val (.int (1 : Int32)), .val (.ref vb), .val (.int (1 : Int32)), .val (.int (2 : Int32)), .val (.int (1 : Int32)), .val (.int y1)] []))
  refine Rch.st (fun _ hr => XS.aloadN X3.here hx rfl (hb hby d9_26) rfl rfl hr) ?_
  refine Rch.st (fun _ hr => XS.iloadN X3.here hx rfl (hb hby d9_27) rfl hr) ?_
  refine Rch.st (fun _ hr => XS.iload X3.here hx rfl (hb hby d9_28) rfl hr) ?_
  refine Rch.st (fun _ hr => XS.i2b X3.here hx rfl (hb hby d9_30) rfl hr) ?_
  show Rch p.tables e below _ (T3.setTop (mkF m 31 #[.val (.ref va), .val (.int (1 : Int32)), .val (.ref vb), .val (.int (1 : Int32)), .val (.int (2 : Int32)), .val (.int (1 : Int32)), .val (.int y1)] [(.int (y1.toInt8.toInt32)), (.int (1 : Int32)), (.ref vb)]))
  rw [own_i2b ha1]
  obtain ⟨cl7, Ar7, qk7, Sz7, Ng7, Ha7, Gf7⟩ := id V3
  have hin7 := inb_of (j := (1 : Int32)) Sz7 ⟨by decide, by decide⟩
  obtain ⟨T8, h8, X8, e8, W8, st8⟩ := stB X3 hx hZ e3 Ar7 (j := (1 : Int32)) hin7 (g := (mkF m 31 #[.val (.ref va), .val (.int (1 : Int32)), .val (.ref vb), .val (.int (1 : Int32)), .val (.int (2 : Int32)), .val (.int (1 : Int32)), .val (.int y1)] [(.int y1), (.int (1 : Int32)), (.ref vb)])) rfl rfl (hb hby d9_31)
  rw [own_nar_byte ha1] at W8
  refine Rch.st st8 ?_
  have N8 := Fr.snoc X8 N3 zP3
  have f9 := (zP0.wr W3 zP3)
  have K10 := K4.wr W8 (Or.inl (List.mem_of_getElem? (i := 0) rfl))
  have V8 : Arv Z h8 vb kb .byte (2 : Int32) [(.int y0), (.int y1)] (.int (0 : Int32)) := Arv.set Ar7 qk7 Sz7 Ng7 Ha7 Gf7 (own_fit_byte ha1) W8 1 rfl (Nat.le_of_ble_eq_true rfl)
  refine Rch.st (fun _ hr => XS.iinc X8.here hx rfl (hb hby d9_32) rfl (l' := #[.val (.ref va), .val (.int (2 : Int32)), .val (.ref vb), .val (.int (1 : Int32)), .val (.int (2 : Int32)), .val (.int (1 : Int32)), .val (.int y1)]) rfl hr) ?_
  refine Rch.st (fun _ hr => XS.iinc X8.here hx rfl (hb hby d9_35) rfl (l' := #[.val (.ref va), .val (.int (2 : Int32)), .val (.ref vb), .val (.int (2 : Int32)), .val (.int (2 : Int32)), .val (.int (1 : Int32)), .val (.int y1)]) rfl hr) ?_
  refine Rch.st (fun _ hr => XS.iinc X8.here hx rfl (hb hby d9_38) rfl (l' := #[.val (.ref va), .val (.int (2 : Int32)), .val (.ref vb), .val (.int (2 : Int32)), .val (.int (2 : Int32)), .val (.int (2 : Int32)), .val (.int y1)]) rfl hr) ?_
  refine Rch.st (fun _ hr => XS.goto X8.here hx rfl (pc0 := 41) (pc' := 3) rfl (hb hby d9_41) (by decide) (by decide) hr) ?_
  refine Rch.st (fun _ hr => XS.iload X8.here hx rfl (hb hby d9_3) rfl hr) ?_
  refine Rch.st (fun _ hr => XS.iload X8.here hx rfl (hb hby d9_5) rfl hr) ?_
  show Rch p.tables e below _ (T8.setTop (mkF m 7 #[.val (.ref va), .val (.int (2 : Int32)), .val (.ref vb), .val (.int (2 : Int32)), .val (.int (2 : Int32)), .val (.int (2 : Int32)), .val (.int y1)] [(.int (2 : Int32)), (.int (2 : Int32))]))
  refine Rch.st (fun _ hr => XS.icmpYes X8.here hx rfl (pc0 := 7) (pc' := 44) rfl (hb hby d9_7) rfl (flt (by decide : ¬ ((2 : Int32) < (2 : Int32)))).2.1 (by decide) (by decide) hr) ?_
  refine Rch.st (fun _ hr => XS.iload X8.here hx rfl (hb hby d9_44) rfl hr) ?_
  obtain ⟨fs, hr, hrun, hended, hW, hsame⟩ := X8.leave (v := some (.int (2 : Int32))) (fun h => by rw [Bd.returns] at h; cases h)
  have f11 := (f9.wr W8 zP3)
  refine Rch.fin (u := T8.setFrames fs) (own_retI X8 hx Bd.returns (hb hby d9_46) hr) ⟨_, hrun, hended, _, _, rfl, ?_, ⟨_, rfl⟩, hW, hsame.mono (by decide) (by decide)⟩
  show Q_ccompI2 Z va vb ka kb y0 y1 h0 n0 _ T8.heap _
  rw [e8]
  exact ⟨rfl, N8, K10, f11, V8⟩
theorem d8_0 : decode jdk_52_method_16_code 0 = .ok (.iload_n 2, 1) := by decide +kernel
theorem d8_1 : decode jdk_52_method_16_code 1 = .ok (.newarray .byte, 2) := by decide +kernel
theorem d8_3 : decode jdk_52_method_16_code 3 = .ok (.astore_n 3, 1) := by decide +kernel
theorem d8_4 : decode jdk_52_method_16_code 4 = .ok (.aload_n 0, 1) := by decide +kernel
theorem d8_5 : decode jdk_52_method_16_code 5 = .ok (.iload_n 1, 1) := by decide +kernel
theorem d8_6 : decode jdk_52_method_16_code 6 = .ok (.aload_n 3, 1) := by decide +kernel
theorem d8_7 : decode jdk_52_method_16_code 7 = .ok (.iconst 0, 1) := by decide +kernel
theorem d8_8 : decode jdk_52_method_16_code 8 = .ok (.iload_n 2, 1) := by decide +kernel
theorem d8_9 : decode jdk_52_method_16_code 9 = .ok (.invokestatic 115, 3) := by decide +kernel
theorem pd_1 : parseMethodDescriptor "([CI[BII)I" = some ⟨[(.array .char), .int, (.array .byte), .int, .int], some .int⟩ := by decide +kernel
abbrev Y_1 : MethodName := ⟨"java/lang/StringUTF16", "compress", "([CI[BII)I"⟩
theorem d8_12 : decode jdk_52_method_16_code 12 = .ok (.istore 4, 2) := by decide +kernel
theorem d8_14 : decode jdk_52_method_16_code 14 = .ok (.iload 4, 2) := by decide +kernel
theorem d8_16 : decode jdk_52_method_16_code 16 = .ok (.iload_n 2, 1) := by decide +kernel
theorem d8_17 : decode jdk_52_method_16_code 17 = .ok (.if_icmp .eq 40, 3) := by decide +kernel
theorem d8_57 : decode jdk_52_method_16_code 57 = .ok (.aload_n 3, 1) := by decide +kernel
theorem d8_58 : decode jdk_52_method_16_code 58 = .ok (.areturn, 1) := by decide +kernel
def Q_ccomp2 (Z : State) (va : Addr) (ka : ClassId) (y0 : Int32) (y1 : Int32) (h0 : Heap) (n0 : Nat) (v : Option Value) (h : Heap) (L : List Loc) : Prop := ∃ (r : Addr) (kr : ClassId), v = some (.ref r) ∧ Fr n0 L ∧ Keep h0 h [] ∧ Old Z n0 h ∧ h0.size ≤ r ∧ Arv Z h r kr .byte (2 : Int32) [(.int y0), (.int y1)] (.int (0 : Int32))
theorem ef_ccomp2 (m : MethodId) (va : Addr) (ka : ClassId) (y0 : Int32) (y1 : Int32) : entryFrame m #[(.ref va), (.int (0 : Int32)), (.int (2 : Int32))] 6 = mkF m 0 #[.val (.ref va), .val (.int (0 : Int32)), .val (.int (2 : Int32)), .unset, .unset, .unset] [] := by first | (simp [entryFrame, mkF, argsToLocals, Value.category]; done) | rfl
set_option maxRecDepth 65536 in
set_option maxHeartbeats 40000000 in
theorem ccomp2 (l : Launch) (Z : State) (a0 : Array Value) (hw : ∀ d ∈ tables_1, d.before a0 Z = true) (ws : List Jvm.Cond) (va : Addr) (ka : ClassId) (y0 : Int32) (y1 : Int32) (h0 : Heap) (n0 : Nat) (zP0 : Old Z n0 h0) (zP1 : Arv Z h0 va ka .char (2 : Int32) [(.int y0), (.int y1)] (.int (0 : Int32))) (ha0 : own_A y0) (ha1 : own_A y1) :
    MetFree l (⟨"java/lang/StringUTF16", "compress", "([CII)[B"⟩ : MethodName) (head1 (Jvm.Cond.code (⟨"java/lang/StringUTF16", "compress", "([CII)[B"⟩ : MethodName) jdk_52_method_16_code 6 (some (.array .byte)) :: ws) ({ frames := 1, cells := 1, slots := 2, locals := 18 } : Room)) (fun aA uU => aA = #[(.ref va), (.int (0 : Int32)), (.int (2 : Int32))] ∧ Z.Warmed39 uU.vm ∧ uU.heap = h0) (fun _ _ _ _ _ => True) (fun _ uU oO uU' => ∃ vV lL, oO = .returned vV ∧ Q_ccomp2 Z va ka y0 y1 h0 n0 vV uU'.heap lL ∧ FrameEnd uU oO uU' lL ({ frames := 1, cells := 1, slots := 2, locals := 18 } : Room).cells ({ frames := 1, cells := 1, slots := 2, locals := 18 } : Room).slots) := by
  refine MetFree.of_bodySF (plainFor_of_name pn_java_lang_StringUTF16) hisR ?_
  intro p e s m args below meth c s₁ Bd hml0 hP hK
  obtain ⟨rfl, hZ, hh⟩ := hP
  have hx := Bd.exec
  have hby := Bd.bytes
  have hml : c.maxLocals = 6 := hml0
  have hown : s.vm.findClass "java/lang/StringUTF16" = some m.cls := findClass_of_methodNamed Bd.named
  have hnm := (name_of_methodNamed Bd.named Bd.method).1
  have X0 : Stand p l e ({ frames := 1, cells := 1, slots := 2, locals := 18 } : Room) s m #[(.ref va), (.int (0 : Int32)), (.int (2 : Int32))] below meth c s₁ [] 0 0 := Stand.of_body Bd
  have e0 : s₁.heap = h0 := by rw [← hh, Bd.state]; rfl
  have N0 := Fr.nil n0
  refine Rch.out (Rch.st (fun t k => castTop (ef_ccomp2 m va ka y0 y1) k) ?_)
  show Rch p.tables e below _ (s₁.setTop (mkF m 0 #[.val (.ref va), .val (.int (0 : Int32)), .val (.int (2 : Int32)), .unset, .unset, .unset] []))
  refine Rch.st (fun _ hr => XS.iloadN X0.here hx rfl (hb hby d8_0) rfl hr) ?_
  obtain ⟨T1, h1, k1, X1, e1, E1, A1, st1⟩ := newP X0 hx hZ (own_w hw 15 rfl) e0 (g := (mkF m 1 #[.val (.ref va), .val (.int (0 : Int32)), .val (.int (2 : Int32)), .unset, .unset, .unset] [(.int (2 : Int32))])) rfl (hb hby d8_1) rfl (by decide) (cap := 2) (by decide) (by decide) (by decide) (by decide)
  obtain ⟨b1, g1⟩ : ∃ z, z = h0.size := ⟨_, rfl⟩
  rw [← g1] at A1 st1
  refine Rch.st st1 ?_
  have q1 : h0.size ≤ b1 := Nat.le_of_eq g1.symm
  have ne2 := Nat.ne_of_lt (Nat.lt_of_lt_of_le zP1.lt q1)
  have g_b1 : n0 ≤ b1 := Nat.le_trans (Nat.le_trans (Nat.le_of_eq zP0.1.symm) zP0.2.1) q1
  have sz_b1 : h0.size ≤ b1 := Nat.le_trans (Keep.refl h0 []).1 q1
  have K3 := (Keep.refl h0 []).ext E1
  have V1 : Arv Z h1 b1 k1 .byte (2 : Int32) [(.int (0 : Int32)), (.int (0 : Int32))] (.int (0 : Int32)) := (Arv.new A1 (by decide)).pad (pad_rep [] (.int (0 : Int32)) 2)
  refine Rch.st (fun _ hr => XS.astoreN X1.here hx rfl (hb hby d8_3) rfl rfl (l' := #[.val (.ref va), .val (.int (0 : Int32)), .val (.int (2 : Int32)), .val (.ref b1), .unset, .unset]) rfl hr) ?_
  refine Rch.st (fun _ hr => XS.aloadN X1.here hx rfl (hb hby d8_4) rfl rfl hr) ?_
  refine Rch.st (fun _ hr => XS.iloadN X1.here hx rfl (hb hby d8_5) rfl hr) ?_
  refine Rch.st (fun _ hr => XS.aloadN X1.here hx rfl (hb hby d8_6) rfl rfl hr) ?_
  refine Rch.st (fun _ hr => XS.iconst X1.here hx rfl (hb hby d8_7) hr) ?_
  refine Rch.st (fun _ hr => XS.iloadN X1.here hx rfl (hb hby d8_8) rfl hr) ?_
  show Rch p.tables e below _ (T1.setTop (mkF m 9 #[.val (.ref va), .val (.int (0 : Int32)), .val (.int (2 : Int32)), .val (.ref b1), .unset, .unset] [(.int (2 : Int32)), (.int (0 : Int32)), (.ref b1), (.int (0 : Int32)), (.ref va)]))
  have f5 := (zP0.ext E1)
  have f6 := (zP1.ext E1)
  obtain ⟨_, T4, Lc4, X4, hQ4, st4⟩ := own_callS X1 hx hZ (y := Y_1) hown (own_w hw 41 rfl) (own_w hw 42 rfl) (own_w hw 39 rfl) (own_w hw 43 rfl) (by decide) (W := 0) (ccompI2 l Z a0 hw [] va b1 ka k1 y0 y1 h1 n0 f5 f6 V1 g_b1 ne2 ha0 ha1) (by decide) (by decide) e1 (by decide) (by decide) (g := (mkF m 9 #[.val (.ref va), .val (.int (0 : Int32)), .val (.int (2 : Int32)), .val (.ref b1), .unset, .unset] [(.int (2 : Int32)), (.int (0 : Int32)), (.ref b1), (.int (0 : Int32)), (.ref va)])) rfl (by rw [hml]; rfl) (argsL := [(.ref va), (.int (0 : Int32)), (.ref b1), (.int (0 : Int32)), (.int (2 : Int32))]) (rest := []) (lenOf pd_1 rfl) rfl (own_mr rfl rfl) (hb hby d8_9) rfl
  obtain ⟨rfl, N4q, Kp4, Op4, R4_0⟩ := hQ4
  have N4 := Fr.app N0 N4q
  refine Rch.st st4 ?_
  have K7 := K3.trans Kp4 (allS (Or.inr sz_b1) all0)
  refine Rch.st (fun _ hr => XS.istore X4.here hx rfl (hb hby d8_12) rfl (l' := #[.val (.ref va), .val (.int (0 : Int32)), .val (.int (2 : Int32)), .val (.ref b1), .val (.int (2 : Int32)), .unset]) rfl hr) ?_
  refine Rch.st (fun _ hr => XS.iload X4.here hx rfl (hb hby d8_14) rfl hr) ?_
  refine Rch.st (fun _ hr => XS.iloadN X4.here hx rfl (hb hby d8_16) rfl hr) ?_
  refine Rch.st (fun _ hr => XS.icmpYes X4.here hx rfl (pc0 := 17) (pc' := 57) rfl (hb hby d8_17) rfl (teq (by decide : (2 : Int32) = (2 : Int32))).1 (by decide) (by decide) hr) ?_
  refine Rch.st (fun _ hr => XS.aloadN X4.here hx rfl (hb hby d8_57) rfl rfl hr) ?_
  obtain ⟨fs, hr, hrun, hended, hW, hsame⟩ := X4.leave (v := some (.ref b1)) (fun h => by rw [Bd.returns] at h; cases h)
  refine Rch.fin (u := T4.setFrames fs) (own_retA X4 hx Bd.returns rfl rfl rfl (hb hby d8_58) hr) ⟨_, hrun, hended, _, _, rfl, ?_, ⟨_, rfl⟩, hW, hsame.mono (by decide) (by decide)⟩
  show Q_ccomp2 Z va ka y0 y1 h0 n0 _ T4.heap _
  exact ⟨b1, k1, rfl, N4, K7, Op4, sz_b1, R4_0⟩
theorem d10_0 : decode jdk_52_method_15_code 0 = .ok (.iload_n 1, 1) := by decide +kernel
theorem d10_1 : decode jdk_52_method_15_code 1 = .ok (.aload_n 0, 1) := by decide +kernel
theorem d10_2 : decode jdk_52_method_15_code 2 = .ok (.arraylength, 1) := by decide +kernel
theorem d10_3 : decode jdk_52_method_15_code 3 = .ok (.isub, 1) := by decide +kernel
theorem d10_4 : decode jdk_52_method_15_code 4 = .ok (.bipush 31, 2) := by decide +kernel
theorem d10_6 : decode jdk_52_method_15_code 6 = .ok (.iushr, 1) := by decide +kernel
theorem d10_7 : decode jdk_52_method_15_code 7 = .ok (.i2b, 1) := by decide +kernel
theorem d10_8 : decode jdk_52_method_15_code 8 = .ok (.ireturn, 1) := by decide +kernel
def Q_ccfal2 (Z : State) (vb : Addr) (kb : ClassId) (vs : List Value) (h0 : Heap) (n0 : Nat) (v : Option Value) (h : Heap) (L : List Loc) : Prop := v = some (.int (0 : Int32)) ∧ Fr n0 L ∧ h = h0
theorem ef_ccfal2 (m : MethodId) (vb : Addr) (kb : ClassId) (vs : List Value) : entryFrame m #[(.ref vb), (.int (2 : Int32))] 2 = mkF m 0 #[.val (.ref vb), .val (.int (2 : Int32))] [] := by first | (simp [entryFrame, mkF, argsToLocals, Value.category]; done) | rfl
set_option maxRecDepth 65536 in
set_option maxHeartbeats 40000000 in
theorem ccfal2 (l : Launch) (Z : State) (a0 : Array Value) (hw : ∀ d ∈ tables_1, d.before a0 Z = true) (ws : List Jvm.Cond) (vb : Addr) (kb : ClassId) (vs : List Value) (h0 : Heap) (n0 : Nat) (zP0 : Arv Z h0 vb kb .byte (2 : Int32) vs (.int (0 : Int32))) :
    MetFree l (⟨"java/lang/StringUTF16", "coderFromArrayLen", "([BI)B"⟩ : MethodName) (head1 (Jvm.Cond.code (⟨"java/lang/StringUTF16", "coderFromArrayLen", "([BI)B"⟩ : MethodName) jdk_52_method_15_code 2 (some .byte) :: ws) ({ frames := 0, cells := 0, slots := 0, locals := 0 } : Room)) (fun aA uU => aA = #[(.ref vb), (.int (2 : Int32))] ∧ Z.Warmed39 uU.vm ∧ uU.heap = h0) (fun _ _ _ _ _ => True) (fun _ uU oO uU' => ∃ vV lL, oO = .returned vV ∧ Q_ccfal2 Z vb kb vs h0 n0 vV uU'.heap lL ∧ FrameEnd uU oO uU' lL ({ frames := 0, cells := 0, slots := 0, locals := 0 } : Room).cells ({ frames := 0, cells := 0, slots := 0, locals := 0 } : Room).slots) := by
  refine MetFree.of_bodySF (plainFor_of_name pn_java_lang_StringUTF16) hisR ?_
  intro p e s m args below meth c s₁ Bd hml0 hP hK
  obtain ⟨rfl, hZ, hh⟩ := hP
  have hx := Bd.exec
  have hby := Bd.bytes
  have hml : c.maxLocals = 2 := hml0
  have hown : s.vm.findClass "java/lang/StringUTF16" = some m.cls := findClass_of_methodNamed Bd.named
  have hnm := (name_of_methodNamed Bd.named Bd.method).1
  have X0 : Stand p l e ({ frames := 0, cells := 0, slots := 0, locals := 0 } : Room) s m #[(.ref vb), (.int (2 : Int32))] below meth c s₁ [] 0 0 := Stand.of_body Bd
  have e0 : s₁.heap = h0 := by rw [← hh, Bd.state]; rfl
  have N0 := Fr.nil n0
  refine Rch.out (Rch.st (fun t k => castTop (ef_ccfal2 m vb kb vs) k) ?_)
  show Rch p.tables e below _ (s₁.setTop (mkF m 0 #[.val (.ref vb), .val (.int (2 : Int32))] []))
  refine Rch.st (fun _ hr => XS.iloadN X0.here hx rfl (hb hby d10_0) rfl hr) ?_
  refine Rch.st (fun _ hr => XS.aloadN X0.here hx rfl (hb hby d10_1) rfl rfl hr) ?_
  obtain ⟨cl1, Ar1, -, Sz1, Ng1, -, -⟩ := id zP0
  refine Rch.st (fun t hr => X0.arraylength hx (by rw [e0]; exact Ar1.1) (State.isArrayOf_alike hZ.alike Ar1.2.1) (g := (mkF m 2 #[.val (.ref vb), .val (.int (2 : Int32))] [(.ref vb), (.int (2 : Int32))])) rfl rfl (hb hby d10_2) t hr) ?_
  rw [len_of Sz1 Ng1]
  refine Rch.st (fun _ hr => XS.isub X0.here hx rfl (hb hby d10_3) rfl hr) ?_
  refine Rch.st (fun _ hr => XS.bipush X0.here hx rfl (hb hby d10_4) hr) ?_
  refine Rch.st (fun _ hr => XS.iushr X0.here hx rfl (hb hby d10_6) rfl hr) ?_
  refine Rch.st (fun _ hr => XS.i2b X0.here hx rfl (hb hby d10_7) rfl hr) ?_
  obtain ⟨fs, hr, hrun, hended, hW, hsame⟩ := X0.leave (v := some (.int (nar .byte ((((0 : Int32).toUInt32 >>> ((31 : Int32) &&& 31).toUInt32).toInt32).toInt8.toInt32)))) (fun h => by rw [Bd.returns] at h; cases h)
  refine Rch.fin (u := s₁.setFrames fs) (retN X0 hx (t := .byte) Bd.returns (by simp) (hb hby d10_8) hr) ⟨_, hrun, hended, _, _, rfl, ?_, ⟨_, rfl⟩, hW, hsame.mono (by decide) (by decide)⟩
  show Q_ccfal2 Z vb kb vs h0 n0 _ s₁.heap _
  refine ⟨?_, N0, e0⟩
  · exact congrArg (fun z => some (Value.int z)) (by decide)
theorem d2_27 : decode jdk_42_method_149_code 27 = .ok (.getstatic 38, 3) := by decide +kernel
theorem d2_30 : decode jdk_42_method_149_code 30 = .ok (.ifCond .eq 28, 3) := by decide +kernel
theorem d2_33 : decode jdk_42_method_149_code 33 = .ok (.aload_n 1, 1) := by decide +kernel
theorem d2_34 : decode jdk_42_method_149_code 34 = .ok (.iload_n 2, 1) := by decide +kernel
theorem d2_35 : decode jdk_42_method_149_code 35 = .ok (.iload_n 3, 1) := by decide +kernel
theorem d2_36 : decode jdk_42_method_149_code 36 = .ok (.invokestatic 177, 3) := by decide +kernel
theorem pd_2 : parseMethodDescriptor "([CII)[B" = some ⟨[(.array .char), .int, .int], some (.array .byte)⟩ := by decide +kernel
abbrev Y_2 : MethodName := ⟨"java/lang/StringUTF16", "compress", "([CII)[B"⟩
theorem d2_39 : decode jdk_42_method_149_code 39 = .ok (.astore 5, 2) := by decide +kernel
theorem d2_41 : decode jdk_42_method_149_code 41 = .ok (.aload_n 0, 1) := by decide +kernel
theorem d2_42 : decode jdk_42_method_149_code 42 = .ok (.aload 5, 2) := by decide +kernel
theorem d2_44 : decode jdk_42_method_149_code 44 = .ok (.iload_n 3, 1) := by decide +kernel
theorem d2_45 : decode jdk_42_method_149_code 45 = .ok (.invokestatic 47, 3) := by decide +kernel
theorem pd_3 : parseMethodDescriptor "([BI)B" = some ⟨[(.array .byte), .int], some .byte⟩ := by decide +kernel
abbrev Y_3 : MethodName := ⟨"java/lang/StringUTF16", "coderFromArrayLen", "([BI)B"⟩
theorem d2_48 : decode jdk_42_method_149_code 48 = .ok (.putfield 15, 3) := by decide +kernel
theorem d2_51 : decode jdk_42_method_149_code 51 = .ok (.aload_n 0, 1) := by decide +kernel
theorem d2_52 : decode jdk_42_method_149_code 52 = .ok (.aload 5, 2) := by decide +kernel
theorem d2_54 : decode jdk_42_method_149_code 54 = .ok (.putfield 9, 3) := by decide +kernel
theorem d2_57 : decode jdk_42_method_149_code 57 = .ok (.return_, 1) := by decide +kernel
def Q_cinit2 (Z : State) (a : Addr) (va : Addr) (ka : ClassId) (y0 : Int32) (y1 : Int32) (cs : Int32) (h0 : Heap) (n0 : Nat) (v : Option Value) (h : Heap) (L : List Loc) : Prop := ∃ (bx : Addr) (kb : ClassId), v = none ∧ Fr n0 L ∧ Keep h0 h [a] ∧ Old Z n0 h ∧ Exa Z h a "java/lang/String" ∧ Fld Z h a "java/lang/String" "coder" "B" (.int (0 : Int32)) ∧ Fld Z h a "java/lang/String" "value" "[B" (.ref bx) ∧ h0.size ≤ bx ∧ Arv Z h bx kb .byte (2 : Int32) [(.int y0), (.int y1)] (.int (0 : Int32))
theorem ef_cinit2 (m : MethodId) (a : Addr) (va : Addr) (ka : ClassId) (y0 : Int32) (y1 : Int32) (cs : Int32) : entryFrame m #[(.ref a), (.ref va), (.int (0 : Int32)), (.int (2 : Int32)), .null] 6 = mkF m 0 #[.val (.ref a), .val (.ref va), .val (.int (0 : Int32)), .val (.int (2 : Int32)), .val .null, .unset] [] := by first | (simp [entryFrame, mkF, argsToLocals, Value.category]; done) | rfl
set_option maxRecDepth 65536 in
set_option maxHeartbeats 40000000 in
theorem cinit2 (l : Launch) (Z : State) (a0 : Array Value) (hw : ∀ d ∈ tables_1, d.before a0 Z = true) (ws : List Jvm.Cond) (a : Addr) (va : Addr) (ka : ClassId) (y0 : Int32) (y1 : Int32) (cs : Int32) (h0 : Heap) (n0 : Nat) (zD0 : Sta Z Z.heap "java/lang/String" "COMPACT_STRINGS" "Z" (.int cs)) (zP0 : Old Z n0 h0) (zP1 : Exa Z h0 a "java/lang/String") (zP2 : Fld Z h0 a "java/lang/String" "coder" "B" (.int (0 : Int32))) (zP3 : Fld Z h0 a "java/lang/String" "value" "[B" .null) (zP4 : n0 ≤ a) (zP5 : Arv Z h0 va ka .char (2 : Int32) [(.int y0), (.int y1)] (.int (0 : Int32))) (ha0 : own_A y0) (ha1 : own_A y1) (hcs : ¬ cs = (0 : Int32)) :
    MetFree l (⟨"java/lang/String", "<init>", "([CIILjava/lang/Void;)V"⟩ : MethodName) (head1 (Jvm.Cond.code (⟨"java/lang/String", "<init>", "([CIILjava/lang/Void;)V"⟩ : MethodName) jdk_42_method_149_code 6 none :: ws) ({ frames := 2, cells := 1, slots := 2, locals := 35 } : Room)) (fun aA uU => aA = #[(.ref a), (.ref va), (.int (0 : Int32)), (.int (2 : Int32)), .null] ∧ Z.Warmed39 uU.vm ∧ uU.heap = h0) (fun _ _ _ _ _ => True) (fun _ uU oO uU' => ∃ vV lL, oO = .returned vV ∧ Q_cinit2 Z a va ka y0 y1 cs h0 n0 vV uU'.heap lL ∧ FrameEnd uU oO uU' lL ({ frames := 2, cells := 1, slots := 2, locals := 35 } : Room).cells ({ frames := 2, cells := 1, slots := 2, locals := 35 } : Room).slots) := by
  refine MetFree.of_bodySF (plainFor_of_name pn_java_lang_String) hisR ?_
  intro p e s m args below meth c s₁ Bd hml0 hP hK
  obtain ⟨rfl, hZ, hh⟩ := hP
  have hx := Bd.exec
  have hby := Bd.bytes
  have hml : c.maxLocals = 6 := hml0
  have hown : s.vm.findClass "java/lang/String" = some m.cls := findClass_of_methodNamed Bd.named
  have hnm := (name_of_methodNamed Bd.named Bd.method).1
  have X0 : Stand p l e ({ frames := 2, cells := 1, slots := 2, locals := 35 } : Room) s m #[(.ref a), (.ref va), (.int (0 : Int32)), (.int (2 : Int32)), .null] below meth c s₁ [] 0 0 := Stand.of_body Bd
  have e0 : s₁.heap = h0 := by rw [← hh, Bd.state]; rfl
  have N0 := Fr.nil n0
  refine Rch.out (Rch.st (fun t k => castTop (ef_cinit2 m a va ka y0 y1 cs) k) ?_)
  show Rch p.tables e below _ (s₁.setTop (mkF m 0 #[.val (.ref a), .val (.ref va), .val (.int (0 : Int32)), .val (.int (2 : Int32)), .val .null, .unset] []))
  refine Rch.st (fun _ hr => XS.aloadN X0.here hx rfl (hb hby d2_0) rfl rfl hr) ?_
  obtain ⟨T1, X1, e1, st1⟩ := initO X0 hx hZ hown (own_w hw 11 rfl) (own_w hw 12 rfl) (own_w hw 13 rfl) e0 (g := (mkF m 1 #[.val (.ref a), .val (.ref va), .val (.int (0 : Int32)), .val (.int (2 : Int32)), .val .null, .unset] [(.ref a)])) rfl (by rw [hml]; rfl) rfl (hb hby d2_1) (by decide) (W := 0) (own_mr rfl rfl) (by decide)
  refine Rch.st st1 ?_
  refine Rch.st (fun _ hr => XS.iloadN X1.here hx rfl (hb hby d2_4) rfl hr) ?_
  refine Rch.st (fun _ hr => XS.ifYes X1.here hx rfl (pc0 := 5) (pc' := 27) rfl (hb hby d2_5) rfl ((if0 _ _).trans (feq (by decide : ¬ ((2 : Int32) = (0 : Int32)))).2) (by decide) (by decide) hr) ?_
  obtain ⟨T2, X2, e2, st2⟩ := getS2 X1 hx hZ hown (host := "") (Or.inl (own_w hw 25 rfl)) Via.refl e1 (zD0.ext zP0.2) (g := (mkF m 27 #[.val (.ref a), .val (.ref va), .val (.int (0 : Int32)), .val (.int (2 : Int32)), .val .null, .unset] [])) rfl (hb hby d2_27)
  refine Rch.st st2 ?_
  refine Rch.st (fun _ hr => XS.ifNo X2.here hx rfl (hb hby d2_30) rfl ((if0 _ _).trans (feq hcs).1) hr) ?_
  refine Rch.st (fun _ hr => XS.aloadN X2.here hx rfl (hb hby d2_33) rfl rfl hr) ?_
  refine Rch.st (fun _ hr => XS.iloadN X2.here hx rfl (hb hby d2_34) rfl hr) ?_
  show Rch p.tables e below _ (T2.setTop (mkF m 35 #[.val (.ref a), .val (.ref va), .val (.int (0 : Int32)), .val (.int (2 : Int32)), .val .null, .unset] [(.int (0 : Int32)), (.ref va)]))
  refine Rch.st (fun _ hr => XS.iloadN X2.here hx rfl (hb hby d2_35) rfl hr) ?_
  obtain ⟨_, T3, Lc3, X3, hQ3, st3⟩ := own_callS X2 hx hZ (y := Y_2) hown (own_w hw 37 rfl) (own_w hw 38 rfl) (own_w hw 39 rfl) (own_w hw 40 rfl) (by decide) (W := 0) (ccomp2 l Z a0 hw [] va ka y0 y1 h0 n0 zP0 zP5 ha0 ha1) (by decide) (by decide) e2 (by decide) (by decide) (g := (mkF m 36 #[.val (.ref a), .val (.ref va), .val (.int (0 : Int32)), .val (.int (2 : Int32)), .val .null, .unset] [(.int (2 : Int32)), (.int (0 : Int32)), (.ref va)])) rfl (by rw [hml]; rfl) (argsL := [(.ref va), (.int (0 : Int32)), (.int (2 : Int32))]) (rest := []) (lenOf pd_2 rfl) rfl (own_mr rfl rfl) (hb hby d2_36) rfl
  obtain ⟨r_3, kr_3, rfl, N3q, Kp3, Op3, R3_0, R3_1⟩ := hQ3
  have N3 := Fr.app N0 N3q
  refine Rch.st st3 ?_
  have ne4 := Nat.ne_of_lt (Nat.lt_of_lt_of_le zP3.lt R3_0)
  have ne5 := Nat.ne_of_lt (Nat.lt_of_lt_of_le zP5.lt R3_0)
  have g_r_3 : n0 ≤ r_3 := Nat.le_trans (Nat.le_trans (Nat.le_of_eq zP0.1.symm) zP0.2.1) R3_0
  have sz_r_3 : h0.size ≤ r_3 := Nat.le_trans (Keep.refl h0 [a]).1 R3_0
  have K6 := (Keep.refl h0 [a]).trans Kp3 all0
  refine Rch.st (fun _ hr => XS.astore X3.here hx rfl (hb hby d2_39) rfl rfl (l' := #[.val (.ref a), .val (.ref va), .val (.int (0 : Int32)), .val (.int (2 : Int32)), .val .null, .val (.ref r_3)]) rfl hr) ?_
  refine Rch.st (fun _ hr => XS.aloadN X3.here hx rfl (hb hby d2_41) rfl rfl hr) ?_
  refine Rch.st (fun _ hr => XS.aload X3.here hx rfl (hb hby d2_42) rfl rfl hr) ?_
  refine Rch.st (fun _ hr => XS.iloadN X3.here hx rfl (hb hby d2_44) rfl hr) ?_
  obtain ⟨_, T7, Lc7, X7, hQ7, st7⟩ := own_callS X3 hx hZ (y := Y_3) hown (own_w hw 44 rfl) (own_w hw 45 rfl) (own_w hw 39 rfl) (own_w hw 46 rfl) (by decide) (W := 1) (ccfal2 l Z a0 hw [] r_3 kr_3 [(.int y0), (.int y1)] T3.heap n0 R3_1) (by decide) (by decide) rfl (by decide) (by decide) (g := (mkF m 45 #[.val (.ref a), .val (.ref va), .val (.int (0 : Int32)), .val (.int (2 : Int32)), .val .null, .val (.ref r_3)] [(.int (2 : Int32)), (.ref r_3), (.ref a)])) rfl (by rw [hml]; rfl) (argsL := [(.ref r_3), (.int (2 : Int32))]) (rest := [(.ref a)]) (lenOf pd_3 rfl) rfl (own_mr rfl rfl) (hb hby d2_45) rfl
  obtain ⟨rfl, N7q, e7⟩ := hQ7
  have N7 := Fr.app N3 N7q
  refine Rch.st st7 ?_
  have f8 := (zP2.keep Kp3 nin0)
  have f9 := (zP1.keep Kp3)
  obtain ⟨T10, h10, X10, e10, W10, st10⟩ := putFN X7 hx hZ hown (own_w hw 21 rfl) Via.refl e7 f8 f9 (Or.inr ⟨(own_w hw 17 rfl), rfl, hnm⟩) (own_w hw 1 rfl) (ty := .byte) (v' := .int (nar .byte (0 : Int32))) (by decide) rfl (fits_nar_byte _) (g := (mkF m 48 #[.val (.ref a), .val (.ref va), .val (.int (0 : Int32)), .val (.int (2 : Int32)), .val .null, .val (.ref r_3)] [(.int (0 : Int32)), (.ref a)])) rfl rfl (hb hby d2_48)
  refine Rch.st st10 ?_
  have N10 := Fr.snoc X10 N7 zP4
  have f11 := (zP5.keep Kp3 nin0)
  have ne12 := (Ne.symm (Exa.neArv f9 f11 (own_w hw 1 rfl)))
  have K13 := K6.wr W10 (Or.inl (List.mem_of_getElem? (i := 0) rfl))
  have Fw10 : Fld Z h10 a "java/lang/String" "coder" "B" (.int (0 : Int32)) := f8.same W10
  show Rch p.tables e below _ (T10.setTop (mkF m 51 #[.val (.ref a), .val (.ref va), .val (.int (0 : Int32)), .val (.int (2 : Int32)), .val .null, .val (.ref r_3)] []))
  refine Rch.st (fun _ hr => XS.aloadN X10.here hx rfl (hb hby d2_51) rfl rfl hr) ?_
  refine Rch.st (fun _ hr => XS.aload X10.here hx rfl (hb hby d2_52) rfl rfl hr) ?_
  have f14 := ((zP3.keep Kp3 nin0).other W10 (Or.inr (slot_ne (Or.inr (own_w hw 16 rfl)) (Or.inr (own_w hw 17 rfl)) (by decide) (t := (.array .byte)) (t' := .byte) (by decide) (by decide))))
  have f15 := (f9.wr W10)
  obtain ⟨T16, h16, X16, e16, W16, st16⟩ := putF X10 hx hZ hown (host := "") (Or.inl (own_w hw 20 rfl)) Via.refl e10 f14 f15 (Or.inr ⟨(own_w hw 16 rfl), rfl, hnm⟩) (own_w hw 1 rfl) (ty := (.array .byte)) (by decide) rfl rfl (g := (mkF m 54 #[.val (.ref a), .val (.ref va), .val (.int (0 : Int32)), .val (.int (2 : Int32)), .val .null, .val (.ref r_3)] [(.ref r_3), (.ref a)])) rfl rfl (hb hby d2_54)
  refine Rch.st st16 ?_
  have N16 := Fr.snoc X16 N10 zP4
  have f17 := (Op3.wr W10 zP4)
  have K18 := K13.wr W16 (Or.inl (List.mem_of_getElem? (i := 0) rfl))
  have Fw16 := f14.same W16
  obtain ⟨fs, hr, hrun, hended, hW, hsame⟩ := X16.leave (v := none) (fun _ => rfl)
  have f19 := (f17.wr W16 zP4)
  have f20 := (f15.wr W16)
  have f21 := (Fw10.other W16 (Or.inr (slot_ne (Or.inr (own_w hw 17 rfl)) (Or.inr (own_w hw 16 rfl)) (by decide) (t := .byte) (t' := (.array .byte)) (by decide) (by decide))))
  have f22 := ((R3_1.other W10 (Ne.symm ne4)).other W16 (Ne.symm ne4))
  refine Rch.fin (u := T16.setFrames fs) (X16.returnOut hx Bd.returns (hb hby d2_57) hr) ⟨_, hrun, hended, _, _, rfl, ?_, ⟨_, rfl⟩, hW, hsame.mono (by decide) (by decide)⟩
  show Q_cinit2 Z a va ka y0 y1 cs h0 n0 _ T16.heap _
  rw [e16]
  exact ⟨r_3, kr_3, rfl, N16, K18, f19, f20, f21, Fw16, sz_r_3, f22⟩
def Q_cinitC2 (Z : State) (a : Addr) (va : Addr) (ka : ClassId) (y0 : Int32) (y1 : Int32) (cs : Int32) (h0 : Heap) (n0 : Nat) (v : Option Value) (h : Heap) (L : List Loc) : Prop := ∃ (bx : Addr) (kb : ClassId), v = none ∧ Fr n0 L ∧ Keep h0 h [a] ∧ Old Z n0 h ∧ Exa Z h a "java/lang/String" ∧ Fld Z h a "java/lang/String" "coder" "B" (.int (0 : Int32)) ∧ Fld Z h a "java/lang/String" "value" "[B" (.ref bx) ∧ h0.size ≤ bx ∧ Arv Z h bx kb .byte (2 : Int32) [(.int y0), (.int y1)] (.int (0 : Int32))
theorem ef_cinitC2 (m : MethodId) (a : Addr) (va : Addr) (ka : ClassId) (y0 : Int32) (y1 : Int32) (cs : Int32) : entryFrame m #[(.ref a), (.ref va)] 2 = mkF m 0 #[.val (.ref a), .val (.ref va)] [] := by first | (simp [entryFrame, mkF, argsToLocals, Value.category]; done) | rfl
set_option maxRecDepth 65536 in
set_option maxHeartbeats 40000000 in
theorem cinitC2 (l : Launch) (Z : State) (a0 : Array Value) (hw : ∀ d ∈ tables_1, d.before a0 Z = true) (ws : List Jvm.Cond) (a : Addr) (va : Addr) (ka : ClassId) (y0 : Int32) (y1 : Int32) (cs : Int32) (h0 : Heap) (n0 : Nat) (zD0 : Sta Z Z.heap "java/lang/String" "COMPACT_STRINGS" "Z" (.int cs)) (zP0 : Old Z n0 h0) (zP1 : Exa Z h0 a "java/lang/String") (zP2 : Fld Z h0 a "java/lang/String" "coder" "B" (.int (0 : Int32))) (zP3 : Fld Z h0 a "java/lang/String" "value" "[B" .null) (zP4 : n0 ≤ a) (zP5 : Arv Z h0 va ka .char (2 : Int32) [(.int y0), (.int y1)] (.int (0 : Int32))) (ha0 : own_A y0) (ha1 : own_A y1) (hcs : ¬ cs = (0 : Int32)) :
    MetFree l (⟨"java/lang/String", "<init>", "([C)V"⟩ : MethodName) (head1 (Jvm.Cond.code (⟨"java/lang/String", "<init>", "([C)V"⟩ : MethodName) jdk_42_method_3_code 2 none :: ws) ({ frames := 3, cells := 1, slots := 2, locals := 52 } : Room)) (fun aA uU => aA = #[(.ref a), (.ref va)] ∧ Z.Warmed39 uU.vm ∧ uU.heap = h0) (fun _ _ _ _ _ => True) (fun _ uU oO uU' => ∃ vV lL, oO = .returned vV ∧ Q_cinitC2 Z a va ka y0 y1 cs h0 n0 vV uU'.heap lL ∧ FrameEnd uU oO uU' lL ({ frames := 3, cells := 1, slots := 2, locals := 52 } : Room).cells ({ frames := 3, cells := 1, slots := 2, locals := 52 } : Room).slots) := by
  refine MetFree.of_bodySF (plainFor_of_name pn_java_lang_String) hisR ?_
  intro p e s m args below meth c s₁ Bd hml0 hP hK
  obtain ⟨rfl, hZ, hh⟩ := hP
  have hx := Bd.exec
  have hby := Bd.bytes
  have hml : c.maxLocals = 2 := hml0
  have hown : s.vm.findClass "java/lang/String" = some m.cls := findClass_of_methodNamed Bd.named
  have hnm := (name_of_methodNamed Bd.named Bd.method).1
  have X0 : Stand p l e ({ frames := 3, cells := 1, slots := 2, locals := 52 } : Room) s m #[(.ref a), (.ref va)] below meth c s₁ [] 0 0 := Stand.of_body Bd
  have e0 : s₁.heap = h0 := by rw [← hh, Bd.state]; rfl
  have N0 := Fr.nil n0
  refine Rch.out (Rch.st (fun t k => castTop (ef_cinitC2 m a va ka y0 y1 cs) k) ?_)
  show Rch p.tables e below _ (s₁.setTop (mkF m 0 #[.val (.ref a), .val (.ref va)] []))
  refine Rch.st (fun _ hr => XS.aloadN X0.here hx rfl (hb hby d1_0) rfl rfl hr) ?_
  refine Rch.st (fun _ hr => XS.aloadN X0.here hx rfl (hb hby d1_1) rfl rfl hr) ?_
  refine Rch.st (fun _ hr => XS.iconst X0.here hx rfl (hb hby d1_2) hr) ?_
  refine Rch.st (fun _ hr => XS.aloadN X0.here hx rfl (hb hby d1_3) rfl rfl hr) ?_
  obtain ⟨cl1, Ar1, -, Sz1, Ng1, -, -⟩ := id zP5
  refine Rch.st (fun t hr => X0.arraylength hx (by rw [e0]; exact Ar1.1) (State.isArrayOf_alike hZ.alike Ar1.2.1) (g := (mkF m 4 #[.val (.ref a), .val (.ref va)] [(.ref va), (.int (0 : Int32)), (.ref va), (.ref a)])) rfl rfl (hb hby d1_4) t hr) ?_
  rw [len_of Sz1 Ng1]
  refine Rch.st (fun _ hr => XS.aconstNull X0.here hx rfl (hb hby d1_5) hr) ?_
  obtain ⟨_, T2, Lc2, X2, hQ2, st2⟩ := own_callI X0 hx hZ (y := Y_0) rfl hown (own_w hw 7 rfl) (own_w hw 8 rfl) (own_w hw 2 rfl) (own_w hw 10 rfl) (by decide) (W := 0) (cinit2 l Z a0 hw [] a va ka y0 y1 cs h0 n0 zD0 zP0 zP1 zP2 zP3 zP4 zP5 ha0 ha1 hcs) (by decide) (by decide) e0 (by decide) (by decide) (g := (mkF m 6 #[.val (.ref a), .val (.ref va)] [.null, (.int (2 : Int32)), (.int (0 : Int32)), (.ref va), (.ref a)])) rfl (by rw [hml]; rfl) (a := a) (argsL := [(.ref va), (.int (0 : Int32)), (.int (2 : Int32)), .null]) (rest := []) (lenOf pd_0 rfl) rfl (own_mr rfl rfl) (hb hby d1_6) rfl
  obtain ⟨bx_2, kb_2, rfl, N2q, Kp2, Op2, R2_0, R2_1, R2_2, R2_3, R2_4⟩ := hQ2
  have N2 := Fr.app N0 N2q
  refine Rch.st st2 ?_
  have ne3 := Nat.ne_of_lt (Nat.lt_of_lt_of_le zP3.lt R2_3)
  have ne4 := Nat.ne_of_lt (Nat.lt_of_lt_of_le zP5.lt R2_3)
  have g_bx_2 : n0 ≤ bx_2 := Nat.le_trans (Nat.le_trans (Nat.le_of_eq zP0.1.symm) zP0.2.1) R2_3
  have sz_bx_2 : h0.size ≤ bx_2 := Nat.le_trans (Keep.refl h0 [a]).1 R2_3
  have ne5 := (Ne.symm (Exa.neArv zP1 zP5 (own_w hw 1 rfl)))
  have K6 := (Keep.refl h0 [a]).trans Kp2 (allS (Or.inl (List.mem_of_getElem? (i := 0) rfl)) all0)
  obtain ⟨fs, hr, hrun, hended, hW, hsame⟩ := X2.leave (v := none) (fun _ => rfl)
  refine Rch.fin (u := T2.setFrames fs) (X2.returnOut hx Bd.returns (hb hby d1_9) hr) ⟨_, hrun, hended, _, _, rfl, ?_, ⟨_, rfl⟩, hW, hsame.mono (by decide) (by decide)⟩
  show Q_cinitC2 Z a va ka y0 y1 cs h0 n0 _ T2.heap _
  exact ⟨bx_2, kb_2, rfl, N2, K6, Op2, R2_0, R2_1, R2_2, sz_bx_2, R2_4⟩
def Q_ccompI3 (Z : State) (va : Addr) (vb : Addr) (ka : ClassId) (kb : ClassId) (y0 : Int32) (y1 : Int32) (y2 : Int32) (h0 : Heap) (n0 : Nat) (v : Option Value) (h : Heap) (L : List Loc) : Prop := v = some (.int (3 : Int32)) ∧ Fr n0 L ∧ Keep h0 h [vb] ∧ Old Z n0 h ∧ Arv Z h vb kb .byte (3 : Int32) [(.int y0), (.int y1), (.int y2)] (.int (0 : Int32))
theorem ef_ccompI3 (m : MethodId) (va : Addr) (vb : Addr) (ka : ClassId) (kb : ClassId) (y0 : Int32) (y1 : Int32) (y2 : Int32) : entryFrame m #[(.ref va), (.int (0 : Int32)), (.ref vb), (.int (0 : Int32)), (.int (3 : Int32))] 7 = mkF m 0 #[.val (.ref va), .val (.int (0 : Int32)), .val (.ref vb), .val (.int (0 : Int32)), .val (.int (3 : Int32)), .unset, .unset] [] := by first | (simp [entryFrame, mkF, argsToLocals, Value.category]; done) | rfl
set_option maxRecDepth 65536 in
set_option maxHeartbeats 40000000 in
theorem ccompI3 (l : Launch) (Z : State) (a0 : Array Value) (hw : ∀ d ∈ tables_1, d.before a0 Z = true) (ws : List Jvm.Cond) (va : Addr) (vb : Addr) (ka : ClassId) (kb : ClassId) (y0 : Int32) (y1 : Int32) (y2 : Int32) (h0 : Heap) (n0 : Nat) (zP0 : Old Z n0 h0) (zP1 : Arv Z h0 va ka .char (3 : Int32) [(.int y0), (.int y1), (.int y2)] (.int (0 : Int32))) (zP2 : Arv Z h0 vb kb .byte (3 : Int32) [(.int (0 : Int32)), (.int (0 : Int32)), (.int (0 : Int32))] (.int (0 : Int32))) (zP3 : n0 ≤ vb) (zP4 : va ≠ vb) (ha0 : own_A y0) (ha1 : own_A y1) (ha2 : own_A y2) :
    MetFree l (⟨"java/lang/StringUTF16", "compress", "([CI[BII)I"⟩ : MethodName) (head1 (Jvm.Cond.code (⟨"java/lang/StringUTF16", "compress", "([CI[BII)I"⟩ : MethodName) jdk_52_method_21_code 7 (some .int) :: ws) ({ frames := 0, cells := 0, slots := 0, locals := 0 } : Room)) (fun aA uU => aA = #[(.ref va), (.int (0 : Int32)), (.ref vb), (.int (0 : Int32)), (.int (3 : Int32))] ∧ Z.Warmed39 uU.vm ∧ uU.heap = h0) (fun _ _ _ _ _ => True) (fun _ uU oO uU' => ∃ vV lL, oO = .returned vV ∧ Q_ccompI3 Z va vb ka kb y0 y1 y2 h0 n0 vV uU'.heap lL ∧ FrameEnd uU oO uU' lL ({ frames := 0, cells := 0, slots := 0, locals := 0 } : Room).cells ({ frames := 0, cells := 0, slots := 0, locals := 0 } : Room).slots) := by
  refine MetFree.of_bodySF (plainFor_of_name pn_java_lang_StringUTF16) hisR ?_
  intro p e s m args below meth c s₁ Bd hml0 hP hK
  obtain ⟨rfl, hZ, hh⟩ := hP
  have hx := Bd.exec
  have hby := Bd.bytes
  have hml : c.maxLocals = 7 := hml0
  have hown : s.vm.findClass "java/lang/StringUTF16" = some m.cls := findClass_of_methodNamed Bd.named
  have hnm := (name_of_methodNamed Bd.named Bd.method).1
  have X0 : Stand p l e ({ frames := 0, cells := 0, slots := 0, locals := 0 } : Room) s m #[(.ref va), (.int (0 : Int32)), (.ref vb), (.int (0 : Int32)), (.int (3 : Int32))] below meth c s₁ [] 0 0 := Stand.of_body Bd
  have e0 : s₁.heap = h0 := by rw [← hh, Bd.state]; rfl
  have N0 := Fr.nil n0
  refine Rch.out (Rch.st (fun t k => castTop (ef_ccompI3 m va vb ka kb y0 y1 y2) k) ?_)
  show Rch p.tables e below _ (s₁.setTop (mkF m 0 #[.val (.ref va), .val (.int (0 : Int32)), .val (.ref vb), .val (.int (0 : Int32)), .val (.int (3 : Int32)), .unset, .unset] []))
  refine Rch.st (fun _ hr => XS.iconst X0.here hx rfl (hb hby d9_0) hr) ?_
  refine Rch.st (fun _ hr => XS.istore X0.here hx rfl (hb hby d9_1) rfl (l' := #[.val (.ref va), .val (.int (0 : Int32)), .val (.ref vb), .val (.int (0 : Int32)), .val (.int (3 : Int32)), .val (.int (0 : Int32)), .unset]) rfl hr) ?_
  refine Rch.st (fun _ hr => XS.iload X0.here hx rfl (hb hby d9_3) rfl hr) ?_
  refine Rch.st (fun _ hr => XS.iload X0.here hx rfl (hb hby d9_5) rfl hr) ?_
  refine Rch.st (fun _ hr => XS.icmpNo X0.here hx rfl (hb hby d9_7) rfl (tlt (by decide : (0 : Int32) < (3 : Int32))).2.1 hr) ?_
  refine Rch.st (fun _ hr => XS.aloadN X0.here hx rfl (hb hby d9_10) rfl rfl hr) ?_
  refine Rch.st (fun _ hr => XS.iloadN X0.here hx rfl (hb hby d9_11) rfl hr) ?_
  obtain ⟨cl1, Ar1, -, Sz1, Ng1, Ha1, -⟩ := id zP1
  have hin1 := inb_of (j := (0 : Int32)) Sz1 ⟨by decide, by decide⟩
  have hat1 := Ha1.at hin1 (v := (.int y0)) rfl
  refine Rch.st (fun t hr => X0.caload hx (j := (0 : Int32)) (v := (.int y0)) (by rw [e0]; exact Ar1.1) (State.isArrayOf_alike hZ.alike Ar1.2.1) Ar1.2.2 hin1 hat1 (g := (mkF m 12 #[.val (.ref va), .val (.int (0 : Int32)), .val (.ref vb), .val (.int (0 : Int32)), .val (.int (3 : Int32)), .val (.int (0 : Int32)), .unset] [(.int (0 : Int32)), (.ref va)])) rfl rfl (hb hby d9_12) t hr) ?_
  show Rch p.tables e below _ (s₁.setTop (mkF m 13 #[.val (.ref va), .val (.int (0 : Int32)), .val (.ref vb), .val (.int (0 : Int32)), .val (.int (3 : Int32)), .val (.int (0 : Int32)), .unset] [(.int y0)]))
  refine Rch.st (fun _ hr => XS.istore X0.here hx rfl (hb hby d9_13) rfl (l' := #[.val (.ref va), .val (.int (0 : Int32)), .val (.ref vb), .val (.int (0 : Int32)), .val (.int (3 : Int32)), .val (.int (0 : Int32)), .val (.int y0)]) rfl hr) ?_
  refine Rch.st (fun _ hr => XS.iload X0.here hx rfl (hb hby d9_15) rfl hr) ?_
  refine Rch.st (fun _ hr => XS.sipush X0.here hx rfl (hb hby d9_17) hr) ?_
  refine Rch.st (fun _ hr => XS.icmpYes X0.here hx rfl (pc0 := 20) (pc' := 26) rfl (hb hby d9_20) rfl (flt (own_A255 ha0)).2.2.2 (by decide) (by decide) hr) ?_
  refine Rch.st (fun _ hr => XS.aloadN X0.here hx rfl (hb hby d9_26) rfl rfl hr) ?_
  refine Rch.st (fun _ hr => XS.iloadN X0.here hx rfl (hb hby d9_27) rfl hr) ?_
  refine Rch.st (fun _ hr => XS.iload X0.here hx rfl (hb hby d9_28) rfl hr) ?_
  refine Rch.st (fun _ hr => XS.i2b X0.here hx rfl (hb hby d9_30) rfl hr) ?_
  show Rch p.tables e below _ (s₁.setTop (mkF m 31 #[.val (.ref va), .val (.int (0 : Int32)), .val (.ref vb), .val (.int (0 : Int32)), .val (.int (3 : Int32)), .val (.int (0 : Int32)), .val (.int y0)] [(.int (y0.toInt8.toInt32)), (.int (0 : Int32)), (.ref vb)]))
  rw [own_i2b ha0]
  obtain ⟨cl2, Ar2, qk2, Sz2, Ng2, Ha2, Gf2⟩ := id zP2
  have hin2 := inb_of (j := (0 : Int32)) Sz2 ⟨by decide, by decide⟩
  obtain ⟨T3, h3, X3, e3, W3, st3⟩ := stB X0 hx hZ e0 Ar2 (j := (0 : Int32)) hin2 (g := (mkF m 31 #[.val (.ref va), .val (.int (0 : Int32)), .val (.ref vb), .val (.int (0 : Int32)), .val (.int (3 : Int32)), .val (.int (0 : Int32)), .val (.int y0)] [(.int y0), (.int (0 : Int32)), (.ref vb)])) rfl rfl (hb hby d9_31)
  rw [own_nar_byte ha0] at W3
  refine Rch.st st3 ?_
  have N3 := Fr.snoc X3 N0 zP3
  have K4 := (Keep.refl h0 [vb]).wr W3 (Or.inl (List.mem_of_getElem? (i := 0) rfl))
  have V3 : Arv Z h3 vb kb .byte (3 : Int32) [(.int y0), (.int (0 : Int32)), (.int (0 : Int32))] (.int (0 : Int32)) := Arv.set Ar2 qk2 Sz2 Ng2 Ha2 Gf2 (own_fit_byte ha0) W3 0 rfl (Nat.le_of_ble_eq_true rfl)
  refine Rch.st (fun _ hr => XS.iinc X3.here hx rfl (hb hby d9_32) rfl (l' := #[.val (.ref va), .val (.int (1 : Int32)), .val (.ref vb), .val (.int (0 : Int32)), .val (.int (3 : Int32)), .val (.int (0 : Int32)), .val (.int y0)]) rfl hr) ?_
  refine Rch.st (fun _ hr => XS.iinc X3.here hx rfl (hb hby d9_35) rfl (l' := #[.val (.ref va), .val (.int (1 : Int32)), .val (.ref vb), .val (.int (1 : Int32)), .val (.int (3 : Int32)), .val (.int (0 : Int32)), .val (.int y0)]) rfl hr) ?_
  refine Rch.st (fun _ hr => XS.iinc X3.here hx rfl (hb hby d9_38) rfl (l' := #[.val (.ref va), .val (.int (1 : Int32)), .val (.ref vb), .val (.int (1 : Int32)), .val (.int (3 : Int32)), .val (.int (1 : Int32)), .val (.int y0)]) rfl hr) ?_
  refine Rch.st (fun _ hr => XS.goto X3.here hx rfl (pc0 := 41) (pc' := 3) rfl (hb hby d9_41) (by decide) (by decide) hr) ?_
  refine Rch.st (fun _ hr => XS.iload X3.here hx rfl (hb hby d9_3) rfl hr) ?_
  refine Rch.st (fun _ hr => XS.iload X3.here hx rfl (hb hby d9_5) rfl hr) ?_
  show Rch p.tables e below _ (T3.setTop (mkF m 7 #[.val (.ref va), .val (.int (1 : Int32)), .val (.ref vb), .val (.int (1 : Int32)), .val (.int (3 : Int32)), .val (.int (1 : Int32)), .val (.int y0)] [(.int (3 : Int32)), (.int (1 : Int32))]))
  refine Rch.st (fun _ hr => XS.icmpNo X3.here hx rfl (hb hby d9_7) rfl (tlt (by decide : (1 : Int32) < (3 : Int32))).2.1 hr) ?_
  refine Rch.st (fun _ hr => XS.aloadN X3.here hx rfl (hb hby d9_10) rfl rfl hr) ?_
  refine Rch.st (fun _ hr => XS.iloadN X3.here hx rfl (hb hby d9_11) rfl hr) ?_
  have f5 := (zP1.other W3 zP4)
  obtain ⟨cl6, Ar6, -, Sz6, Ng6, Ha6, -⟩ := id f5
  have hin6 := inb_of (j := (1 : Int32)) Sz6 ⟨by decide, by decide⟩
  have hat6 := Ha6.at hin6 (v := (.int y1)) rfl
  refine Rch.st (fun t hr => X3.caload hx (j := (1 : Int32)) (v := (.int y1)) (by rw [e3]; exact Ar6.1) (State.isArrayOf_alike hZ.alike Ar6.2.1) Ar6.2.2 hin6 hat6 (g := (mkF m 12 #[.val (.ref va), .val (.int (1 : Int32)), .val (.ref vb), .val (.int (1 : Int32)), .val (.int (3 : Int32)), .val (.int (1 : Int32)), .val (.int y0)] [(.int (1 : Int32)), (.ref va)])) rfl rfl (hb hby d9_12) t hr) ?_
  refine Rch.st (fun _ hr => XS.istore X3.here hx rfl (hb hby d9_13) rfl (l' := #[.val (.ref va), .val (.int (1 : Int32)), .val (.ref vb), .val (.int (1 : Int32)), .val (.int (3 : Int32)), .val (.int (1 : Int32)), .val (.int y1)]) rfl hr) ?_
  refine Rch.st (fun _ hr => XS.iload X3.here hx rfl (hb hby d9_15) rfl hr) ?_
  refine Rch.st (fun _ hr => XS.sipush X3.here hx rfl (hb hby d9_17) hr) ?_
  refine Rch.st (fun _ hr => XS.icmpYes X3.here hx rfl (pc0 := 20) (pc' := 26) rfl (hb hby d9_20) rfl (flt (own_A255 ha1)).2.2.2 (by decide) (by decide) hr) ?_
  show Rch p.tables e below _ (T3.setTop (mkF m 26 #[.val (.ref va), .val (.int (1 : Int32)), .val (.ref vb), .val (.int (1 : Int32)), .val (.int (3 : Int32)), .val (.int (1 : Int32)), .val (.int y1)] []))
  refine Rch.st (fun _ hr => XS.aloadN X3.here hx rfl (hb hby d9_26) rfl rfl hr) ?_
  refine Rch.st (fun _ hr => XS.iloadN X3.here hx rfl (hb hby d9_27) rfl hr) ?_
  refine Rch.st (fun _ hr => XS.iload X3.here hx rfl (hb hby d9_28) rfl hr) ?_
  refine Rch.st (fun _ hr => XS.i2b X3.here hx rfl (hb hby d9_30) rfl hr) ?_
  show Rch p.tables e below _ (T3.setTop (mkF m 31 #[.val (.ref va), .val (.int (1 : Int32)), .val (.ref vb), .val (.int (1 : Int32)), .val (.int (3 : Int32)), .val (.int (1 : Int32)), .val (.int y1)] [(.int (y1.toInt8.toInt32)), (.int (1 : Int32)), (.ref vb)]))
  rw [own_i2b ha1]
  obtain ⟨cl7, Ar7, qk7, Sz7, Ng7, Ha7, Gf7⟩ := id V3
  have hin7 := inb_of (j := (1 : Int32)) Sz7 ⟨by decide, by decide⟩
  obtain ⟨T8, h8, X8, e8, W8, st8⟩ := stB X3 hx hZ e3 Ar7 (j := (1 : Int32)) hin7 (g := (mkF m 31 #[.val (.ref va), .val (.int (1 : Int32)), .val (.ref vb), .val (.int (1 : Int32)), .val (.int (3 : Int32)), .val (.int (1 : Int32)), .val (.int y1)] [(.int y1), (.int (1 : Int32)), (.ref vb)])) rfl rfl (hb hby d9_31)
  rw [own_nar_byte ha1] at W8
  refine Rch.st st8 ?_
  have N8 := Fr.snoc X8 N3 zP3
  have f9 := (zP0.wr W3 zP3)
  have K10 := K4.wr W8 (Or.inl (List.mem_of_getElem? (i := 0) rfl))
  have V8 : Arv Z h8 vb kb .byte (3 : Int32) [(.int y0), (.int y1), (.int (0 : Int32))] (.int (0 : Int32)) := Arv.set Ar7 qk7 Sz7 Ng7 Ha7 Gf7 (own_fit_byte ha1) W8 1 rfl (Nat.le_of_ble_eq_true rfl)
  refine Rch.st (fun _ hr => XS.iinc X8.here hx rfl (hb hby d9_32) rfl (l' := #[.val (.ref va), .val (.int (2 : Int32)), .val (.ref vb), .val (.int (1 : Int32)), .val (.int (3 : Int32)), .val (.int (1 : Int32)), .val (.int y1)]) rfl hr) ?_
  refine Rch.st (fun _ hr => XS.iinc X8.here hx rfl (hb hby d9_35) rfl (l' := #[.val (.ref va), .val (.int (2 : Int32)), .val (.ref vb), .val (.int (2 : Int32)), .val (.int (3 : Int32)), .val (.int (1 : Int32)), .val (.int y1)]) rfl hr) ?_
  refine Rch.st (fun _ hr => XS.iinc X8.here hx rfl (hb hby d9_38) rfl (l' := #[.val (.ref va), .val (.int (2 : Int32)), .val (.ref vb), .val (.int (2 : Int32)), .val (.int (3 : Int32)), .val (.int (2 : Int32)), .val (.int y1)]) rfl hr) ?_
  refine Rch.st (fun _ hr => XS.goto X8.here hx rfl (pc0 := 41) (pc' := 3) rfl (hb hby d9_41) (by decide) (by decide) hr) ?_
  refine Rch.st (fun _ hr => XS.iload X8.here hx rfl (hb hby d9_3) rfl hr) ?_
  refine Rch.st (fun _ hr => XS.iload X8.here hx rfl (hb hby d9_5) rfl hr) ?_
  show Rch p.tables e below _ (T8.setTop (mkF m 7 #[.val (.ref va), .val (.int (2 : Int32)), .val (.ref vb), .val (.int (2 : Int32)), .val (.int (3 : Int32)), .val (.int (2 : Int32)), .val (.int y1)] [(.int (3 : Int32)), (.int (2 : Int32))]))
  refine Rch.st (fun _ hr => XS.icmpNo X8.here hx rfl (hb hby d9_7) rfl (tlt (by decide : (2 : Int32) < (3 : Int32))).2.1 hr) ?_
  refine Rch.st (fun _ hr => XS.aloadN X8.here hx rfl (hb hby d9_10) rfl rfl hr) ?_
  refine Rch.st (fun _ hr => XS.iloadN X8.here hx rfl (hb hby d9_11) rfl hr) ?_
  have f11 := (f5.other W8 zP4)
  obtain ⟨cl12, Ar12, -, Sz12, Ng12, Ha12, -⟩ := id f11
  have hin12 := inb_of (j := (2 : Int32)) Sz12 ⟨by decide, by decide⟩
  have hat12 := Ha12.at hin12 (v := (.int y2)) rfl
  refine Rch.st (fun t hr => X8.caload hx (j := (2 : Int32)) (v := (.int y2)) (by rw [e8]; exact Ar12.1) (State.isArrayOf_alike hZ.alike Ar12.2.1) Ar12.2.2 hin12 hat12 (g := (mkF m 12 #[.val (.ref va), .val (.int (2 : Int32)), .val (.ref vb), .val (.int (2 : Int32)), .val (.int (3 : Int32)), .val (.int (2 : Int32)), .val (.int y1)] [(.int (2 : Int32)), (.ref va)])) rfl rfl (hb hby d9_12) t hr) ?_
  refine Rch.st (fun _ hr => XS.istore X8.here hx rfl (hb hby d9_13) rfl (l' := #[.val (.ref va), .val (.int (2 : Int32)), .val (.ref vb), .val (.int (2 : Int32)), .val (.int (3 : Int32)), .val (.int (2 : Int32)), .val (.int y2)]) rfl hr) ?_
  refine Rch.st (fun _ hr => XS.iload X8.here hx rfl (hb hby d9_15) rfl hr) ?_
  refine Rch.st (fun _ hr => XS.sipush X8.here hx rfl (hb hby d9_17) hr) ?_
  refine Rch.st (fun _ hr => XS.icmpYes X8.here hx rfl (pc0 := 20) (pc' := 26) rfl (hb hby d9_20) rfl (flt (own_A255 ha2)).2.2.2 (by decide) (by decide) hr) ?_
  show Rch p.tables e below _ (T8.setTop (mkF m 26 #[.val (.ref va), .val (.int (2 : Int32)), .val (.ref vb), .val (.int (2 : Int32)), .val (.int (3 : Int32)), .val (.int (2 : Int32)), .val (.int y2)] []))
  refine Rch.st (fun _ hr => XS.aloadN X8.here hx rfl (hb hby d9_26) rfl rfl hr) ?_
  refine Rch.st (fun _ hr => XS.iloadN X8.here hx rfl (hb hby d9_27) rfl hr) ?_
  refine Rch.st (fun _ hr => XS.iload X8.here hx rfl (hb hby d9_28) rfl hr) ?_
  refine Rch.st (fun _ hr => XS.i2b X8.here hx rfl (hb hby d9_30) rfl hr) ?_
  show Rch p.tables e below _ (T8.setTop (mkF m 31 #[.val (.ref va), .val (.int (2 : Int32)), .val (.ref vb), .val (.int (2 : Int32)), .val (.int (3 : Int32)), .val (.int (2 : Int32)), .val (.int y2)] [(.int (y2.toInt8.toInt32)), (.int (2 : Int32)), (.ref vb)]))
  rw [own_i2b ha2]
  obtain ⟨cl13, Ar13, qk13, Sz13, Ng13, Ha13, Gf13⟩ := id V8
  have hin13 := inb_of (j := (2 : Int32)) Sz13 ⟨by decide, by decide⟩
  obtain ⟨T14, h14, X14, e14, W14, st14⟩ := stB X8 hx hZ e8 Ar13 (j := (2 : Int32)) hin13 (g := (mkF m 31 #[.val (.ref va), .val (.int (2 : Int32)), .val (.ref vb), .val (.int (2 : Int32)), .val (.int (3 : Int32)), .val (.int (2 : Int32)), .val (.int y2)] [(.int y2), (.int (2 : Int32)), (.ref vb)])) rfl rfl (hb hby d9_31)
  rw [own_nar_byte ha2] at W14
  refine Rch.st st14 ?_
  have N14 := Fr.snoc X14 N8 zP3
  have f15 := (f9.wr W8 zP3)
  have K16 := K10.wr W14 (Or.inl (List.mem_of_getElem? (i := 0) rfl))
  have V14 : Arv Z h14 vb kb .byte (3 : Int32) [(.int y0), (.int y1), (.int y2)] (.int (0 : Int32)) := Arv.set Ar13 qk13 Sz13 Ng13 Ha13 Gf13 (own_fit_byte ha2) W14 2 rfl (Nat.le_of_ble_eq_true rfl)
  refine Rch.st (fun _ hr => XS.iinc X14.here hx rfl (hb hby d9_32) rfl (l' := #[.val (.ref va), .val (.int (3 : Int32)), .val (.ref vb), .val (.int (2 : Int32)), .val (.int (3 : Int32)), .val (.int (2 : Int32)), .val (.int y2)]) rfl hr) ?_
  refine Rch.st (fun _ hr => XS.iinc X14.here hx rfl (hb hby d9_35) rfl (l' := #[.val (.ref va), .val (.int (3 : Int32)), .val (.ref vb), .val (.int (3 : Int32)), .val (.int (3 : Int32)), .val (.int (2 : Int32)), .val (.int y2)]) rfl hr) ?_
  refine Rch.st (fun _ hr => XS.iinc X14.here hx rfl (hb hby d9_38) rfl (l' := #[.val (.ref va), .val (.int (3 : Int32)), .val (.ref vb), .val (.int (3 : Int32)), .val (.int (3 : Int32)), .val (.int (3 : Int32)), .val (.int y2)]) rfl hr) ?_
  refine Rch.st (fun _ hr => XS.goto X14.here hx rfl (pc0 := 41) (pc' := 3) rfl (hb hby d9_41) (by decide) (by decide) hr) ?_
  refine Rch.st (fun _ hr => XS.iload X14.here hx rfl (hb hby d9_3) rfl hr) ?_
  refine Rch.st (fun _ hr => XS.iload X14.here hx rfl (hb hby d9_5) rfl hr) ?_
  show Rch p.tables e below _ (T14.setTop (mkF m 7 #[.val (.ref va), .val (.int (3 : Int32)), .val (.ref vb), .val (.int (3 : Int32)), .val (.int (3 : Int32)), .val (.int (3 : Int32)), .val (.int y2)] [(.int (3 : Int32)), (.int (3 : Int32))]))
  refine Rch.st (fun _ hr => XS.icmpYes X14.here hx rfl (pc0 := 7) (pc' := 44) rfl (hb hby d9_7) rfl (flt (by decide : ¬ ((3 : Int32) < (3 : Int32)))).2.1 (by decide) (by decide) hr) ?_
  refine Rch.st (fun _ hr => XS.iload X14.here hx rfl (hb hby d9_44) rfl hr) ?_
  obtain ⟨fs, hr, hrun, hended, hW, hsame⟩ := X14.leave (v := some (.int (3 : Int32))) (fun h => by rw [Bd.returns] at h; cases h)
  have f17 := (f15.wr W14 zP3)
  refine Rch.fin (u := T14.setFrames fs) (own_retI X14 hx Bd.returns (hb hby d9_46) hr) ⟨_, hrun, hended, _, _, rfl, ?_, ⟨_, rfl⟩, hW, hsame.mono (by decide) (by decide)⟩
  show Q_ccompI3 Z va vb ka kb y0 y1 y2 h0 n0 _ T14.heap _
  rw [e14]
  exact ⟨rfl, N14, K16, f17, V14⟩
def Q_ccomp3 (Z : State) (va : Addr) (ka : ClassId) (y0 : Int32) (y1 : Int32) (y2 : Int32) (h0 : Heap) (n0 : Nat) (v : Option Value) (h : Heap) (L : List Loc) : Prop := ∃ (r : Addr) (kr : ClassId), v = some (.ref r) ∧ Fr n0 L ∧ Keep h0 h [] ∧ Old Z n0 h ∧ h0.size ≤ r ∧ Arv Z h r kr .byte (3 : Int32) [(.int y0), (.int y1), (.int y2)] (.int (0 : Int32))
theorem ef_ccomp3 (m : MethodId) (va : Addr) (ka : ClassId) (y0 : Int32) (y1 : Int32) (y2 : Int32) : entryFrame m #[(.ref va), (.int (0 : Int32)), (.int (3 : Int32))] 6 = mkF m 0 #[.val (.ref va), .val (.int (0 : Int32)), .val (.int (3 : Int32)), .unset, .unset, .unset] [] := by first | (simp [entryFrame, mkF, argsToLocals, Value.category]; done) | rfl
set_option maxRecDepth 65536 in
set_option maxHeartbeats 40000000 in
theorem ccomp3 (l : Launch) (Z : State) (a0 : Array Value) (hw : ∀ d ∈ tables_1, d.before a0 Z = true) (ws : List Jvm.Cond) (va : Addr) (ka : ClassId) (y0 : Int32) (y1 : Int32) (y2 : Int32) (h0 : Heap) (n0 : Nat) (zP0 : Old Z n0 h0) (zP1 : Arv Z h0 va ka .char (3 : Int32) [(.int y0), (.int y1), (.int y2)] (.int (0 : Int32))) (ha0 : own_A y0) (ha1 : own_A y1) (ha2 : own_A y2) :
    MetFree l (⟨"java/lang/StringUTF16", "compress", "([CII)[B"⟩ : MethodName) (head1 (Jvm.Cond.code (⟨"java/lang/StringUTF16", "compress", "([CII)[B"⟩ : MethodName) jdk_52_method_16_code 6 (some (.array .byte)) :: ws) ({ frames := 1, cells := 1, slots := 3, locals := 18 } : Room)) (fun aA uU => aA = #[(.ref va), (.int (0 : Int32)), (.int (3 : Int32))] ∧ Z.Warmed39 uU.vm ∧ uU.heap = h0) (fun _ _ _ _ _ => True) (fun _ uU oO uU' => ∃ vV lL, oO = .returned vV ∧ Q_ccomp3 Z va ka y0 y1 y2 h0 n0 vV uU'.heap lL ∧ FrameEnd uU oO uU' lL ({ frames := 1, cells := 1, slots := 3, locals := 18 } : Room).cells ({ frames := 1, cells := 1, slots := 3, locals := 18 } : Room).slots) := by
  refine MetFree.of_bodySF (plainFor_of_name pn_java_lang_StringUTF16) hisR ?_
  intro p e s m args below meth c s₁ Bd hml0 hP hK
  obtain ⟨rfl, hZ, hh⟩ := hP
  have hx := Bd.exec
  have hby := Bd.bytes
  have hml : c.maxLocals = 6 := hml0
  have hown : s.vm.findClass "java/lang/StringUTF16" = some m.cls := findClass_of_methodNamed Bd.named
  have hnm := (name_of_methodNamed Bd.named Bd.method).1
  have X0 : Stand p l e ({ frames := 1, cells := 1, slots := 3, locals := 18 } : Room) s m #[(.ref va), (.int (0 : Int32)), (.int (3 : Int32))] below meth c s₁ [] 0 0 := Stand.of_body Bd
  have e0 : s₁.heap = h0 := by rw [← hh, Bd.state]; rfl
  have N0 := Fr.nil n0
  refine Rch.out (Rch.st (fun t k => castTop (ef_ccomp3 m va ka y0 y1 y2) k) ?_)
  show Rch p.tables e below _ (s₁.setTop (mkF m 0 #[.val (.ref va), .val (.int (0 : Int32)), .val (.int (3 : Int32)), .unset, .unset, .unset] []))
  refine Rch.st (fun _ hr => XS.iloadN X0.here hx rfl (hb hby d8_0) rfl hr) ?_
  obtain ⟨T1, h1, k1, X1, e1, E1, A1, st1⟩ := newP X0 hx hZ (own_w hw 15 rfl) e0 (g := (mkF m 1 #[.val (.ref va), .val (.int (0 : Int32)), .val (.int (3 : Int32)), .unset, .unset, .unset] [(.int (3 : Int32))])) rfl (hb hby d8_1) rfl (by decide) (cap := 3) (by decide) (by decide) (by decide) (by decide)
  obtain ⟨b1, g1⟩ : ∃ z, z = h0.size := ⟨_, rfl⟩
  rw [← g1] at A1 st1
  refine Rch.st st1 ?_
  have q1 : h0.size ≤ b1 := Nat.le_of_eq g1.symm
  have ne2 := Nat.ne_of_lt (Nat.lt_of_lt_of_le zP1.lt q1)
  have g_b1 : n0 ≤ b1 := Nat.le_trans (Nat.le_trans (Nat.le_of_eq zP0.1.symm) zP0.2.1) q1
  have sz_b1 : h0.size ≤ b1 := Nat.le_trans (Keep.refl h0 []).1 q1
  have K3 := (Keep.refl h0 []).ext E1
  have V1 : Arv Z h1 b1 k1 .byte (3 : Int32) [(.int (0 : Int32)), (.int (0 : Int32)), (.int (0 : Int32))] (.int (0 : Int32)) := (Arv.new A1 (by decide)).pad (pad_rep [] (.int (0 : Int32)) 3)
  refine Rch.st (fun _ hr => XS.astoreN X1.here hx rfl (hb hby d8_3) rfl rfl (l' := #[.val (.ref va), .val (.int (0 : Int32)), .val (.int (3 : Int32)), .val (.ref b1), .unset, .unset]) rfl hr) ?_
  refine Rch.st (fun _ hr => XS.aloadN X1.here hx rfl (hb hby d8_4) rfl rfl hr) ?_
  refine Rch.st (fun _ hr => XS.iloadN X1.here hx rfl (hb hby d8_5) rfl hr) ?_
  refine Rch.st (fun _ hr => XS.aloadN X1.here hx rfl (hb hby d8_6) rfl rfl hr) ?_
  refine Rch.st (fun _ hr => XS.iconst X1.here hx rfl (hb hby d8_7) hr) ?_
  refine Rch.st (fun _ hr => XS.iloadN X1.here hx rfl (hb hby d8_8) rfl hr) ?_
  show Rch p.tables e below _ (T1.setTop (mkF m 9 #[.val (.ref va), .val (.int (0 : Int32)), .val (.int (3 : Int32)), .val (.ref b1), .unset, .unset] [(.int (3 : Int32)), (.int (0 : Int32)), (.ref b1), (.int (0 : Int32)), (.ref va)]))
  have f5 := (zP0.ext E1)
  have f6 := (zP1.ext E1)
  obtain ⟨_, T4, Lc4, X4, hQ4, st4⟩ := own_callS X1 hx hZ (y := Y_1) hown (own_w hw 41 rfl) (own_w hw 42 rfl) (own_w hw 39 rfl) (own_w hw 43 rfl) (by decide) (W := 0) (ccompI3 l Z a0 hw [] va b1 ka k1 y0 y1 y2 h1 n0 f5 f6 V1 g_b1 ne2 ha0 ha1 ha2) (by decide) (by decide) e1 (by decide) (by decide) (g := (mkF m 9 #[.val (.ref va), .val (.int (0 : Int32)), .val (.int (3 : Int32)), .val (.ref b1), .unset, .unset] [(.int (3 : Int32)), (.int (0 : Int32)), (.ref b1), (.int (0 : Int32)), (.ref va)])) rfl (by rw [hml]; rfl) (argsL := [(.ref va), (.int (0 : Int32)), (.ref b1), (.int (0 : Int32)), (.int (3 : Int32))]) (rest := []) (lenOf pd_1 rfl) rfl (own_mr rfl rfl) (hb hby d8_9) rfl
  obtain ⟨rfl, N4q, Kp4, Op4, R4_0⟩ := hQ4
  have N4 := Fr.app N0 N4q
  refine Rch.st st4 ?_
  have K7 := K3.trans Kp4 (allS (Or.inr sz_b1) all0)
  refine Rch.st (fun _ hr => XS.istore X4.here hx rfl (hb hby d8_12) rfl (l' := #[.val (.ref va), .val (.int (0 : Int32)), .val (.int (3 : Int32)), .val (.ref b1), .val (.int (3 : Int32)), .unset]) rfl hr) ?_
  refine Rch.st (fun _ hr => XS.iload X4.here hx rfl (hb hby d8_14) rfl hr) ?_
  refine Rch.st (fun _ hr => XS.iloadN X4.here hx rfl (hb hby d8_16) rfl hr) ?_
  refine Rch.st (fun _ hr => XS.icmpYes X4.here hx rfl (pc0 := 17) (pc' := 57) rfl (hb hby d8_17) rfl (teq (by decide : (3 : Int32) = (3 : Int32))).1 (by decide) (by decide) hr) ?_
  refine Rch.st (fun _ hr => XS.aloadN X4.here hx rfl (hb hby d8_57) rfl rfl hr) ?_
  obtain ⟨fs, hr, hrun, hended, hW, hsame⟩ := X4.leave (v := some (.ref b1)) (fun h => by rw [Bd.returns] at h; cases h)
  refine Rch.fin (u := T4.setFrames fs) (own_retA X4 hx Bd.returns rfl rfl rfl (hb hby d8_58) hr) ⟨_, hrun, hended, _, _, rfl, ?_, ⟨_, rfl⟩, hW, hsame.mono (by decide) (by decide)⟩
  show Q_ccomp3 Z va ka y0 y1 y2 h0 n0 _ T4.heap _
  exact ⟨b1, k1, rfl, N4, K7, Op4, sz_b1, R4_0⟩
def Q_ccfal3 (Z : State) (vb : Addr) (kb : ClassId) (vs : List Value) (h0 : Heap) (n0 : Nat) (v : Option Value) (h : Heap) (L : List Loc) : Prop := v = some (.int (0 : Int32)) ∧ Fr n0 L ∧ h = h0
theorem ef_ccfal3 (m : MethodId) (vb : Addr) (kb : ClassId) (vs : List Value) : entryFrame m #[(.ref vb), (.int (3 : Int32))] 2 = mkF m 0 #[.val (.ref vb), .val (.int (3 : Int32))] [] := by first | (simp [entryFrame, mkF, argsToLocals, Value.category]; done) | rfl
set_option maxRecDepth 65536 in
set_option maxHeartbeats 40000000 in
theorem ccfal3 (l : Launch) (Z : State) (a0 : Array Value) (hw : ∀ d ∈ tables_1, d.before a0 Z = true) (ws : List Jvm.Cond) (vb : Addr) (kb : ClassId) (vs : List Value) (h0 : Heap) (n0 : Nat) (zP0 : Arv Z h0 vb kb .byte (3 : Int32) vs (.int (0 : Int32))) :
    MetFree l (⟨"java/lang/StringUTF16", "coderFromArrayLen", "([BI)B"⟩ : MethodName) (head1 (Jvm.Cond.code (⟨"java/lang/StringUTF16", "coderFromArrayLen", "([BI)B"⟩ : MethodName) jdk_52_method_15_code 2 (some .byte) :: ws) ({ frames := 0, cells := 0, slots := 0, locals := 0 } : Room)) (fun aA uU => aA = #[(.ref vb), (.int (3 : Int32))] ∧ Z.Warmed39 uU.vm ∧ uU.heap = h0) (fun _ _ _ _ _ => True) (fun _ uU oO uU' => ∃ vV lL, oO = .returned vV ∧ Q_ccfal3 Z vb kb vs h0 n0 vV uU'.heap lL ∧ FrameEnd uU oO uU' lL ({ frames := 0, cells := 0, slots := 0, locals := 0 } : Room).cells ({ frames := 0, cells := 0, slots := 0, locals := 0 } : Room).slots) := by
  refine MetFree.of_bodySF (plainFor_of_name pn_java_lang_StringUTF16) hisR ?_
  intro p e s m args below meth c s₁ Bd hml0 hP hK
  obtain ⟨rfl, hZ, hh⟩ := hP
  have hx := Bd.exec
  have hby := Bd.bytes
  have hml : c.maxLocals = 2 := hml0
  have hown : s.vm.findClass "java/lang/StringUTF16" = some m.cls := findClass_of_methodNamed Bd.named
  have hnm := (name_of_methodNamed Bd.named Bd.method).1
  have X0 : Stand p l e ({ frames := 0, cells := 0, slots := 0, locals := 0 } : Room) s m #[(.ref vb), (.int (3 : Int32))] below meth c s₁ [] 0 0 := Stand.of_body Bd
  have e0 : s₁.heap = h0 := by rw [← hh, Bd.state]; rfl
  have N0 := Fr.nil n0
  refine Rch.out (Rch.st (fun t k => castTop (ef_ccfal3 m vb kb vs) k) ?_)
  show Rch p.tables e below _ (s₁.setTop (mkF m 0 #[.val (.ref vb), .val (.int (3 : Int32))] []))
  refine Rch.st (fun _ hr => XS.iloadN X0.here hx rfl (hb hby d10_0) rfl hr) ?_
  refine Rch.st (fun _ hr => XS.aloadN X0.here hx rfl (hb hby d10_1) rfl rfl hr) ?_
  obtain ⟨cl1, Ar1, -, Sz1, Ng1, -, -⟩ := id zP0
  refine Rch.st (fun t hr => X0.arraylength hx (by rw [e0]; exact Ar1.1) (State.isArrayOf_alike hZ.alike Ar1.2.1) (g := (mkF m 2 #[.val (.ref vb), .val (.int (3 : Int32))] [(.ref vb), (.int (3 : Int32))])) rfl rfl (hb hby d10_2) t hr) ?_
  rw [len_of Sz1 Ng1]
  refine Rch.st (fun _ hr => XS.isub X0.here hx rfl (hb hby d10_3) rfl hr) ?_
  refine Rch.st (fun _ hr => XS.bipush X0.here hx rfl (hb hby d10_4) hr) ?_
  refine Rch.st (fun _ hr => XS.iushr X0.here hx rfl (hb hby d10_6) rfl hr) ?_
  refine Rch.st (fun _ hr => XS.i2b X0.here hx rfl (hb hby d10_7) rfl hr) ?_
  obtain ⟨fs, hr, hrun, hended, hW, hsame⟩ := X0.leave (v := some (.int (nar .byte ((((0 : Int32).toUInt32 >>> ((31 : Int32) &&& 31).toUInt32).toInt32).toInt8.toInt32)))) (fun h => by rw [Bd.returns] at h; cases h)
  refine Rch.fin (u := s₁.setFrames fs) (retN X0 hx (t := .byte) Bd.returns (by simp) (hb hby d10_8) hr) ⟨_, hrun, hended, _, _, rfl, ?_, ⟨_, rfl⟩, hW, hsame.mono (by decide) (by decide)⟩
  show Q_ccfal3 Z vb kb vs h0 n0 _ s₁.heap _
  refine ⟨?_, N0, e0⟩
  · exact congrArg (fun z => some (Value.int z)) (by decide)
def Q_cinit3 (Z : State) (a : Addr) (va : Addr) (ka : ClassId) (y0 : Int32) (y1 : Int32) (y2 : Int32) (cs : Int32) (h0 : Heap) (n0 : Nat) (v : Option Value) (h : Heap) (L : List Loc) : Prop := ∃ (bx : Addr) (kb : ClassId), v = none ∧ Fr n0 L ∧ Keep h0 h [a] ∧ Old Z n0 h ∧ Exa Z h a "java/lang/String" ∧ Fld Z h a "java/lang/String" "coder" "B" (.int (0 : Int32)) ∧ Fld Z h a "java/lang/String" "value" "[B" (.ref bx) ∧ h0.size ≤ bx ∧ Arv Z h bx kb .byte (3 : Int32) [(.int y0), (.int y1), (.int y2)] (.int (0 : Int32))
theorem ef_cinit3 (m : MethodId) (a : Addr) (va : Addr) (ka : ClassId) (y0 : Int32) (y1 : Int32) (y2 : Int32) (cs : Int32) : entryFrame m #[(.ref a), (.ref va), (.int (0 : Int32)), (.int (3 : Int32)), .null] 6 = mkF m 0 #[.val (.ref a), .val (.ref va), .val (.int (0 : Int32)), .val (.int (3 : Int32)), .val .null, .unset] [] := by first | (simp [entryFrame, mkF, argsToLocals, Value.category]; done) | rfl
set_option maxRecDepth 65536 in
set_option maxHeartbeats 40000000 in
theorem cinit3 (l : Launch) (Z : State) (a0 : Array Value) (hw : ∀ d ∈ tables_1, d.before a0 Z = true) (ws : List Jvm.Cond) (a : Addr) (va : Addr) (ka : ClassId) (y0 : Int32) (y1 : Int32) (y2 : Int32) (cs : Int32) (h0 : Heap) (n0 : Nat) (zD0 : Sta Z Z.heap "java/lang/String" "COMPACT_STRINGS" "Z" (.int cs)) (zP0 : Old Z n0 h0) (zP1 : Exa Z h0 a "java/lang/String") (zP2 : Fld Z h0 a "java/lang/String" "coder" "B" (.int (0 : Int32))) (zP3 : Fld Z h0 a "java/lang/String" "value" "[B" .null) (zP4 : n0 ≤ a) (zP5 : Arv Z h0 va ka .char (3 : Int32) [(.int y0), (.int y1), (.int y2)] (.int (0 : Int32))) (ha0 : own_A y0) (ha1 : own_A y1) (ha2 : own_A y2) (hcs : ¬ cs = (0 : Int32)) :
    MetFree l (⟨"java/lang/String", "<init>", "([CIILjava/lang/Void;)V"⟩ : MethodName) (head1 (Jvm.Cond.code (⟨"java/lang/String", "<init>", "([CIILjava/lang/Void;)V"⟩ : MethodName) jdk_42_method_149_code 6 none :: ws) ({ frames := 2, cells := 1, slots := 3, locals := 35 } : Room)) (fun aA uU => aA = #[(.ref a), (.ref va), (.int (0 : Int32)), (.int (3 : Int32)), .null] ∧ Z.Warmed39 uU.vm ∧ uU.heap = h0) (fun _ _ _ _ _ => True) (fun _ uU oO uU' => ∃ vV lL, oO = .returned vV ∧ Q_cinit3 Z a va ka y0 y1 y2 cs h0 n0 vV uU'.heap lL ∧ FrameEnd uU oO uU' lL ({ frames := 2, cells := 1, slots := 3, locals := 35 } : Room).cells ({ frames := 2, cells := 1, slots := 3, locals := 35 } : Room).slots) := by
  refine MetFree.of_bodySF (plainFor_of_name pn_java_lang_String) hisR ?_
  intro p e s m args below meth c s₁ Bd hml0 hP hK
  obtain ⟨rfl, hZ, hh⟩ := hP
  have hx := Bd.exec
  have hby := Bd.bytes
  have hml : c.maxLocals = 6 := hml0
  have hown : s.vm.findClass "java/lang/String" = some m.cls := findClass_of_methodNamed Bd.named
  have hnm := (name_of_methodNamed Bd.named Bd.method).1
  have X0 : Stand p l e ({ frames := 2, cells := 1, slots := 3, locals := 35 } : Room) s m #[(.ref a), (.ref va), (.int (0 : Int32)), (.int (3 : Int32)), .null] below meth c s₁ [] 0 0 := Stand.of_body Bd
  have e0 : s₁.heap = h0 := by rw [← hh, Bd.state]; rfl
  have N0 := Fr.nil n0
  refine Rch.out (Rch.st (fun t k => castTop (ef_cinit3 m a va ka y0 y1 y2 cs) k) ?_)
  show Rch p.tables e below _ (s₁.setTop (mkF m 0 #[.val (.ref a), .val (.ref va), .val (.int (0 : Int32)), .val (.int (3 : Int32)), .val .null, .unset] []))
  refine Rch.st (fun _ hr => XS.aloadN X0.here hx rfl (hb hby d2_0) rfl rfl hr) ?_
  obtain ⟨T1, X1, e1, st1⟩ := initO X0 hx hZ hown (own_w hw 11 rfl) (own_w hw 12 rfl) (own_w hw 13 rfl) e0 (g := (mkF m 1 #[.val (.ref a), .val (.ref va), .val (.int (0 : Int32)), .val (.int (3 : Int32)), .val .null, .unset] [(.ref a)])) rfl (by rw [hml]; rfl) rfl (hb hby d2_1) (by decide) (W := 0) (own_mr rfl rfl) (by decide)
  refine Rch.st st1 ?_
  refine Rch.st (fun _ hr => XS.iloadN X1.here hx rfl (hb hby d2_4) rfl hr) ?_
  refine Rch.st (fun _ hr => XS.ifYes X1.here hx rfl (pc0 := 5) (pc' := 27) rfl (hb hby d2_5) rfl ((if0 _ _).trans (feq (by decide : ¬ ((3 : Int32) = (0 : Int32)))).2) (by decide) (by decide) hr) ?_
  obtain ⟨T2, X2, e2, st2⟩ := getS2 X1 hx hZ hown (host := "") (Or.inl (own_w hw 25 rfl)) Via.refl e1 (zD0.ext zP0.2) (g := (mkF m 27 #[.val (.ref a), .val (.ref va), .val (.int (0 : Int32)), .val (.int (3 : Int32)), .val .null, .unset] [])) rfl (hb hby d2_27)
  refine Rch.st st2 ?_
  refine Rch.st (fun _ hr => XS.ifNo X2.here hx rfl (hb hby d2_30) rfl ((if0 _ _).trans (feq hcs).1) hr) ?_
  refine Rch.st (fun _ hr => XS.aloadN X2.here hx rfl (hb hby d2_33) rfl rfl hr) ?_
  refine Rch.st (fun _ hr => XS.iloadN X2.here hx rfl (hb hby d2_34) rfl hr) ?_
  show Rch p.tables e below _ (T2.setTop (mkF m 35 #[.val (.ref a), .val (.ref va), .val (.int (0 : Int32)), .val (.int (3 : Int32)), .val .null, .unset] [(.int (0 : Int32)), (.ref va)]))
  refine Rch.st (fun _ hr => XS.iloadN X2.here hx rfl (hb hby d2_35) rfl hr) ?_
  obtain ⟨_, T3, Lc3, X3, hQ3, st3⟩ := own_callS X2 hx hZ (y := Y_2) hown (own_w hw 37 rfl) (own_w hw 38 rfl) (own_w hw 39 rfl) (own_w hw 40 rfl) (by decide) (W := 0) (ccomp3 l Z a0 hw [] va ka y0 y1 y2 h0 n0 zP0 zP5 ha0 ha1 ha2) (by decide) (by decide) e2 (by decide) (by decide) (g := (mkF m 36 #[.val (.ref a), .val (.ref va), .val (.int (0 : Int32)), .val (.int (3 : Int32)), .val .null, .unset] [(.int (3 : Int32)), (.int (0 : Int32)), (.ref va)])) rfl (by rw [hml]; rfl) (argsL := [(.ref va), (.int (0 : Int32)), (.int (3 : Int32))]) (rest := []) (lenOf pd_2 rfl) rfl (own_mr rfl rfl) (hb hby d2_36) rfl
  obtain ⟨r_3, kr_3, rfl, N3q, Kp3, Op3, R3_0, R3_1⟩ := hQ3
  have N3 := Fr.app N0 N3q
  refine Rch.st st3 ?_
  have ne4 := Nat.ne_of_lt (Nat.lt_of_lt_of_le zP3.lt R3_0)
  have ne5 := Nat.ne_of_lt (Nat.lt_of_lt_of_le zP5.lt R3_0)
  have g_r_3 : n0 ≤ r_3 := Nat.le_trans (Nat.le_trans (Nat.le_of_eq zP0.1.symm) zP0.2.1) R3_0
  have sz_r_3 : h0.size ≤ r_3 := Nat.le_trans (Keep.refl h0 [a]).1 R3_0
  have K6 := (Keep.refl h0 [a]).trans Kp3 all0
  refine Rch.st (fun _ hr => XS.astore X3.here hx rfl (hb hby d2_39) rfl rfl (l' := #[.val (.ref a), .val (.ref va), .val (.int (0 : Int32)), .val (.int (3 : Int32)), .val .null, .val (.ref r_3)]) rfl hr) ?_
  refine Rch.st (fun _ hr => XS.aloadN X3.here hx rfl (hb hby d2_41) rfl rfl hr) ?_
  refine Rch.st (fun _ hr => XS.aload X3.here hx rfl (hb hby d2_42) rfl rfl hr) ?_
  refine Rch.st (fun _ hr => XS.iloadN X3.here hx rfl (hb hby d2_44) rfl hr) ?_
  obtain ⟨_, T7, Lc7, X7, hQ7, st7⟩ := own_callS X3 hx hZ (y := Y_3) hown (own_w hw 44 rfl) (own_w hw 45 rfl) (own_w hw 39 rfl) (own_w hw 46 rfl) (by decide) (W := 1) (ccfal3 l Z a0 hw [] r_3 kr_3 [(.int y0), (.int y1), (.int y2)] T3.heap n0 R3_1) (by decide) (by decide) rfl (by decide) (by decide) (g := (mkF m 45 #[.val (.ref a), .val (.ref va), .val (.int (0 : Int32)), .val (.int (3 : Int32)), .val .null, .val (.ref r_3)] [(.int (3 : Int32)), (.ref r_3), (.ref a)])) rfl (by rw [hml]; rfl) (argsL := [(.ref r_3), (.int (3 : Int32))]) (rest := [(.ref a)]) (lenOf pd_3 rfl) rfl (own_mr rfl rfl) (hb hby d2_45) rfl
  obtain ⟨rfl, N7q, e7⟩ := hQ7
  have N7 := Fr.app N3 N7q
  refine Rch.st st7 ?_
  have f8 := (zP2.keep Kp3 nin0)
  have f9 := (zP1.keep Kp3)
  obtain ⟨T10, h10, X10, e10, W10, st10⟩ := putFN X7 hx hZ hown (own_w hw 21 rfl) Via.refl e7 f8 f9 (Or.inr ⟨(own_w hw 17 rfl), rfl, hnm⟩) (own_w hw 1 rfl) (ty := .byte) (v' := .int (nar .byte (0 : Int32))) (by decide) rfl (fits_nar_byte _) (g := (mkF m 48 #[.val (.ref a), .val (.ref va), .val (.int (0 : Int32)), .val (.int (3 : Int32)), .val .null, .val (.ref r_3)] [(.int (0 : Int32)), (.ref a)])) rfl rfl (hb hby d2_48)
  refine Rch.st st10 ?_
  have N10 := Fr.snoc X10 N7 zP4
  have f11 := (zP5.keep Kp3 nin0)
  have ne12 := (Ne.symm (Exa.neArv f9 f11 (own_w hw 1 rfl)))
  have K13 := K6.wr W10 (Or.inl (List.mem_of_getElem? (i := 0) rfl))
  have Fw10 : Fld Z h10 a "java/lang/String" "coder" "B" (.int (0 : Int32)) := f8.same W10
  show Rch p.tables e below _ (T10.setTop (mkF m 51 #[.val (.ref a), .val (.ref va), .val (.int (0 : Int32)), .val (.int (3 : Int32)), .val .null, .val (.ref r_3)] []))
  refine Rch.st (fun _ hr => XS.aloadN X10.here hx rfl (hb hby d2_51) rfl rfl hr) ?_
  refine Rch.st (fun _ hr => XS.aload X10.here hx rfl (hb hby d2_52) rfl rfl hr) ?_
  have f14 := ((zP3.keep Kp3 nin0).other W10 (Or.inr (slot_ne (Or.inr (own_w hw 16 rfl)) (Or.inr (own_w hw 17 rfl)) (by decide) (t := (.array .byte)) (t' := .byte) (by decide) (by decide))))
  have f15 := (f9.wr W10)
  obtain ⟨T16, h16, X16, e16, W16, st16⟩ := putF X10 hx hZ hown (host := "") (Or.inl (own_w hw 20 rfl)) Via.refl e10 f14 f15 (Or.inr ⟨(own_w hw 16 rfl), rfl, hnm⟩) (own_w hw 1 rfl) (ty := (.array .byte)) (by decide) rfl rfl (g := (mkF m 54 #[.val (.ref a), .val (.ref va), .val (.int (0 : Int32)), .val (.int (3 : Int32)), .val .null, .val (.ref r_3)] [(.ref r_3), (.ref a)])) rfl rfl (hb hby d2_54)
  refine Rch.st st16 ?_
  have N16 := Fr.snoc X16 N10 zP4
  have f17 := (Op3.wr W10 zP4)
  have K18 := K13.wr W16 (Or.inl (List.mem_of_getElem? (i := 0) rfl))
  have Fw16 := f14.same W16
  obtain ⟨fs, hr, hrun, hended, hW, hsame⟩ := X16.leave (v := none) (fun _ => rfl)
  have f19 := (f17.wr W16 zP4)
  have f20 := (f15.wr W16)
  have f21 := (Fw10.other W16 (Or.inr (slot_ne (Or.inr (own_w hw 17 rfl)) (Or.inr (own_w hw 16 rfl)) (by decide) (t := .byte) (t' := (.array .byte)) (by decide) (by decide))))
  have f22 := ((R3_1.other W10 (Ne.symm ne4)).other W16 (Ne.symm ne4))
  refine Rch.fin (u := T16.setFrames fs) (X16.returnOut hx Bd.returns (hb hby d2_57) hr) ⟨_, hrun, hended, _, _, rfl, ?_, ⟨_, rfl⟩, hW, hsame.mono (by decide) (by decide)⟩
  show Q_cinit3 Z a va ka y0 y1 y2 cs h0 n0 _ T16.heap _
  rw [e16]
  exact ⟨r_3, kr_3, rfl, N16, K18, f19, f20, f21, Fw16, sz_r_3, f22⟩
def Q_cinitC3 (Z : State) (a : Addr) (va : Addr) (ka : ClassId) (y0 : Int32) (y1 : Int32) (y2 : Int32) (cs : Int32) (h0 : Heap) (n0 : Nat) (v : Option Value) (h : Heap) (L : List Loc) : Prop := ∃ (bx : Addr) (kb : ClassId), v = none ∧ Fr n0 L ∧ Keep h0 h [a] ∧ Old Z n0 h ∧ Exa Z h a "java/lang/String" ∧ Fld Z h a "java/lang/String" "coder" "B" (.int (0 : Int32)) ∧ Fld Z h a "java/lang/String" "value" "[B" (.ref bx) ∧ h0.size ≤ bx ∧ Arv Z h bx kb .byte (3 : Int32) [(.int y0), (.int y1), (.int y2)] (.int (0 : Int32))
theorem ef_cinitC3 (m : MethodId) (a : Addr) (va : Addr) (ka : ClassId) (y0 : Int32) (y1 : Int32) (y2 : Int32) (cs : Int32) : entryFrame m #[(.ref a), (.ref va)] 2 = mkF m 0 #[.val (.ref a), .val (.ref va)] [] := by first | (simp [entryFrame, mkF, argsToLocals, Value.category]; done) | rfl
set_option maxRecDepth 65536 in
set_option maxHeartbeats 40000000 in
theorem cinitC3 (l : Launch) (Z : State) (a0 : Array Value) (hw : ∀ d ∈ tables_1, d.before a0 Z = true) (ws : List Jvm.Cond) (a : Addr) (va : Addr) (ka : ClassId) (y0 : Int32) (y1 : Int32) (y2 : Int32) (cs : Int32) (h0 : Heap) (n0 : Nat) (zD0 : Sta Z Z.heap "java/lang/String" "COMPACT_STRINGS" "Z" (.int cs)) (zP0 : Old Z n0 h0) (zP1 : Exa Z h0 a "java/lang/String") (zP2 : Fld Z h0 a "java/lang/String" "coder" "B" (.int (0 : Int32))) (zP3 : Fld Z h0 a "java/lang/String" "value" "[B" .null) (zP4 : n0 ≤ a) (zP5 : Arv Z h0 va ka .char (3 : Int32) [(.int y0), (.int y1), (.int y2)] (.int (0 : Int32))) (ha0 : own_A y0) (ha1 : own_A y1) (ha2 : own_A y2) (hcs : ¬ cs = (0 : Int32)) :
    MetFree l (⟨"java/lang/String", "<init>", "([C)V"⟩ : MethodName) (head1 (Jvm.Cond.code (⟨"java/lang/String", "<init>", "([C)V"⟩ : MethodName) jdk_42_method_3_code 2 none :: ws) ({ frames := 3, cells := 1, slots := 3, locals := 52 } : Room)) (fun aA uU => aA = #[(.ref a), (.ref va)] ∧ Z.Warmed39 uU.vm ∧ uU.heap = h0) (fun _ _ _ _ _ => True) (fun _ uU oO uU' => ∃ vV lL, oO = .returned vV ∧ Q_cinitC3 Z a va ka y0 y1 y2 cs h0 n0 vV uU'.heap lL ∧ FrameEnd uU oO uU' lL ({ frames := 3, cells := 1, slots := 3, locals := 52 } : Room).cells ({ frames := 3, cells := 1, slots := 3, locals := 52 } : Room).slots) := by
  refine MetFree.of_bodySF (plainFor_of_name pn_java_lang_String) hisR ?_
  intro p e s m args below meth c s₁ Bd hml0 hP hK
  obtain ⟨rfl, hZ, hh⟩ := hP
  have hx := Bd.exec
  have hby := Bd.bytes
  have hml : c.maxLocals = 2 := hml0
  have hown : s.vm.findClass "java/lang/String" = some m.cls := findClass_of_methodNamed Bd.named
  have hnm := (name_of_methodNamed Bd.named Bd.method).1
  have X0 : Stand p l e ({ frames := 3, cells := 1, slots := 3, locals := 52 } : Room) s m #[(.ref a), (.ref va)] below meth c s₁ [] 0 0 := Stand.of_body Bd
  have e0 : s₁.heap = h0 := by rw [← hh, Bd.state]; rfl
  have N0 := Fr.nil n0
  refine Rch.out (Rch.st (fun t k => castTop (ef_cinitC3 m a va ka y0 y1 y2 cs) k) ?_)
  show Rch p.tables e below _ (s₁.setTop (mkF m 0 #[.val (.ref a), .val (.ref va)] []))
  refine Rch.st (fun _ hr => XS.aloadN X0.here hx rfl (hb hby d1_0) rfl rfl hr) ?_
  refine Rch.st (fun _ hr => XS.aloadN X0.here hx rfl (hb hby d1_1) rfl rfl hr) ?_
  refine Rch.st (fun _ hr => XS.iconst X0.here hx rfl (hb hby d1_2) hr) ?_
  refine Rch.st (fun _ hr => XS.aloadN X0.here hx rfl (hb hby d1_3) rfl rfl hr) ?_
  obtain ⟨cl1, Ar1, -, Sz1, Ng1, -, -⟩ := id zP5
  refine Rch.st (fun t hr => X0.arraylength hx (by rw [e0]; exact Ar1.1) (State.isArrayOf_alike hZ.alike Ar1.2.1) (g := (mkF m 4 #[.val (.ref a), .val (.ref va)] [(.ref va), (.int (0 : Int32)), (.ref va), (.ref a)])) rfl rfl (hb hby d1_4) t hr) ?_
  rw [len_of Sz1 Ng1]
  refine Rch.st (fun _ hr => XS.aconstNull X0.here hx rfl (hb hby d1_5) hr) ?_
  obtain ⟨_, T2, Lc2, X2, hQ2, st2⟩ := own_callI X0 hx hZ (y := Y_0) rfl hown (own_w hw 7 rfl) (own_w hw 8 rfl) (own_w hw 2 rfl) (own_w hw 10 rfl) (by decide) (W := 0) (cinit3 l Z a0 hw [] a va ka y0 y1 y2 cs h0 n0 zD0 zP0 zP1 zP2 zP3 zP4 zP5 ha0 ha1 ha2 hcs) (by decide) (by decide) e0 (by decide) (by decide) (g := (mkF m 6 #[.val (.ref a), .val (.ref va)] [.null, (.int (3 : Int32)), (.int (0 : Int32)), (.ref va), (.ref a)])) rfl (by rw [hml]; rfl) (a := a) (argsL := [(.ref va), (.int (0 : Int32)), (.int (3 : Int32)), .null]) (rest := []) (lenOf pd_0 rfl) rfl (own_mr rfl rfl) (hb hby d1_6) rfl
  obtain ⟨bx_2, kb_2, rfl, N2q, Kp2, Op2, R2_0, R2_1, R2_2, R2_3, R2_4⟩ := hQ2
  have N2 := Fr.app N0 N2q
  refine Rch.st st2 ?_
  have ne3 := Nat.ne_of_lt (Nat.lt_of_lt_of_le zP3.lt R2_3)
  have ne4 := Nat.ne_of_lt (Nat.lt_of_lt_of_le zP5.lt R2_3)
  have g_bx_2 : n0 ≤ bx_2 := Nat.le_trans (Nat.le_trans (Nat.le_of_eq zP0.1.symm) zP0.2.1) R2_3
  have sz_bx_2 : h0.size ≤ bx_2 := Nat.le_trans (Keep.refl h0 [a]).1 R2_3
  have ne5 := (Ne.symm (Exa.neArv zP1 zP5 (own_w hw 1 rfl)))
  have K6 := (Keep.refl h0 [a]).trans Kp2 (allS (Or.inl (List.mem_of_getElem? (i := 0) rfl)) all0)
  obtain ⟨fs, hr, hrun, hended, hW, hsame⟩ := X2.leave (v := none) (fun _ => rfl)
  refine Rch.fin (u := T2.setFrames fs) (X2.returnOut hx Bd.returns (hb hby d1_9) hr) ⟨_, hrun, hended, _, _, rfl, ?_, ⟨_, rfl⟩, hW, hsame.mono (by decide) (by decide)⟩
  show Q_cinitC3 Z a va ka y0 y1 y2 cs h0 n0 _ T2.heap _
  exact ⟨bx_2, kb_2, rfl, N2, K6, Op2, R2_0, R2_1, R2_2, sz_bx_2, R2_4⟩
theorem d5_0 : decode jdk_43_method_3_code 0 = .ok (.iload_n 0, 1) := by decide +kernel
theorem d5_1 : decode jdk_43_method_3_code 1 = .ok (.sipush 255, 3) := by decide +kernel
theorem d5_4 : decode jdk_43_method_3_code 4 = .ok (.if_icmp .gt 7, 3) := by decide +kernel
theorem d5_7 : decode jdk_43_method_3_code 7 = .ok (.iconst 1, 1) := by decide +kernel
theorem d5_8 : decode jdk_43_method_3_code 8 = .ok (.goto 4, 3) := by decide +kernel
theorem d5_12 : decode jdk_43_method_3_code 12 = .ok (.ireturn, 1) := by decide +kernel
def Q_ccan (Z : State) (y : Int32) (h0 : Heap) (n0 : Nat) (v : Option Value) (h : Heap) (L : List Loc) : Prop := v = some (.int (1 : Int32)) ∧ Fr n0 L ∧ h = h0
theorem pn_java_lang_StringLatin1 : plainName "java/lang/StringLatin1" = true := by first | (simp [plainName, overriddenIn]; done) | decide +kernel
theorem ef_ccan (m : MethodId) (y : Int32) : entryFrame m #[(.int y)] 1 = mkF m 0 #[.val (.int y)] [] := by first | (simp [entryFrame, mkF, argsToLocals, Value.category]; done) | rfl
set_option maxRecDepth 65536 in
set_option maxHeartbeats 40000000 in
theorem ccan (l : Launch) (Z : State) (a0 : Array Value) (hw : ∀ d ∈ tables_1, d.before a0 Z = true) (ws : List Jvm.Cond) (y : Int32) (h0 : Heap) (n0 : Nat) (ha : own_A y) :
    MetFree l (⟨"java/lang/StringLatin1", "canEncode", "(C)Z"⟩ : MethodName) (head1 (Jvm.Cond.code (⟨"java/lang/StringLatin1", "canEncode", "(C)Z"⟩ : MethodName) jdk_43_method_3_code 1 (some .boolean) :: ws) ({ frames := 0, cells := 0, slots := 0, locals := 0 } : Room)) (fun aA uU => aA = #[(.int y)] ∧ Z.Warmed39 uU.vm ∧ uU.heap = h0) (fun _ _ _ _ _ => True) (fun _ uU oO uU' => ∃ vV lL, oO = .returned vV ∧ Q_ccan Z y h0 n0 vV uU'.heap lL ∧ FrameEnd uU oO uU' lL ({ frames := 0, cells := 0, slots := 0, locals := 0 } : Room).cells ({ frames := 0, cells := 0, slots := 0, locals := 0 } : Room).slots) := by
  refine MetFree.of_bodySF (plainFor_of_name pn_java_lang_StringLatin1) hisR ?_
  intro p e s m args below meth c s₁ Bd hml0 hP hK
  obtain ⟨rfl, hZ, hh⟩ := hP
  have hx := Bd.exec
  have hby := Bd.bytes
  have hml : c.maxLocals = 1 := hml0
  have hown : s.vm.findClass "java/lang/StringLatin1" = some m.cls := findClass_of_methodNamed Bd.named
  have hnm := (name_of_methodNamed Bd.named Bd.method).1
  have X0 : Stand p l e ({ frames := 0, cells := 0, slots := 0, locals := 0 } : Room) s m #[(.int y)] below meth c s₁ [] 0 0 := Stand.of_body Bd
  have e0 : s₁.heap = h0 := by rw [← hh, Bd.state]; rfl
  have N0 := Fr.nil n0
  refine Rch.out (Rch.st (fun t k => castTop (ef_ccan m y) k) ?_)
  show Rch p.tables e below _ (s₁.setTop (mkF m 0 #[.val (.int y)] []))
  refine Rch.st (fun _ hr => XS.iloadN X0.here hx rfl (hb hby d5_0) rfl hr) ?_
  refine Rch.st (fun _ hr => XS.sipush X0.here hx rfl (hb hby d5_1) hr) ?_
  refine Rch.st (fun _ hr => XS.icmpNo X0.here hx rfl (hb hby d5_4) rfl (flt (own_A255 ha)).2.2.1 hr) ?_
  refine Rch.st (fun _ hr => XS.iconst X0.here hx rfl (hb hby d5_7) hr) ?_
  refine Rch.st (fun _ hr => XS.goto X0.here hx rfl (pc0 := 8) (pc' := 12) rfl (hb hby d5_8) (by decide) (by decide) hr) ?_
  obtain ⟨fs, hr, hrun, hended, hW, hsame⟩ := X0.leave (v := some (.int (1 : Int32))) (fun h => by rw [Bd.returns] at h; cases h)
  refine Rch.fin (u := s₁.setFrames fs) (retN X0 hx (t := .boolean) Bd.returns (by simp) (hb hby d5_12) hr) ⟨_, hrun, hended, _, _, rfl, ?_, ⟨_, rfl⟩, hW, hsame.mono (by decide) (by decide)⟩
  show Q_ccan Z y h0 n0 _ s₁.heap _
  exact ⟨rfl, N0, e0⟩
theorem d6_0 : decode jdk_43_method_46_code 0 = .ok (.iconst 1, 1) := by decide +kernel
theorem d6_1 : decode jdk_43_method_46_code 1 = .ok (.newarray .byte, 2) := by decide +kernel
theorem d6_3 : decode jdk_43_method_46_code 3 = .ok (.dup, 1) := by decide +kernel
theorem d6_4 : decode jdk_43_method_46_code 4 = .ok (.iconst 0, 1) := by decide +kernel
theorem d6_5 : decode jdk_43_method_46_code 5 = .ok (.iload_n 0, 1) := by decide +kernel
theorem d6_6 : decode jdk_43_method_46_code 6 = .ok (.i2b, 1) := by decide +kernel
theorem d6_7 : decode jdk_43_method_46_code 7 = .ok (.bastore, 1) := by decide +kernel
theorem d6_8 : decode jdk_43_method_46_code 8 = .ok (.areturn, 1) := by decide +kernel
def Q_ctob (Z : State) (y : Int32) (h0 : Heap) (n0 : Nat) (v : Option Value) (h : Heap) (L : List Loc) : Prop := ∃ (r : Addr) (kr : ClassId), v = some (.ref r) ∧ Fr n0 L ∧ Keep h0 h [] ∧ Old Z n0 h ∧ h0.size ≤ r ∧ Arv Z h r kr .byte (1 : Int32) [(.int y)] (.int (0 : Int32))
theorem ef_ctob (m : MethodId) (y : Int32) : entryFrame m #[(.int y)] 1 = mkF m 0 #[.val (.int y)] [] := by first | (simp [entryFrame, mkF, argsToLocals, Value.category]; done) | rfl
set_option maxRecDepth 65536 in
set_option maxHeartbeats 40000000 in
theorem ctob (l : Launch) (Z : State) (a0 : Array Value) (hw : ∀ d ∈ tables_1, d.before a0 Z = true) (ws : List Jvm.Cond) (y : Int32) (h0 : Heap) (n0 : Nat) (zP0 : Old Z n0 h0) (ha : own_A y) :
    MetFree l (⟨"java/lang/StringLatin1", "toBytes", "(C)[B"⟩ : MethodName) (head1 (Jvm.Cond.code (⟨"java/lang/StringLatin1", "toBytes", "(C)[B"⟩ : MethodName) jdk_43_method_46_code 1 (some (.array .byte)) :: ws) ({ frames := 0, cells := 1, slots := 1, locals := 0 } : Room)) (fun aA uU => aA = #[(.int y)] ∧ Z.Warmed39 uU.vm ∧ uU.heap = h0) (fun _ _ _ _ _ => True) (fun _ uU oO uU' => ∃ vV lL, oO = .returned vV ∧ Q_ctob Z y h0 n0 vV uU'.heap lL ∧ FrameEnd uU oO uU' lL ({ frames := 0, cells := 1, slots := 1, locals := 0 } : Room).cells ({ frames := 0, cells := 1, slots := 1, locals := 0 } : Room).slots) := by
  refine MetFree.of_bodySF (plainFor_of_name pn_java_lang_StringLatin1) hisR ?_
  intro p e s m args below meth c s₁ Bd hml0 hP hK
  obtain ⟨rfl, hZ, hh⟩ := hP
  have hx := Bd.exec
  have hby := Bd.bytes
  have hml : c.maxLocals = 1 := hml0
  have hown : s.vm.findClass "java/lang/StringLatin1" = some m.cls := findClass_of_methodNamed Bd.named
  have hnm := (name_of_methodNamed Bd.named Bd.method).1
  have X0 : Stand p l e ({ frames := 0, cells := 1, slots := 1, locals := 0 } : Room) s m #[(.int y)] below meth c s₁ [] 0 0 := Stand.of_body Bd
  have e0 : s₁.heap = h0 := by rw [← hh, Bd.state]; rfl
  have N0 := Fr.nil n0
  refine Rch.out (Rch.st (fun t k => castTop (ef_ctob m y) k) ?_)
  show Rch p.tables e below _ (s₁.setTop (mkF m 0 #[.val (.int y)] []))
  refine Rch.st (fun _ hr => XS.iconst X0.here hx rfl (hb hby d6_0) hr) ?_
  obtain ⟨T1, h1, k1, X1, e1, E1, A1, st1⟩ := newP X0 hx hZ (own_w hw 15 rfl) e0 (g := (mkF m 1 #[.val (.int y)] [(.int (1 : Int32))])) rfl (hb hby d6_1) rfl (by decide) (cap := 1) (by decide) (by decide) (by decide) (by decide)
  obtain ⟨b1, g1⟩ : ∃ z, z = h0.size := ⟨_, rfl⟩
  rw [← g1] at A1 st1
  refine Rch.st st1 ?_
  have q1 : h0.size ≤ b1 := Nat.le_of_eq g1.symm
  have g_b1 : n0 ≤ b1 := Nat.le_trans (Nat.le_trans (Nat.le_of_eq zP0.1.symm) zP0.2.1) q1
  have sz_b1 : h0.size ≤ b1 := Nat.le_trans (Keep.refl h0 []).1 q1
  have K2 := (Keep.refl h0 []).ext E1
  have V1 : Arv Z h1 b1 k1 .byte (1 : Int32) [(.int (0 : Int32))] (.int (0 : Int32)) := (Arv.new A1 (by decide)).pad (pad_rep [] (.int (0 : Int32)) 1)
  refine Rch.st (fun _ hr => XS.dup X1.here hx rfl (hb hby d6_3) rfl rfl hr) ?_
  refine Rch.st (fun _ hr => XS.iconst X1.here hx rfl (hb hby d6_4) hr) ?_
  refine Rch.st (fun _ hr => XS.iloadN X1.here hx rfl (hb hby d6_5) rfl hr) ?_
  refine Rch.st (fun _ hr => XS.i2b X1.here hx rfl (hb hby d6_6) rfl hr) ?_
  show Rch p.tables e below _ (T1.setTop (mkF m 7 #[.val (.int y)] [(.int (y.toInt8.toInt32)), (.int (0 : Int32)), (.ref b1), (.ref b1)]))
  rw [own_i2b ha]
  obtain ⟨cl3, Ar3, qk3, Sz3, Ng3, Ha3, Gf3⟩ := id V1
  have hin3 := inb_of (j := (0 : Int32)) Sz3 ⟨by decide, by decide⟩
  obtain ⟨T4, h4, X4, e4, W4, st4⟩ := stB X1 hx hZ e1 Ar3 (j := (0 : Int32)) hin3 (g := (mkF m 7 #[.val (.int y)] [(.int y), (.int (0 : Int32)), (.ref b1), (.ref b1)])) rfl rfl (hb hby d6_7)
  rw [own_nar_byte ha] at W4
  refine Rch.st st4 ?_
  have N4 := Fr.snoc X4 N0 g_b1
  have f5 := (zP0.ext E1)
  have K6 := K2.wr W4 (Or.inr sz_b1)
  have V4 : Arv Z h4 b1 k1 .byte (1 : Int32) [(.int y)] (.int (0 : Int32)) := Arv.set Ar3 qk3 Sz3 Ng3 Ha3 Gf3 (own_fit_byte ha) W4 0 rfl (Nat.le_of_ble_eq_true rfl)
  obtain ⟨fs, hr, hrun, hended, hW, hsame⟩ := X4.leave (v := some (.ref b1)) (fun h => by rw [Bd.returns] at h; cases h)
  have f7 := (f5.wr W4 g_b1)
  refine Rch.fin (u := T4.setFrames fs) (own_retA X4 hx Bd.returns rfl rfl rfl (hb hby d6_8) hr) ⟨_, hrun, hended, _, _, rfl, ?_, ⟨_, rfl⟩, hW, hsame.mono (by decide) (by decide)⟩
  show Q_ctob Z y h0 n0 _ T4.heap _
  rw [e4]
  exact ⟨b1, k1, rfl, N4, K6, f7, sz_b1, V4⟩
theorem d7_0 : decode jdk_42_method_151_code 0 = .ok (.aload_n 0, 1) := by decide +kernel
theorem d7_1 : decode jdk_42_method_151_code 1 = .ok (.invokespecial 1, 3) := by decide +kernel
theorem d7_4 : decode jdk_42_method_151_code 4 = .ok (.aload_n 0, 1) := by decide +kernel
theorem d7_5 : decode jdk_42_method_151_code 5 = .ok (.aload_n 1, 1) := by decide +kernel
theorem d7_6 : decode jdk_42_method_151_code 6 = .ok (.putfield 9, 3) := by decide +kernel
theorem d7_9 : decode jdk_42_method_151_code 9 = .ok (.aload_n 0, 1) := by decide +kernel
theorem d7_10 : decode jdk_42_method_151_code 10 = .ok (.iload_n 2, 1) := by decide +kernel
theorem d7_11 : decode jdk_42_method_151_code 11 = .ok (.putfield 15, 3) := by decide +kernel
theorem d7_14 : decode jdk_42_method_151_code 14 = .ok (.return_, 1) := by decide +kernel
def Q_cinitBB (Z : State) (a : Addr) (bx : Addr) (h0 : Heap) (n0 : Nat) (v : Option Value) (h : Heap) (L : List Loc) : Prop := v = none ∧ Fr n0 L ∧ Keep h0 h [a] ∧ Old Z n0 h ∧ Exa Z h a "java/lang/String" ∧ Fld Z h a "java/lang/String" "coder" "B" (.int (0 : Int32)) ∧ Fld Z h a "java/lang/String" "value" "[B" (.ref bx)
theorem ef_cinitBB (m : MethodId) (a : Addr) (bx : Addr) : entryFrame m #[(.ref a), (.ref bx), (.int (0 : Int32))] 3 = mkF m 0 #[.val (.ref a), .val (.ref bx), .val (.int (0 : Int32))] [] := by first | (simp [entryFrame, mkF, argsToLocals, Value.category]; done) | rfl
set_option maxRecDepth 65536 in
set_option maxHeartbeats 40000000 in
theorem cinitBB (l : Launch) (Z : State) (a0 : Array Value) (hw : ∀ d ∈ tables_1, d.before a0 Z = true) (ws : List Jvm.Cond) (a : Addr) (bx : Addr) (h0 : Heap) (n0 : Nat) (zP0 : Old Z n0 h0) (zP1 : Exa Z h0 a "java/lang/String") (zP2 : Fld Z h0 a "java/lang/String" "coder" "B" (.int (0 : Int32))) (zP3 : Fld Z h0 a "java/lang/String" "value" "[B" .null) (zP4 : n0 ≤ a) :
    MetFree l (⟨"java/lang/String", "<init>", "([BB)V"⟩ : MethodName) (head1 (Jvm.Cond.code (⟨"java/lang/String", "<init>", "([BB)V"⟩ : MethodName) jdk_42_method_151_code 3 none :: ws) ({ frames := 1, cells := 0, slots := 0, locals := 12 } : Room)) (fun aA uU => aA = #[(.ref a), (.ref bx), (.int (0 : Int32))] ∧ Z.Warmed39 uU.vm ∧ uU.heap = h0) (fun _ _ _ _ _ => True) (fun _ uU oO uU' => ∃ vV lL, oO = .returned vV ∧ Q_cinitBB Z a bx h0 n0 vV uU'.heap lL ∧ FrameEnd uU oO uU' lL ({ frames := 1, cells := 0, slots := 0, locals := 12 } : Room).cells ({ frames := 1, cells := 0, slots := 0, locals := 12 } : Room).slots) := by
  refine MetFree.of_bodySF (plainFor_of_name pn_java_lang_String) hisR ?_
  intro p e s m args below meth c s₁ Bd hml0 hP hK
  obtain ⟨rfl, hZ, hh⟩ := hP
  have hx := Bd.exec
  have hby := Bd.bytes
  have hml : c.maxLocals = 3 := hml0
  have hown : s.vm.findClass "java/lang/String" = some m.cls := findClass_of_methodNamed Bd.named
  have hnm := (name_of_methodNamed Bd.named Bd.method).1
  have X0 : Stand p l e ({ frames := 1, cells := 0, slots := 0, locals := 12 } : Room) s m #[(.ref a), (.ref bx), (.int (0 : Int32))] below meth c s₁ [] 0 0 := Stand.of_body Bd
  have e0 : s₁.heap = h0 := by rw [← hh, Bd.state]; rfl
  have N0 := Fr.nil n0
  refine Rch.out (Rch.st (fun t k => castTop (ef_cinitBB m a bx) k) ?_)
  show Rch p.tables e below _ (s₁.setTop (mkF m 0 #[.val (.ref a), .val (.ref bx), .val (.int (0 : Int32))] []))
  refine Rch.st (fun _ hr => XS.aloadN X0.here hx rfl (hb hby d7_0) rfl rfl hr) ?_
  obtain ⟨T1, X1, e1, st1⟩ := initO X0 hx hZ hown (own_w hw 11 rfl) (own_w hw 12 rfl) (own_w hw 13 rfl) e0 (g := (mkF m 1 #[.val (.ref a), .val (.ref bx), .val (.int (0 : Int32))] [(.ref a)])) rfl (by rw [hml]; rfl) rfl (hb hby d7_1) (by decide) (W := 0) (own_mr rfl rfl) (by decide)
  refine Rch.st st1 ?_
  refine Rch.st (fun _ hr => XS.aloadN X1.here hx rfl (hb hby d7_4) rfl rfl hr) ?_
  refine Rch.st (fun _ hr => XS.aloadN X1.here hx rfl (hb hby d7_5) rfl rfl hr) ?_
  obtain ⟨T2, h2, X2, e2, W2, st2⟩ := putF X1 hx hZ hown (host := "") (Or.inl (own_w hw 20 rfl)) Via.refl e1 zP3 zP1 (Or.inr ⟨(own_w hw 16 rfl), rfl, hnm⟩) (own_w hw 1 rfl) (ty := (.array .byte)) (by decide) rfl rfl (g := (mkF m 6 #[.val (.ref a), .val (.ref bx), .val (.int (0 : Int32))] [(.ref bx), (.ref a)])) rfl rfl (hb hby d7_6)
  refine Rch.st st2 ?_
  have N2 := Fr.snoc X2 N0 zP4
  have K3 := (Keep.refl h0 [a]).wr W2 (Or.inl (List.mem_of_getElem? (i := 0) rfl))
  have Fw2 := zP3.same W2
  refine Rch.st (fun _ hr => XS.aloadN X2.here hx rfl (hb hby d7_9) rfl rfl hr) ?_
  refine Rch.st (fun _ hr => XS.iloadN X2.here hx rfl (hb hby d7_10) rfl hr) ?_
  have f4 := (zP2.other W2 (Or.inr (slot_ne (Or.inr (own_w hw 17 rfl)) (Or.inr (own_w hw 16 rfl)) (by decide) (t := .byte) (t' := (.array .byte)) (by decide) (by decide))))
  have f5 := (zP1.wr W2)
  obtain ⟨T6, h6, X6, e6, W6, st6⟩ := putFN X2 hx hZ hown (own_w hw 21 rfl) Via.refl e2 f4 f5 (Or.inr ⟨(own_w hw 17 rfl), rfl, hnm⟩) (own_w hw 1 rfl) (ty := .byte) (v' := .int (nar .byte (0 : Int32))) (by decide) rfl (fits_nar_byte _) (g := (mkF m 11 #[.val (.ref a), .val (.ref bx), .val (.int (0 : Int32))] [(.int (0 : Int32)), (.ref a)])) rfl rfl (hb hby d7_11)
  refine Rch.st st6 ?_
  have N6 := Fr.snoc X6 N2 zP4
  have f7 := (zP0.wr W2 zP4)
  have K8 := K3.wr W6 (Or.inl (List.mem_of_getElem? (i := 0) rfl))
  have Fw6 : Fld Z h6 a "java/lang/String" "coder" "B" (.int (0 : Int32)) := f4.same W6
  show Rch p.tables e below _ (T6.setTop (mkF m 14 #[.val (.ref a), .val (.ref bx), .val (.int (0 : Int32))] []))
  obtain ⟨fs, hr, hrun, hended, hW, hsame⟩ := X6.leave (v := none) (fun _ => rfl)
  have f9 := (f7.wr W6 zP4)
  have f10 := (f5.wr W6)
  have f11 := (Fw2.other W6 (Or.inr (slot_ne (Or.inr (own_w hw 16 rfl)) (Or.inr (own_w hw 17 rfl)) (by decide) (t := (.array .byte)) (t' := .byte) (by decide) (by decide))))
  refine Rch.fin (u := T6.setFrames fs) (X6.returnOut hx Bd.returns (hb hby d7_14) hr) ⟨_, hrun, hended, _, _, rfl, ?_, ⟨_, rfl⟩, hW, hsame.mono (by decide) (by decide)⟩
  show Q_cinitBB Z a bx h0 n0 _ T6.heap _
  rw [e6]
  exact ⟨rfl, N6, K8, f9, f10, Fw6, f11⟩
theorem d4_0 : decode jdk_42_method_139_code 0 = .ok (.getstatic 38, 3) := by decide +kernel
theorem d4_3 : decode jdk_42_method_139_code 3 = .ok (.ifCond .eq 23, 3) := by decide +kernel
theorem d4_6 : decode jdk_42_method_139_code 6 = .ok (.iload_n 0, 1) := by decide +kernel
theorem d4_7 : decode jdk_42_method_139_code 7 = .ok (.invokestatic 1015, 3) := by decide +kernel
theorem pd_4 : parseMethodDescriptor "(C)Z" = some ⟨[.char], some .boolean⟩ := by decide +kernel
abbrev Y_4 : MethodName := ⟨"java/lang/StringLatin1", "canEncode", "(C)Z"⟩
theorem d4_10 : decode jdk_42_method_139_code 10 = .ok (.ifCond .eq 16, 3) := by decide +kernel
theorem d4_13 : decode jdk_42_method_139_code 13 = .ok (.new 10, 3) := by decide +kernel
theorem d4_16 : decode jdk_42_method_139_code 16 = .ok (.dup, 1) := by decide +kernel
theorem d4_17 : decode jdk_42_method_139_code 17 = .ok (.iload_n 0, 1) := by decide +kernel
theorem d4_18 : decode jdk_42_method_139_code 18 = .ok (.invokestatic 1018, 3) := by decide +kernel
theorem pd_5 : parseMethodDescriptor "(C)[B" = some ⟨[.char], some (.array .byte)⟩ := by decide +kernel
abbrev Y_5 : MethodName := ⟨"java/lang/StringLatin1", "toBytes", "(C)[B"⟩
theorem d4_21 : decode jdk_42_method_139_code 21 = .ok (.iconst 0, 1) := by decide +kernel
theorem d4_22 : decode jdk_42_method_139_code 22 = .ok (.invokespecial 209, 3) := by decide +kernel
theorem pd_6 : parseMethodDescriptor "([BB)V" = some ⟨[(.array .byte), .byte], none⟩ := by decide +kernel
abbrev Y_6 : MethodName := ⟨"java/lang/String", "<init>", "([BB)V"⟩
theorem d4_25 : decode jdk_42_method_139_code 25 = .ok (.areturn, 1) := by decide +kernel
def Q_cvof (Z : State) (y : Int32) (cs : Int32) (h0 : Heap) (n0 : Nat) (v : Option Value) (h : Heap) (L : List Loc) : Prop := ∃ (r : Addr) (bx : Addr) (kb : ClassId), v = some (.ref r) ∧ Fr n0 L ∧ Keep h0 h [] ∧ Old Z n0 h ∧ h0.size ≤ r ∧ Exa Z h r "java/lang/String" ∧ Fld Z h r "java/lang/String" "coder" "B" (.int (0 : Int32)) ∧ Fld Z h r "java/lang/String" "value" "[B" (.ref bx) ∧ h0.size ≤ bx ∧ Arv Z h bx kb .byte (1 : Int32) [(.int y)] (.int (0 : Int32)) ∧ r ≠ bx
theorem ef_cvof (m : MethodId) (y : Int32) (cs : Int32) : entryFrame m #[(.int y)] 1 = mkF m 0 #[.val (.int y)] [] := by first | (simp [entryFrame, mkF, argsToLocals, Value.category]; done) | rfl
set_option maxRecDepth 65536 in
set_option maxHeartbeats 40000000 in
theorem cvof (l : Launch) (Z : State) (a0 : Array Value) (hw : ∀ d ∈ tables_1, d.before a0 Z = true) (ws : List Jvm.Cond) (y : Int32) (cs : Int32) (h0 : Heap) (n0 : Nat) (zD0 : Sta Z Z.heap "java/lang/String" "COMPACT_STRINGS" "Z" (.int cs)) (zP0 : Old Z n0 h0) (ha : own_A y) (hcs : ¬ cs = (0 : Int32)) :
    MetFree l (⟨"java/lang/String", "valueOf", "(C)Ljava/lang/String;"⟩ : MethodName) (head1 (Jvm.Cond.code (⟨"java/lang/String", "valueOf", "(C)Ljava/lang/String;"⟩ : MethodName) jdk_42_method_139_code 1 (some (.object "java/lang/String")) :: ws) ({ frames := 2, cells := 2, slots := 5, locals := 27 } : Room)) (fun aA uU => aA = #[(.int y)] ∧ Z.Warmed39 uU.vm ∧ uU.heap = h0) (fun _ _ _ _ _ => True) (fun _ uU oO uU' => ∃ vV lL, oO = .returned vV ∧ Q_cvof Z y cs h0 n0 vV uU'.heap lL ∧ FrameEnd uU oO uU' lL ({ frames := 2, cells := 2, slots := 5, locals := 27 } : Room).cells ({ frames := 2, cells := 2, slots := 5, locals := 27 } : Room).slots) := by
  refine MetFree.of_bodySF (plainFor_of_name pn_java_lang_String) hisR ?_
  intro p e s m args below meth c s₁ Bd hml0 hP hK
  obtain ⟨rfl, hZ, hh⟩ := hP
  have hx := Bd.exec
  have hby := Bd.bytes
  have hml : c.maxLocals = 1 := hml0
  have hown : s.vm.findClass "java/lang/String" = some m.cls := findClass_of_methodNamed Bd.named
  have hnm := (name_of_methodNamed Bd.named Bd.method).1
  have X0 : Stand p l e ({ frames := 2, cells := 2, slots := 5, locals := 27 } : Room) s m #[(.int y)] below meth c s₁ [] 0 0 := Stand.of_body Bd
  have e0 : s₁.heap = h0 := by rw [← hh, Bd.state]; rfl
  have N0 := Fr.nil n0
  refine Rch.out (Rch.st (fun t k => castTop (ef_cvof m y cs) k) ?_)
  show Rch p.tables e below _ (s₁.setTop (mkF m 0 #[.val (.int y)] []))
  obtain ⟨T1, X1, e1, st1⟩ := getS2 X0 hx hZ hown (host := "") (Or.inl (own_w hw 25 rfl)) Via.refl e0 (zD0.ext zP0.2) (g := (mkF m 0 #[.val (.int y)] [])) rfl (hb hby d4_0)
  refine Rch.st st1 ?_
  refine Rch.st (fun _ hr => XS.ifNo X1.here hx rfl (hb hby d4_3) rfl ((if0 _ _).trans (feq hcs).1) hr) ?_
  refine Rch.st (fun _ hr => XS.iloadN X1.here hx rfl (hb hby d4_6) rfl hr) ?_
  obtain ⟨_, T2, Lc2, X2, hQ2, st2⟩ := own_callS X1 hx hZ (y := Y_4) hown (own_w hw 26 rfl) (own_w hw 27 rfl) (own_w hw 28 rfl) (own_w hw 29 rfl) (by decide) (W := 0) (ccan l Z a0 hw [] y h0 n0 ha) (by decide) (by decide) e1 (by decide) (by decide) (g := (mkF m 7 #[.val (.int y)] [(.int y)])) rfl (by rw [hml]; rfl) (argsL := [(.int y)]) (rest := []) (lenOf pd_4 rfl) rfl (own_mr rfl rfl) (hb hby d4_7) rfl
  obtain ⟨rfl, N2q, e2⟩ := hQ2
  have N2 := Fr.app N0 N2q
  refine Rch.st st2 ?_
  refine Rch.st (fun _ hr => XS.ifNo X2.here hx rfl (hb hby d4_10) rfl ((if0 _ _).trans (feq (by decide : ¬ ((1 : Int32) = (0 : Int32)))).1) hr) ?_
  obtain ⟨T3, h3, X3, e3, E3, A3, D3, -, st3⟩ := newO X2 hx hZ hown (own_w hw 30 rfl) (own_w hw 1 rfl) (own_w hw 2 rfl) e2 (g := (mkF m 13 #[.val (.int y)] [])) rfl (hb hby d4_13) (by decide) (by decide)
  obtain ⟨b3, g3⟩ : ∃ z, z = h0.size := ⟨_, rfl⟩
  rw [← g3] at A3 D3 st3
  refine Rch.st st3 ?_
  have q3 : h0.size ≤ b3 := Nat.le_of_eq g3.symm
  have g_b3 : n0 ≤ b3 := Nat.le_trans (Nat.le_trans (Nat.le_of_eq zP0.1.symm) zP0.2.1) q3
  have sz_b3 : h0.size ≤ b3 := Nat.le_trans (Keep.refl h0 []).1 q3
  have K4 := (Keep.refl h0 []).ext E3
  have F3_value : Fld Z h3 b3 "java/lang/String" "value" "[B" .null := D3 (Or.inr (own_w hw 16 rfl)) (ty := (.array .byte)) (by decide)
  have F3_coder : Fld Z h3 b3 "java/lang/String" "coder" "B" (.int (0 : Int32)) := D3 (Or.inr (own_w hw 17 rfl)) (ty := .byte) (by decide)
  refine Rch.st (fun _ hr => XS.dup X3.here hx rfl (hb hby d4_16) rfl rfl hr) ?_
  refine Rch.st (fun _ hr => XS.iloadN X3.here hx rfl (hb hby d4_17) rfl hr) ?_
  show Rch p.tables e below _ (T3.setTop (mkF m 18 #[.val (.int y)] [(.int y), (.ref b3), (.ref b3)]))
  have f6 := (zP0.ext E3)
  obtain ⟨_, T5, Lc5, X5, hQ5, st5⟩ := own_callS X3 hx hZ (y := Y_5) hown (own_w hw 31 rfl) (own_w hw 32 rfl) (own_w hw 28 rfl) (own_w hw 33 rfl) (by decide) (W := 2) (ctob l Z a0 hw [] y h3 n0 f6 ha) (by decide) (by decide) e3 (by decide) (by decide) (g := (mkF m 18 #[.val (.int y)] [(.int y), (.ref b3), (.ref b3)])) rfl (by rw [hml]; rfl) (argsL := [(.int y)]) (rest := [(.ref b3), (.ref b3)]) (lenOf pd_5 rfl) rfl (own_mr rfl rfl) (hb hby d4_18) rfl
  obtain ⟨r_5, kr_5, rfl, N5q, Kp5, Op5, R5_0, R5_1⟩ := hQ5
  have N5 := Fr.app N2 N5q
  refine Rch.st st5 ?_
  have ne7 := Nat.ne_of_lt (Nat.lt_of_lt_of_le F3_coder.lt R5_0)
  have g_r_5 : n0 ≤ r_5 := Nat.le_trans (Nat.le_trans (Nat.le_of_eq f6.1.symm) f6.2.1) R5_0
  have sz_r_5 : h0.size ≤ r_5 := Nat.le_trans K4.1 R5_0
  have K8 := K4.trans Kp5 all0
  refine Rch.st (fun _ hr => XS.iconst X5.here hx rfl (hb hby d4_21) hr) ?_
  have f10 := (A3.keep Kp5)
  have f11 := (F3_coder.keep Kp5 nin0)
  have f12 := (F3_value.keep Kp5 nin0)
  obtain ⟨_, T9, Lc9, X9, hQ9, st9⟩ := own_callI X5 hx hZ (y := Y_6) rfl hown (own_w hw 34 rfl) (own_w hw 35 rfl) (own_w hw 2 rfl) (own_w hw 36 rfl) (by decide) (W := 1) (cinitBB l Z a0 hw [] b3 r_5 T5.heap n0 Op5 f10 f11 f12 g_b3) (by decide) (by decide) rfl (by decide) (by decide) (g := (mkF m 22 #[.val (.int y)] [(.int (0 : Int32)), (.ref r_5), (.ref b3), (.ref b3)])) rfl (by rw [hml]; rfl) (a := b3) (argsL := [(.ref r_5), (.int (0 : Int32))]) (rest := [(.ref b3)]) (lenOf pd_6 rfl) rfl (own_mr rfl rfl) (hb hby d4_22) rfl
  obtain ⟨rfl, N9q, Kp9, Op9, R9_0, R9_1, R9_2⟩ := hQ9
  have N9 := Fr.app N5 N9q
  refine Rch.st st9 ?_
  have K13 := K8.trans Kp9 (allS (Or.inr sz_b3) all0)
  obtain ⟨fs, hr, hrun, hended, hW, hsame⟩ := X9.leave (v := some (.ref b3)) (fun h => by rw [Bd.returns] at h; cases h)
  have f14 := (R5_1.keep Kp9 (ninS (Ne.symm ne7) nin0))
  refine Rch.fin (u := T9.setFrames fs) (own_retA X9 hx Bd.returns rfl rfl rfl (hb hby d4_25) hr) ⟨_, hrun, hended, _, _, rfl, ?_, ⟨_, rfl⟩, hW, hsame.mono (by decide) (by decide)⟩
  show Q_cvof Z y cs h0 n0 _ T9.heap _
  exact ⟨b3, r_5, kr_5, rfl, N9, K13, Op9, sz_b3, R9_0, R9_1, R9_2, sz_r_5, f14, ne7⟩
theorem d15_0 : decode jdk_42_method_152_code 0 = .ok (.getstatic 38, 3) := by decide +kernel
theorem d15_3 : decode jdk_42_method_152_code 3 = .ok (.ifCond .eq 10, 3) := by decide +kernel
theorem d15_6 : decode jdk_42_method_152_code 6 = .ok (.aload_n 0, 1) := by decide +kernel
theorem d15_7 : decode jdk_42_method_152_code 7 = .ok (.getfield 15, 3) := by decide +kernel
theorem d15_10 : decode jdk_42_method_152_code 10 = .ok (.goto 4, 3) := by decide +kernel
theorem d15_14 : decode jdk_42_method_152_code 14 = .ok (.ireturn, 1) := by decide +kernel
def Q_ccoder (Z : State) (a : Addr) (cs : Int32) (h0 : Heap) (n0 : Nat) (v : Option Value) (h : Heap) (L : List Loc) : Prop := v = some (.int (0 : Int32)) ∧ Fr n0 L ∧ h = h0
theorem ef_ccoder (m : MethodId) (a : Addr) (cs : Int32) : entryFrame m #[(.ref a)] 1 = mkF m 0 #[.val (.ref a)] [] := by first | (simp [entryFrame, mkF, argsToLocals, Value.category]; done) | rfl
set_option maxRecDepth 65536 in
set_option maxHeartbeats 40000000 in
theorem ccoder (l : Launch) (Z : State) (a0 : Array Value) (hw : ∀ d ∈ tables_1, d.before a0 Z = true) (ws : List Jvm.Cond) (a : Addr) (cs : Int32) (h0 : Heap) (n0 : Nat) (zD0 : Sta Z Z.heap "java/lang/String" "COMPACT_STRINGS" "Z" (.int cs)) (zP0 : Old Z n0 h0) (zP1 : Fld Z h0 a "java/lang/String" "coder" "B" (.int (0 : Int32))) (hcs : ¬ cs = (0 : Int32)) :
    MetFree l (⟨"java/lang/String", "coder", "()B"⟩ : MethodName) (head1 (Jvm.Cond.code (⟨"java/lang/String", "coder", "()B"⟩ : MethodName) jdk_42_method_152_code 1 (some .byte) :: ws) ({ frames := 0, cells := 0, slots := 0, locals := 0 } : Room)) (fun aA uU => aA = #[(.ref a)] ∧ Z.Warmed39 uU.vm ∧ uU.heap = h0) (fun _ _ _ _ _ => True) (fun _ uU oO uU' => ∃ vV lL, oO = .returned vV ∧ Q_ccoder Z a cs h0 n0 vV uU'.heap lL ∧ FrameEnd uU oO uU' lL ({ frames := 0, cells := 0, slots := 0, locals := 0 } : Room).cells ({ frames := 0, cells := 0, slots := 0, locals := 0 } : Room).slots) := by
  refine MetFree.of_bodySF (plainFor_of_name pn_java_lang_String) hisR ?_
  intro p e s m args below meth c s₁ Bd hml0 hP hK
  obtain ⟨rfl, hZ, hh⟩ := hP
  have hx := Bd.exec
  have hby := Bd.bytes
  have hml : c.maxLocals = 1 := hml0
  have hown : s.vm.findClass "java/lang/String" = some m.cls := findClass_of_methodNamed Bd.named
  have hnm := (name_of_methodNamed Bd.named Bd.method).1
  have X0 : Stand p l e ({ frames := 0, cells := 0, slots := 0, locals := 0 } : Room) s m #[(.ref a)] below meth c s₁ [] 0 0 := Stand.of_body Bd
  have e0 : s₁.heap = h0 := by rw [← hh, Bd.state]; rfl
  have N0 := Fr.nil n0
  refine Rch.out (Rch.st (fun t k => castTop (ef_ccoder m a cs) k) ?_)
  show Rch p.tables e below _ (s₁.setTop (mkF m 0 #[.val (.ref a)] []))
  obtain ⟨T1, X1, e1, st1⟩ := getS2 X0 hx hZ hown (host := "") (Or.inl (own_w hw 25 rfl)) Via.refl e0 (zD0.ext zP0.2) (g := (mkF m 0 #[.val (.ref a)] [])) rfl (hb hby d15_0)
  refine Rch.st st1 ?_
  refine Rch.st (fun _ hr => XS.ifNo X1.here hx rfl (hb hby d15_3) rfl ((if0 _ _).trans (feq hcs).1) hr) ?_
  refine Rch.st (fun _ hr => XS.aloadN X1.here hx rfl (hb hby d15_6) rfl rfl hr) ?_
  obtain ⟨T2, X2, e2, st2⟩ := getF X1 hx hZ hown (host := "") (Or.inl (own_w hw 21 rfl)) Via.refl e1 zP1 (g := (mkF m 7 #[.val (.ref a)] [(.ref a)])) rfl rfl (hb hby d15_7)
  refine Rch.st st2 ?_
  refine Rch.st (fun _ hr => XS.goto X2.here hx rfl (pc0 := 10) (pc' := 14) rfl (hb hby d15_10) (by decide) (by decide) hr) ?_
  obtain ⟨fs, hr, hrun, hended, hW, hsame⟩ := X2.leave (v := some (.int (0 : Int32))) (fun h => by rw [Bd.returns] at h; cases h)
  refine Rch.fin (u := T2.setFrames fs) (retN X2 hx (t := .byte) Bd.returns (by simp) (hb hby d15_14) hr) ⟨_, hrun, hended, _, _, rfl, ?_, ⟨_, rfl⟩, hW, hsame.mono (by decide) (by decide)⟩
  show Q_ccoder Z a cs h0 n0 _ T2.heap _
  exact ⟨rfl, N0, e2⟩
theorem d14_0 : decode jdk_42_method_54_code 0 = .ok (.aload_n 0, 1) := by decide +kernel
theorem d14_1 : decode jdk_42_method_54_code 1 = .ok (.getfield 9, 3) := by decide +kernel
theorem d14_4 : decode jdk_42_method_54_code 4 = .ok (.arraylength, 1) := by decide +kernel
theorem d14_5 : decode jdk_42_method_54_code 5 = .ok (.aload_n 0, 1) := by decide +kernel
theorem d14_6 : decode jdk_42_method_54_code 6 = .ok (.invokevirtual 335, 3) := by decide +kernel
theorem pd_7 : parseMethodDescriptor "()B" = some ⟨[], some .byte⟩ := by decide +kernel
abbrev Y_7 : MethodName := ⟨"java/lang/String", "coder", "()B"⟩
theorem d14_9 : decode jdk_42_method_54_code 9 = .ok (.ishr, 1) := by decide +kernel
theorem d14_10 : decode jdk_42_method_54_code 10 = .ok (.ireturn, 1) := by decide +kernel
def Q_clen (Z : State) (a : Addr) (bx : Addr) (kb : ClassId) (z : Int32) (vs : List Value) (cs : Int32) (h0 : Heap) (n0 : Nat) (v : Option Value) (h : Heap) (L : List Loc) : Prop := v = some (.int z) ∧ Fr n0 L ∧ h = h0
theorem ef_clen (m : MethodId) (a : Addr) (bx : Addr) (kb : ClassId) (z : Int32) (vs : List Value) (cs : Int32) : entryFrame m #[(.ref a)] 1 = mkF m 0 #[.val (.ref a)] [] := by first | (simp [entryFrame, mkF, argsToLocals, Value.category]; done) | rfl
set_option maxRecDepth 65536 in
set_option maxHeartbeats 40000000 in
theorem clen (l : Launch) (Z : State) (a0 : Array Value) (hw : ∀ d ∈ tables_1, d.before a0 Z = true) (ws : List Jvm.Cond) (a : Addr) (bx : Addr) (kb : ClassId) (z : Int32) (vs : List Value) (cs : Int32) (h0 : Heap) (n0 : Nat) (zD0 : Sta Z Z.heap "java/lang/String" "COMPACT_STRINGS" "Z" (.int cs)) (zP0 : Old Z n0 h0) (zP1 : Exa Z h0 a "java/lang/String") (zP2 : Fld Z h0 a "java/lang/String" "coder" "B" (.int (0 : Int32))) (zP3 : Fld Z h0 a "java/lang/String" "value" "[B" (.ref bx)) (zP4 : Arv Z h0 bx kb .byte z vs (.int (0 : Int32))) (hcs : ¬ cs = (0 : Int32)) :
    MetFree l (⟨"java/lang/String", "length", "()I"⟩ : MethodName) (head1 (Jvm.Cond.code (⟨"java/lang/String", "length", "()I"⟩ : MethodName) jdk_42_method_54_code 1 (some .int) :: ws) ({ frames := 1, cells := 0, slots := 0, locals := 13 } : Room)) (fun aA uU => aA = #[(.ref a)] ∧ Z.Warmed39 uU.vm ∧ uU.heap = h0) (fun _ _ _ _ _ => True) (fun _ uU oO uU' => ∃ vV lL, oO = .returned vV ∧ Q_clen Z a bx kb z vs cs h0 n0 vV uU'.heap lL ∧ FrameEnd uU oO uU' lL ({ frames := 1, cells := 0, slots := 0, locals := 13 } : Room).cells ({ frames := 1, cells := 0, slots := 0, locals := 13 } : Room).slots) := by
  refine MetFree.of_bodySF (plainFor_of_name pn_java_lang_String) hisR ?_
  intro p e s m args below meth c s₁ Bd hml0 hP hK
  obtain ⟨rfl, hZ, hh⟩ := hP
  have hx := Bd.exec
  have hby := Bd.bytes
  have hml : c.maxLocals = 1 := hml0
  have hown : s.vm.findClass "java/lang/String" = some m.cls := findClass_of_methodNamed Bd.named
  have hnm := (name_of_methodNamed Bd.named Bd.method).1
  have X0 : Stand p l e ({ frames := 1, cells := 0, slots := 0, locals := 13 } : Room) s m #[(.ref a)] below meth c s₁ [] 0 0 := Stand.of_body Bd
  have e0 : s₁.heap = h0 := by rw [← hh, Bd.state]; rfl
  have N0 := Fr.nil n0
  refine Rch.out (Rch.st (fun t k => castTop (ef_clen m a bx kb z vs cs) k) ?_)
  show Rch p.tables e below _ (s₁.setTop (mkF m 0 #[.val (.ref a)] []))
  refine Rch.st (fun _ hr => XS.aloadN X0.here hx rfl (hb hby d14_0) rfl rfl hr) ?_
  obtain ⟨T1, X1, e1, st1⟩ := getF X0 hx hZ hown (host := "") (Or.inl (own_w hw 20 rfl)) Via.refl e0 zP3 (g := (mkF m 1 #[.val (.ref a)] [(.ref a)])) rfl rfl (hb hby d14_1)
  refine Rch.st st1 ?_
  obtain ⟨cl2, Ar2, -, Sz2, Ng2, -, -⟩ := id zP4
  refine Rch.st (fun t hr => X1.arraylength hx (by rw [e1]; exact Ar2.1) (State.isArrayOf_alike hZ.alike Ar2.2.1) (g := (mkF m 4 #[.val (.ref a)] [(.ref bx)])) rfl rfl (hb hby d14_4) t hr) ?_
  rw [len_of Sz2 Ng2]
  refine Rch.st (fun _ hr => XS.aloadN X1.here hx rfl (hb hby d14_5) rfl rfl hr) ?_
  obtain ⟨_, T3, Lc3, X3, hQ3, st3⟩ := own_callV X1 hx hZ (y := Y_7) (z := Y_7) hown (own_w hw 73 rfl) (own_w hw 74 rfl) (notFace_of_selects (args := #[]) (mvT hZ (own_w hw 76 rfl))) (own_w hw 76 rfl) (own_w hw 75 rfl) (own_w hw 2 rfl) (own_w hw 77 rfl) (by decide) (W := 1) (ccoder l Z a0 hw [] a cs h0 n0 zD0 zP0 zP2 hcs) (by decide) (by decide) e1 zP1 (by decide) (by decide) (g := (mkF m 6 #[.val (.ref a)] [(.ref a), (.int z)])) rfl (by rw [hml]; rfl) (argsL := []) (rest := [(.int z)]) (lenOf pd_7 rfl) rfl (own_mr rfl rfl) (hb hby d14_6) rfl
  obtain ⟨rfl, N3q, e3⟩ := hQ3
  have N3 := Fr.app N0 N3q
  refine Rch.st st3 ?_
  refine Rch.st (fun _ hr => XS.ishr X3.here hx rfl (hb hby d14_9) rfl hr) ?_
  obtain ⟨fs, hr, hrun, hended, hW, hsame⟩ := X3.leave (v := some (.int (z >>> ((0 : Int32) &&& 31)))) (fun h => by rw [Bd.returns] at h; cases h)
  refine Rch.fin (u := T3.setFrames fs) (own_retI X3 hx Bd.returns (hb hby d14_10) hr) ⟨_, hrun, hended, _, _, rfl, ?_, ⟨_, rfl⟩, hW, hsame.mono (by decide) (by decide)⟩
  show Q_clen Z a bx kb z vs cs h0 n0 _ T3.heap _
  refine ⟨?_, N3, e3⟩
  · rw [own_shr0]
theorem d19_0 : decode jdk_68_method_9_code 0 = .ok (.aload_n 0, 1) := by decide +kernel
theorem d19_1 : decode jdk_68_method_9_code 1 = .ok (.getfield 15, 3) := by decide +kernel
theorem d19_4 : decode jdk_68_method_9_code 4 = .ok (.arraylength, 1) := by decide +kernel
theorem d19_5 : decode jdk_68_method_9_code 5 = .ok (.aload_n 0, 1) := by decide +kernel
theorem d19_6 : decode jdk_68_method_9_code 6 = .ok (.getfield 22, 3) := by decide +kernel
theorem d19_9 : decode jdk_68_method_9_code 9 = .ok (.ishr, 1) := by decide +kernel
theorem d19_10 : decode jdk_68_method_9_code 10 = .ok (.istore_n 2, 1) := by decide +kernel
theorem d19_11 : decode jdk_68_method_9_code 11 = .ok (.iload_n 1, 1) := by decide +kernel
theorem d19_12 : decode jdk_68_method_9_code 12 = .ok (.iload_n 2, 1) := by decide +kernel
theorem d19_13 : decode jdk_68_method_9_code 13 = .ok (.isub, 1) := by decide +kernel
theorem d19_14 : decode jdk_68_method_9_code 14 = .ok (.ifCond .le 24, 3) := by decide +kernel
theorem d19_38 : decode jdk_68_method_9_code 38 = .ok (.return_, 1) := by decide +kernel
def Q_cens (Z : State) (sb : Addr) (d : Addr) (kd : ClassId) (vd : List Value) (c0 : Int32) (mcap : Int32) (h0 : Heap) (n0 : Nat) (v : Option Value) (h : Heap) (L : List Loc) : Prop := v = none ∧ Fr n0 L ∧ h = h0
theorem pn_java_lang_AbstractStringBuilder : plainName "java/lang/AbstractStringBuilder" = true := by first | (simp [plainName, overriddenIn]; done) | decide +kernel
theorem ef_cens (m : MethodId) (sb : Addr) (d : Addr) (kd : ClassId) (vd : List Value) (c0 : Int32) (mcap : Int32) : entryFrame m #[(.ref sb), (.int mcap)] 3 = mkF m 0 #[.val (.ref sb), .val (.int mcap), .unset] [] := by first | (simp [entryFrame, mkF, argsToLocals, Value.category]; done) | rfl
set_option maxRecDepth 65536 in
set_option maxHeartbeats 40000000 in
theorem cens (l : Launch) (Z : State) (a0 : Array Value) (hw : ∀ d ∈ tables_1, d.before a0 Z = true) (ws : List Jvm.Cond) (sb : Addr) (d : Addr) (kd : ClassId) (vd : List Value) (c0 : Int32) (mcap : Int32) (h0 : Heap) (n0 : Nat) (zP0 : Exa Z h0 sb "java/lang/StringBuilder") (zP1 : Fld Z h0 sb "java/lang/AbstractStringBuilder" "coder" "B" (.int (0 : Int32))) (zP2 : Fld Z h0 sb "java/lang/AbstractStringBuilder" "value" "[B" (.ref d)) (zP3 : Fld Z h0 sb "java/lang/AbstractStringBuilder" "count" "I" (.int c0)) (zP4 : Arv Z h0 d kd .byte (32 : Int32) vd (.int (0 : Int32))) (he : ¬ (0 : Int32) < (mcap - ((32 : Int32) >>> ((0 : Int32) &&& 31)))) :
    MetFree l (⟨"java/lang/AbstractStringBuilder", "ensureCapacityInternal", "(I)V"⟩ : MethodName) (head1 (Jvm.Cond.code (⟨"java/lang/AbstractStringBuilder", "ensureCapacityInternal", "(I)V"⟩ : MethodName) jdk_68_method_9_code 3 none :: ws) ({ frames := 0, cells := 0, slots := 0, locals := 0 } : Room)) (fun aA uU => aA = #[(.ref sb), (.int mcap)] ∧ Z.Warmed39 uU.vm ∧ uU.heap = h0) (fun _ _ _ _ _ => True) (fun _ uU oO uU' => ∃ vV lL, oO = .returned vV ∧ Q_cens Z sb d kd vd c0 mcap h0 n0 vV uU'.heap lL ∧ FrameEnd uU oO uU' lL ({ frames := 0, cells := 0, slots := 0, locals := 0 } : Room).cells ({ frames := 0, cells := 0, slots := 0, locals := 0 } : Room).slots) := by
  refine MetFree.of_bodySF (plainFor_of_name pn_java_lang_AbstractStringBuilder) hisR ?_
  intro p e s m args below meth c s₁ Bd hml0 hP hK
  obtain ⟨rfl, hZ, hh⟩ := hP
  have hx := Bd.exec
  have hby := Bd.bytes
  have hml : c.maxLocals = 3 := hml0
  have hown : s.vm.findClass "java/lang/AbstractStringBuilder" = some m.cls := findClass_of_methodNamed Bd.named
  have hnm := (name_of_methodNamed Bd.named Bd.method).1
  have X0 : Stand p l e ({ frames := 0, cells := 0, slots := 0, locals := 0 } : Room) s m #[(.ref sb), (.int mcap)] below meth c s₁ [] 0 0 := Stand.of_body Bd
  have e0 : s₁.heap = h0 := by rw [← hh, Bd.state]; rfl
  have N0 := Fr.nil n0
  refine Rch.out (Rch.st (fun t k => castTop (ef_cens m sb d kd vd c0 mcap) k) ?_)
  show Rch p.tables e below _ (s₁.setTop (mkF m 0 #[.val (.ref sb), .val (.int mcap), .unset] []))
  refine Rch.st (fun _ hr => XS.aloadN X0.here hx rfl (hb hby d19_0) rfl rfl hr) ?_
  obtain ⟨T1, X1, e1, st1⟩ := getF X0 hx hZ hown (host := "") (Or.inl (own_w hw 82 rfl)) Via.refl e0 zP2 (g := (mkF m 1 #[.val (.ref sb), .val (.int mcap), .unset] [(.ref sb)])) rfl rfl (hb hby d19_1)
  refine Rch.st st1 ?_
  obtain ⟨cl2, Ar2, -, Sz2, Ng2, -, -⟩ := id zP4
  refine Rch.st (fun t hr => X1.arraylength hx (by rw [e1]; exact Ar2.1) (State.isArrayOf_alike hZ.alike Ar2.2.1) (g := (mkF m 4 #[.val (.ref sb), .val (.int mcap), .unset] [(.ref d)])) rfl rfl (hb hby d19_4) t hr) ?_
  rw [len_of Sz2 Ng2]
  refine Rch.st (fun _ hr => XS.aloadN X1.here hx rfl (hb hby d19_5) rfl rfl hr) ?_
  obtain ⟨T3, X3, e3, st3⟩ := getF X1 hx hZ hown (host := "") (Or.inl (own_w hw 80 rfl)) Via.refl e1 zP1 (g := (mkF m 6 #[.val (.ref sb), .val (.int mcap), .unset] [(.ref sb), (.int (32 : Int32))])) rfl rfl (hb hby d19_6)
  refine Rch.st st3 ?_
  refine Rch.st (fun _ hr => XS.ishr X3.here hx rfl (hb hby d19_9) rfl hr) ?_
  refine Rch.st (fun _ hr => XS.istoreN X3.here hx rfl (hb hby d19_10) rfl (l' := #[.val (.ref sb), .val (.int mcap), .val (.int ((32 : Int32) >>> ((0 : Int32) &&& 31)))]) rfl hr) ?_
  refine Rch.st (fun _ hr => XS.iloadN X3.here hx rfl (hb hby d19_11) rfl hr) ?_
  show Rch p.tables e below _ (T3.setTop (mkF m 12 #[.val (.ref sb), .val (.int mcap), .val (.int ((32 : Int32) >>> ((0 : Int32) &&& 31)))] [(.int mcap)]))
  refine Rch.st (fun _ hr => XS.iloadN X3.here hx rfl (hb hby d19_12) rfl hr) ?_
  refine Rch.st (fun _ hr => XS.isub X3.here hx rfl (hb hby d19_13) rfl hr) ?_
  refine Rch.st (fun _ hr => XS.ifYes X3.here hx rfl (pc0 := 14) (pc' := 38) rfl (hb hby d19_14) rfl ((if0 _ _).trans (flt he).2.2.2) (by decide) (by decide) hr) ?_
  obtain ⟨fs, hr, hrun, hended, hW, hsame⟩ := X3.leave (v := none) (fun _ => rfl)
  refine Rch.fin (u := T3.setFrames fs) (X3.returnOut hx Bd.returns (hb hby d19_38) hr) ⟨_, hrun, hended, _, _, rfl, ?_, ⟨_, rfl⟩, hW, hsame.mono (by decide) (by decide)⟩
  show Q_cens Z sb d kd vd c0 mcap h0 n0 _ T3.heap _
  exact ⟨rfl, N0, e3⟩
theorem d21_0 : decode jdk_68_method_71_code 0 = .ok (.getstatic 18, 3) := by decide +kernel
theorem d21_3 : decode jdk_68_method_71_code 3 = .ok (.ifCond .eq 18, 3) := by decide +kernel
theorem d21_6 : decode jdk_68_method_71_code 6 = .ok (.aload_n 0, 1) := by decide +kernel
theorem d21_7 : decode jdk_68_method_71_code 7 = .ok (.getfield 22, 3) := by decide +kernel
theorem d21_10 : decode jdk_68_method_71_code 10 = .ok (.aload_n 1, 1) := by decide +kernel
theorem d21_11 : decode jdk_68_method_71_code 11 = .ok (.invokevirtual 40, 3) := by decide +kernel
theorem d21_14 : decode jdk_68_method_71_code 14 = .ok (.if_icmp .eq 7, 3) := by decide +kernel
theorem d21_21 : decode jdk_68_method_71_code 21 = .ok (.return_, 1) := by decide +kernel
def Q_cinf (Z : State) (sb : Addr) (a : Addr) (cs : Int32) (h0 : Heap) (n0 : Nat) (v : Option Value) (h : Heap) (L : List Loc) : Prop := v = none ∧ Fr n0 L ∧ h = h0
theorem ef_cinf (m : MethodId) (sb : Addr) (a : Addr) (cs : Int32) : entryFrame m #[(.ref sb), (.ref a)] 2 = mkF m 0 #[.val (.ref sb), .val (.ref a)] [] := by first | (simp [entryFrame, mkF, argsToLocals, Value.category]; done) | rfl
set_option maxRecDepth 65536 in
set_option maxHeartbeats 40000000 in
theorem cinf (l : Launch) (Z : State) (a0 : Array Value) (hw : ∀ d ∈ tables_1, d.before a0 Z = true) (ws : List Jvm.Cond) (sb : Addr) (a : Addr) (cs : Int32) (h0 : Heap) (n0 : Nat) (zD0 : Sta Z Z.heap "java/lang/String" "COMPACT_STRINGS" "Z" (.int cs)) (zP0 : Old Z n0 h0) (zP1 : Fld Z h0 sb "java/lang/AbstractStringBuilder" "coder" "B" (.int (0 : Int32))) (zP2 : Exa Z h0 a "java/lang/String") (zP3 : Fld Z h0 a "java/lang/String" "coder" "B" (.int (0 : Int32))) (hcs : ¬ cs = (0 : Int32)) :
    MetFree l (⟨"java/lang/AbstractStringBuilder", "inflateIfNeededFor", "(Ljava/lang/String;)V"⟩ : MethodName) (head1 (Jvm.Cond.code (⟨"java/lang/AbstractStringBuilder", "inflateIfNeededFor", "(Ljava/lang/String;)V"⟩ : MethodName) jdk_68_method_71_code 2 none :: ws) ({ frames := 1, cells := 0, slots := 0, locals := 13 } : Room)) (fun aA uU => aA = #[(.ref sb), (.ref a)] ∧ Z.Warmed39 uU.vm ∧ uU.heap = h0) (fun _ _ _ _ _ => True) (fun _ uU oO uU' => ∃ vV lL, oO = .returned vV ∧ Q_cinf Z sb a cs h0 n0 vV uU'.heap lL ∧ FrameEnd uU oO uU' lL ({ frames := 1, cells := 0, slots := 0, locals := 13 } : Room).cells ({ frames := 1, cells := 0, slots := 0, locals := 13 } : Room).slots) := by
  refine MetFree.of_bodySF (plainFor_of_name pn_java_lang_AbstractStringBuilder) hisR ?_
  intro p e s m args below meth c s₁ Bd hml0 hP hK
  obtain ⟨rfl, hZ, hh⟩ := hP
  have hx := Bd.exec
  have hby := Bd.bytes
  have hml : c.maxLocals = 2 := hml0
  have hown : s.vm.findClass "java/lang/AbstractStringBuilder" = some m.cls := findClass_of_methodNamed Bd.named
  have hnm := (name_of_methodNamed Bd.named Bd.method).1
  have X0 : Stand p l e ({ frames := 1, cells := 0, slots := 0, locals := 13 } : Room) s m #[(.ref sb), (.ref a)] below meth c s₁ [] 0 0 := Stand.of_body Bd
  have e0 : s₁.heap = h0 := by rw [← hh, Bd.state]; rfl
  have N0 := Fr.nil n0
  refine Rch.out (Rch.st (fun t k => castTop (ef_cinf m sb a cs) k) ?_)
  show Rch p.tables e below _ (s₁.setTop (mkF m 0 #[.val (.ref sb), .val (.ref a)] []))
  obtain ⟨T1, X1, e1, st1⟩ := getS2 X0 hx hZ hown (host := "") (Or.inl (own_w hw 115 rfl)) Via.refl e0 (zD0.ext zP0.2) (g := (mkF m 0 #[.val (.ref sb), .val (.ref a)] [])) rfl (hb hby d21_0)
  refine Rch.st st1 ?_
  refine Rch.st (fun _ hr => XS.ifNo X1.here hx rfl (hb hby d21_3) rfl ((if0 _ _).trans (feq hcs).1) hr) ?_
  refine Rch.st (fun _ hr => XS.aloadN X1.here hx rfl (hb hby d21_6) rfl rfl hr) ?_
  obtain ⟨T2, X2, e2, st2⟩ := getF X1 hx hZ hown (host := "") (Or.inl (own_w hw 80 rfl)) Via.refl e1 zP1 (g := (mkF m 7 #[.val (.ref sb), .val (.ref a)] [(.ref sb)])) rfl rfl (hb hby d21_7)
  refine Rch.st st2 ?_
  refine Rch.st (fun _ hr => XS.aloadN X2.here hx rfl (hb hby d21_10) rfl rfl hr) ?_
  obtain ⟨_, T3, Lc3, X3, hQ3, st3⟩ := own_callV X2 hx hZ (y := Y_7) (z := Y_7) hown (own_w hw 79 rfl) (own_w hw 74 rfl) (notFace_of_selects (args := #[]) (mvT hZ (own_w hw 76 rfl))) (own_w hw 76 rfl) (own_w hw 75 rfl) (own_w hw 2 rfl) (own_w hw 77 rfl) (by decide) (W := 1) (ccoder l Z a0 hw [] a cs h0 n0 zD0 zP0 zP3 hcs) (by decide) (by decide) e2 zP2 (by decide) (by decide) (g := (mkF m 11 #[.val (.ref sb), .val (.ref a)] [(.ref a), (.int (0 : Int32))])) rfl (by rw [hml]; rfl) (argsL := []) (rest := [(.int (0 : Int32))]) (lenOf pd_7 rfl) rfl (own_mr rfl rfl) (hb hby d21_11) rfl
  obtain ⟨rfl, N3q, e3⟩ := hQ3
  have N3 := Fr.app N0 N3q
  refine Rch.st st3 ?_
  refine Rch.st (fun _ hr => XS.icmpYes X3.here hx rfl (pc0 := 14) (pc' := 21) rfl (hb hby d21_14) rfl (teq (by decide : (0 : Int32) = (0 : Int32))).1 (by decide) (by decide) hr) ?_
  obtain ⟨fs, hr, hrun, hended, hW, hsame⟩ := X3.leave (v := none) (fun _ => rfl)
  refine Rch.fin (u := T3.setFrames fs) (X3.returnOut hx Bd.returns (hb hby d21_21) hr) ⟨_, hrun, hended, _, _, rfl, ?_, ⟨_, rfl⟩, hW, hsame.mono (by decide) (by decide)⟩
  show Q_cinf Z sb a cs h0 n0 _ T3.heap _
  exact ⟨rfl, N3, e3⟩
theorem d22_0 : decode jdk_42_method_147_code 0 = .ok (.aload_n 0, 1) := by decide +kernel
theorem d22_1 : decode jdk_42_method_147_code 1 = .ok (.invokevirtual 335, 3) := by decide +kernel
theorem d22_4 : decode jdk_42_method_147_code 4 = .ok (.iload_n 3, 1) := by decide +kernel
theorem d22_5 : decode jdk_42_method_147_code 5 = .ok (.if_icmp .ne 23, 3) := by decide +kernel
theorem d22_8 : decode jdk_42_method_147_code 8 = .ok (.aload_n 0, 1) := by decide +kernel
theorem d22_9 : decode jdk_42_method_147_code 9 = .ok (.getfield 9, 3) := by decide +kernel
theorem d22_12 : decode jdk_42_method_147_code 12 = .ok (.iconst 0, 1) := by decide +kernel
theorem d22_13 : decode jdk_42_method_147_code 13 = .ok (.aload_n 1, 1) := by decide +kernel
theorem d22_14 : decode jdk_42_method_147_code 14 = .ok (.iload_n 2, 1) := by decide +kernel
theorem d22_15 : decode jdk_42_method_147_code 15 = .ok (.iload_n 3, 1) := by decide +kernel
theorem d22_16 : decode jdk_42_method_147_code 16 = .ok (.ishl, 1) := by decide +kernel
theorem d22_17 : decode jdk_42_method_147_code 17 = .ok (.aload_n 0, 1) := by decide +kernel
theorem d22_18 : decode jdk_42_method_147_code 18 = .ok (.getfield 9, 3) := by decide +kernel
theorem d22_21 : decode jdk_42_method_147_code 21 = .ok (.arraylength, 1) := by decide +kernel
theorem d22_22 : decode jdk_42_method_147_code 22 = .ok (.invokestatic 212, 3) := by decide +kernel
theorem d22_25 : decode jdk_42_method_147_code 25 = .ok (.goto 18, 3) := by decide +kernel
theorem d22_43 : decode jdk_42_method_147_code 43 = .ok (.return_, 1) := by decide +kernel
def Q_cgetb (Z : State) (a : Addr) (bx : Addr) (kb : ClassId) (z : Int32) (vs : List Value) (d : Addr) (kd : ClassId) (vd : List Value) (c0 : Int32) (cs : Int32) (h0 : Heap) (n0 : Nat) (v : Option Value) (h : Heap) (L : List Loc) : Prop := v = none ∧ Fr n0 L ∧ Keep h0 h [d] ∧ Old Z n0 h ∧ Arv Z h d kd .byte (32 : Int32) (own_cp vs vd (c0).toNatClampNeg (z).toNatClampNeg) (.int (0 : Int32))
theorem ef_cgetb (m : MethodId) (a : Addr) (bx : Addr) (kb : ClassId) (z : Int32) (vs : List Value) (d : Addr) (kd : ClassId) (vd : List Value) (c0 : Int32) (cs : Int32) : entryFrame m #[(.ref a), (.ref d), (.int c0), (.int (0 : Int32))] 4 = mkF m 0 #[.val (.ref a), .val (.ref d), .val (.int c0), .val (.int (0 : Int32))] [] := by first | (simp [entryFrame, mkF, argsToLocals, Value.category]; done) | rfl
set_option maxRecDepth 65536 in
set_option maxHeartbeats 40000000 in
theorem cgetb (l : Launch) (Z : State) (a0 : Array Value) (hw : ∀ d ∈ tables_1, d.before a0 Z = true) (ws : List Jvm.Cond) (a : Addr) (bx : Addr) (kb : ClassId) (z : Int32) (vs : List Value) (d : Addr) (kd : ClassId) (vd : List Value) (c0 : Int32) (cs : Int32) (h0 : Heap) (n0 : Nat) (zD0 : Sta Z Z.heap "java/lang/String" "COMPACT_STRINGS" "Z" (.int cs)) (zP0 : Old Z n0 h0) (zP1 : Exa Z h0 a "java/lang/String") (zP2 : Fld Z h0 a "java/lang/String" "coder" "B" (.int (0 : Int32))) (zP3 : Fld Z h0 a "java/lang/String" "value" "[B" (.ref bx)) (zP4 : Arv Z h0 bx kb .byte z vs (.int (0 : Int32))) (zP5 : Arv Z h0 d kd .byte (32 : Int32) vd (.int (0 : Int32))) (zP6 : n0 ≤ d) (hcs : ¬ cs = (0 : Int32)) (hcz : ¬ c0 < (0 : Int32)) (hz0 : ¬ z < (0 : Int32)) (hft : c0.toNatClampNeg + z.toNatClampNeg ≤ 32) (hln : vd.length = 32) :
    MetFree l (⟨"java/lang/String", "getBytes", "([BIB)V"⟩ : MethodName) (head1 (Jvm.Cond.code (⟨"java/lang/String", "getBytes", "([BIB)V"⟩ : MethodName) jdk_42_method_147_code 4 none :: ws) ({ frames := 1, cells := 0, slots := 0, locals := 40 } : Room)) (fun aA uU => aA = #[(.ref a), (.ref d), (.int c0), (.int (0 : Int32))] ∧ Z.Warmed39 uU.vm ∧ uU.heap = h0) (fun _ _ _ _ _ => True) (fun _ uU oO uU' => ∃ vV lL, oO = .returned vV ∧ Q_cgetb Z a bx kb z vs d kd vd c0 cs h0 n0 vV uU'.heap lL ∧ FrameEnd uU oO uU' lL ({ frames := 1, cells := 0, slots := 0, locals := 40 } : Room).cells ({ frames := 1, cells := 0, slots := 0, locals := 40 } : Room).slots) := by
  refine MetFree.of_bodySF (plainFor_of_name pn_java_lang_String) hisR ?_
  intro p e s m args below meth c s₁ Bd hml0 hP hK
  obtain ⟨rfl, hZ, hh⟩ := hP
  have hx := Bd.exec
  have hby := Bd.bytes
  have hml : c.maxLocals = 4 := hml0
  have hown : s.vm.findClass "java/lang/String" = some m.cls := findClass_of_methodNamed Bd.named
  have hnm := (name_of_methodNamed Bd.named Bd.method).1
  have X0 : Stand p l e ({ frames := 1, cells := 0, slots := 0, locals := 40 } : Room) s m #[(.ref a), (.ref d), (.int c0), (.int (0 : Int32))] below meth c s₁ [] 0 0 := Stand.of_body Bd
  have e0 : s₁.heap = h0 := by rw [← hh, Bd.state]; rfl
  have N0 := Fr.nil n0
  refine Rch.out (Rch.st (fun t k => castTop (ef_cgetb m a bx kb z vs d kd vd c0 cs) k) ?_)
  show Rch p.tables e below _ (s₁.setTop (mkF m 0 #[.val (.ref a), .val (.ref d), .val (.int c0), .val (.int (0 : Int32))] []))
  refine Rch.st (fun _ hr => XS.aloadN X0.here hx rfl (hb hby d22_0) rfl rfl hr) ?_
  obtain ⟨_, T1, Lc1, X1, hQ1, st1⟩ := own_callV X0 hx hZ (y := Y_7) (z := Y_7) hown (own_w hw 73 rfl) (own_w hw 74 rfl) (notFace_of_selects (args := #[]) (mvT hZ (own_w hw 76 rfl))) (own_w hw 76 rfl) (own_w hw 75 rfl) (own_w hw 2 rfl) (own_w hw 77 rfl) (by decide) (W := 0) (ccoder l Z a0 hw [] a cs h0 n0 zD0 zP0 zP2 hcs) (by decide) (by decide) e0 zP1 (by decide) (by decide) (g := (mkF m 1 #[.val (.ref a), .val (.ref d), .val (.int c0), .val (.int (0 : Int32))] [(.ref a)])) rfl (by rw [hml]; rfl) (argsL := []) (rest := []) (lenOf pd_7 rfl) rfl (own_mr rfl rfl) (hb hby d22_1) rfl
  obtain ⟨rfl, N1q, e1⟩ := hQ1
  have N1 := Fr.app N0 N1q
  refine Rch.st st1 ?_
  refine Rch.st (fun _ hr => XS.iloadN X1.here hx rfl (hb hby d22_4) rfl hr) ?_
  refine Rch.st (fun _ hr => XS.icmpNo X1.here hx rfl (hb hby d22_5) rfl (teq (by decide : (0 : Int32) = (0 : Int32))).2 hr) ?_
  refine Rch.st (fun _ hr => XS.aloadN X1.here hx rfl (hb hby d22_8) rfl rfl hr) ?_
  obtain ⟨T2, X2, e2, st2⟩ := getF X1 hx hZ hown (host := "") (Or.inl (own_w hw 20 rfl)) Via.refl e1 zP3 (g := (mkF m 9 #[.val (.ref a), .val (.ref d), .val (.int c0), .val (.int (0 : Int32))] [(.ref a)])) rfl rfl (hb hby d22_9)
  refine Rch.st st2 ?_
  refine Rch.st (fun _ hr => XS.iconst X2.here hx rfl (hb hby d22_12) hr) ?_
  refine Rch.st (fun _ hr => XS.aloadN X2.here hx rfl (hb hby d22_13) rfl rfl hr) ?_
  show Rch p.tables e below _ (T2.setTop (mkF m 14 #[.val (.ref a), .val (.ref d), .val (.int c0), .val (.int (0 : Int32))] [(.ref d), (.int (0 : Int32)), (.ref bx)]))
  refine Rch.st (fun _ hr => XS.iloadN X2.here hx rfl (hb hby d22_14) rfl hr) ?_
  refine Rch.st (fun _ hr => XS.iloadN X2.here hx rfl (hb hby d22_15) rfl hr) ?_
  refine Rch.st (fun _ hr => XS.ishl X2.here hx rfl (hb hby d22_16) rfl hr) ?_
  show Rch p.tables e below _ (T2.setTop (mkF m 17 #[.val (.ref a), .val (.ref d), .val (.int c0), .val (.int (0 : Int32))] [(.int (c0 <<< ((0 : Int32) &&& 31))), (.ref d), (.int (0 : Int32)), (.ref bx)]))
  rw [own_shl0]
  show Rch p.tables e below _ (T2.setTop (mkF m 17 #[.val (.ref a), .val (.ref d), .val (.int c0), .val (.int (0 : Int32))] [(.int c0), (.ref d), (.int (0 : Int32)), (.ref bx)]))
  refine Rch.st (fun _ hr => XS.aloadN X2.here hx rfl (hb hby d22_17) rfl rfl hr) ?_
  obtain ⟨T3, X3, e3, st3⟩ := getF X2 hx hZ hown (host := "") (Or.inl (own_w hw 20 rfl)) Via.refl e2 zP3 (g := (mkF m 18 #[.val (.ref a), .val (.ref d), .val (.int c0), .val (.int (0 : Int32))] [(.ref a), (.int c0), (.ref d), (.int (0 : Int32)), (.ref bx)])) rfl rfl (hb hby d22_18)
  refine Rch.st st3 ?_
  obtain ⟨cl4, Ar4, -, Sz4, Ng4, -, -⟩ := id zP4
  refine Rch.st (fun t hr => X3.arraylength hx (by rw [e3]; exact Ar4.1) (State.isArrayOf_alike hZ.alike Ar4.2.1) (g := (mkF m 21 #[.val (.ref a), .val (.ref d), .val (.int c0), .val (.int (0 : Int32))] [(.ref bx), (.int c0), (.ref d), (.int (0 : Int32)), (.ref bx)])) rfl rfl (hb hby d22_21) t hr) ?_
  rw [len_of Sz4 Ng4]
  obtain ⟨T5, h5, Lq5, X5, e5, N5, Kq5, Vq5, st5⟩ := cpA X3 hx hZ hown (own_w hw 121 rfl) (own_w hw 124 rfl) (own_w hw 122 rfl) (own_w hw 123 rfl) e3 zP4 zP5 (Or.inl ⟨rfl, rfl⟩) (by decide) hcz hz0 (by rw [show (0 : Int32).toNatClampNeg = 0 from rfl, Nat.zero_add]; exact Nat.le_refl _) (by rw [show (32 : Int32).toNatClampNeg = 32 from rfl]; exact hft) rfl (by rw [hln]; exact hft) N1 zP6 (g := (mkF m 22 #[.val (.ref a), .val (.ref d), .val (.int c0), .val (.int (0 : Int32))] [(.int z), (.int c0), (.ref d), (.int (0 : Int32)), (.ref bx)])) rfl (by rw [hml]; rfl) (rest := []) rfl (hb hby d22_22) (by decide) (W := 0) (own_mr rfl rfl) (by decide)
  refine Rch.st st5 ?_
  have ne6 := (Exa.neArv zP1 zP5 (own_w hw 1 rfl))
  have K7 := (Keep.refl h0 [d]).trans Kq5 (allS (Or.inl (List.mem_of_getElem? (i := 0) rfl)) all0)
  have Vc5 : Arv Z h5 d kd .byte (32 : Int32) (own_cp vs vd (c0).toNatClampNeg (z).toNatClampNeg) (.int (0 : Int32)) := Vq5
  refine Rch.st (fun _ hr => XS.goto X5.here hx rfl (pc0 := 25) (pc' := 43) rfl (hb hby d22_25) (by decide) (by decide) hr) ?_
  obtain ⟨fs, hr, hrun, hended, hW, hsame⟩ := X5.leave (v := none) (fun _ => rfl)
  have f8 := (zP0.keep Kq5 (allS zP6 all0))
  refine Rch.fin (u := T5.setFrames fs) (X5.returnOut hx Bd.returns (hb hby d22_43) hr) ⟨_, hrun, hended, _, _, rfl, ?_, ⟨_, rfl⟩, hW, hsame.mono (by decide) (by decide)⟩
  show Q_cgetb Z a bx kb z vs d kd vd c0 cs h0 n0 _ T5.heap _
  rw [e5]
  exact ⟨rfl, N5, K7, f8, Vc5⟩
theorem d20_0 : decode jdk_68_method_73_code 0 = .ok (.aload_n 0, 1) := by decide +kernel
theorem d20_1 : decode jdk_68_method_73_code 1 = .ok (.aload_n 2, 1) := by decide +kernel
theorem d20_2 : decode jdk_68_method_73_code 2 = .ok (.invokevirtual 397, 3) := by decide +kernel
theorem pd_8 : parseMethodDescriptor "(Ljava/lang/String;)V" = some ⟨[(.object "java/lang/String")], none⟩ := by decide +kernel
abbrev Y_8 : MethodName := ⟨"java/lang/AbstractStringBuilder", "inflateIfNeededFor", "(Ljava/lang/String;)V"⟩
theorem d20_5 : decode jdk_68_method_73_code 5 = .ok (.aload_n 2, 1) := by decide +kernel
theorem d20_6 : decode jdk_68_method_73_code 6 = .ok (.aload_n 0, 1) := by decide +kernel
theorem d20_7 : decode jdk_68_method_73_code 7 = .ok (.getfield 15, 3) := by decide +kernel
theorem d20_10 : decode jdk_68_method_73_code 10 = .ok (.iload_n 1, 1) := by decide +kernel
theorem d20_11 : decode jdk_68_method_73_code 11 = .ok (.aload_n 0, 1) := by decide +kernel
theorem d20_12 : decode jdk_68_method_73_code 12 = .ok (.getfield 22, 3) := by decide +kernel
theorem d20_15 : decode jdk_68_method_73_code 15 = .ok (.invokevirtual 399, 3) := by decide +kernel
theorem pd_9 : parseMethodDescriptor "([BIB)V" = some ⟨[(.array .byte), .int, .byte], none⟩ := by decide +kernel
abbrev Y_9 : MethodName := ⟨"java/lang/String", "getBytes", "([BIB)V"⟩
theorem d20_18 : decode jdk_68_method_73_code 18 = .ok (.return_, 1) := by decide +kernel
def Q_cput (Z : State) (sb : Addr) (d : Addr) (kd : ClassId) (vd : List Value) (c0 : Int32) (a : Addr) (bx : Addr) (kb : ClassId) (z : Int32) (vs : List Value) (cs : Int32) (h0 : Heap) (n0 : Nat) (v : Option Value) (h : Heap) (L : List Loc) : Prop := v = none ∧ Fr n0 L ∧ Keep h0 h [d] ∧ Old Z n0 h ∧ Arv Z h d kd .byte (32 : Int32) (own_cp vs vd (c0).toNatClampNeg (z).toNatClampNeg) (.int (0 : Int32))
theorem ef_cput (m : MethodId) (sb : Addr) (d : Addr) (kd : ClassId) (vd : List Value) (c0 : Int32) (a : Addr) (bx : Addr) (kb : ClassId) (z : Int32) (vs : List Value) (cs : Int32) : entryFrame m #[(.ref sb), (.int c0), (.ref a)] 3 = mkF m 0 #[.val (.ref sb), .val (.int c0), .val (.ref a)] [] := by first | (simp [entryFrame, mkF, argsToLocals, Value.category]; done) | rfl
set_option maxRecDepth 65536 in
set_option maxHeartbeats 40000000 in
theorem cput (l : Launch) (Z : State) (a0 : Array Value) (hw : ∀ d ∈ tables_1, d.before a0 Z = true) (ws : List Jvm.Cond) (sb : Addr) (d : Addr) (kd : ClassId) (vd : List Value) (c0 : Int32) (a : Addr) (bx : Addr) (kb : ClassId) (z : Int32) (vs : List Value) (cs : Int32) (h0 : Heap) (n0 : Nat) (zD0 : Sta Z Z.heap "java/lang/String" "COMPACT_STRINGS" "Z" (.int cs)) (zP0 : Old Z n0 h0) (zP1 : Exa Z h0 sb "java/lang/StringBuilder") (zP2 : Fld Z h0 sb "java/lang/AbstractStringBuilder" "coder" "B" (.int (0 : Int32))) (zP3 : Fld Z h0 sb "java/lang/AbstractStringBuilder" "value" "[B" (.ref d)) (zP4 : Fld Z h0 sb "java/lang/AbstractStringBuilder" "count" "I" (.int c0)) (zP5 : Arv Z h0 d kd .byte (32 : Int32) vd (.int (0 : Int32))) (zP6 : Exa Z h0 a "java/lang/String") (zP7 : Fld Z h0 a "java/lang/String" "coder" "B" (.int (0 : Int32))) (zP8 : Fld Z h0 a "java/lang/String" "value" "[B" (.ref bx)) (zP9 : Arv Z h0 bx kb .byte z vs (.int (0 : Int32))) (zP10 : n0 ≤ d) (hcs : ¬ cs = (0 : Int32)) (hcz : ¬ c0 < (0 : Int32)) (hz0 : ¬ z < (0 : Int32)) (hft : c0.toNatClampNeg + z.toNatClampNeg ≤ 32) (hln : vd.length = 32) :
    MetFree l (⟨"java/lang/AbstractStringBuilder", "putStringAt", "(ILjava/lang/String;)V"⟩ : MethodName) (head1 (Jvm.Cond.code (⟨"java/lang/AbstractStringBuilder", "putStringAt", "(ILjava/lang/String;)V"⟩ : MethodName) jdk_68_method_73_code 3 none :: ws) ({ frames := 2, cells := 0, slots := 0, locals := 55 } : Room)) (fun aA uU => aA = #[(.ref sb), (.int c0), (.ref a)] ∧ Z.Warmed39 uU.vm ∧ uU.heap = h0) (fun _ _ _ _ _ => True) (fun _ uU oO uU' => ∃ vV lL, oO = .returned vV ∧ Q_cput Z sb d kd vd c0 a bx kb z vs cs h0 n0 vV uU'.heap lL ∧ FrameEnd uU oO uU' lL ({ frames := 2, cells := 0, slots := 0, locals := 55 } : Room).cells ({ frames := 2, cells := 0, slots := 0, locals := 55 } : Room).slots) := by
  refine MetFree.of_bodySF (plainFor_of_name pn_java_lang_AbstractStringBuilder) hisR ?_
  intro p e s m args below meth c s₁ Bd hml0 hP hK
  obtain ⟨rfl, hZ, hh⟩ := hP
  have hx := Bd.exec
  have hby := Bd.bytes
  have hml : c.maxLocals = 3 := hml0
  have hown : s.vm.findClass "java/lang/AbstractStringBuilder" = some m.cls := findClass_of_methodNamed Bd.named
  have hnm := (name_of_methodNamed Bd.named Bd.method).1
  have X0 : Stand p l e ({ frames := 2, cells := 0, slots := 0, locals := 55 } : Room) s m #[(.ref sb), (.int c0), (.ref a)] below meth c s₁ [] 0 0 := Stand.of_body Bd
  have e0 : s₁.heap = h0 := by rw [← hh, Bd.state]; rfl
  have N0 := Fr.nil n0
  refine Rch.out (Rch.st (fun t k => castTop (ef_cput m sb d kd vd c0 a bx kb z vs cs) k) ?_)
  show Rch p.tables e below _ (s₁.setTop (mkF m 0 #[.val (.ref sb), .val (.int c0), .val (.ref a)] []))
  refine Rch.st (fun _ hr => XS.aloadN X0.here hx rfl (hb hby d20_0) rfl rfl hr) ?_
  refine Rch.st (fun _ hr => XS.aloadN X0.here hx rfl (hb hby d20_1) rfl rfl hr) ?_
  obtain ⟨_, T1, Lc1, X1, hQ1, st1⟩ := own_callV X0 hx hZ (y := Y_8) (z := Y_8) hown (own_w hw 110 rfl) (own_decl (own_w hw 111 rfl) (own_w hw 114 rfl)) (notFace_of_selects (args := #[]) (mvT hZ (own_w hw 113 rfl))) (own_w hw 113 rfl) (own_w hw 111 rfl) (own_w hw 65 rfl) (own_w hw 114 rfl) (by decide) (W := 0) (cinf l Z a0 hw [] sb a cs h0 n0 zD0 zP0 zP2 zP6 zP7 hcs) (by decide) (by decide) e0 zP1 (by decide) (by decide) (g := (mkF m 2 #[.val (.ref sb), .val (.int c0), .val (.ref a)] [(.ref a), (.ref sb)])) rfl (by rw [hml]; rfl) (argsL := [(.ref a)]) (rest := []) (lenOf pd_8 rfl) rfl (own_mr rfl rfl) (hb hby d20_2) rfl
  obtain ⟨rfl, N1q, e1⟩ := hQ1
  have N1 := Fr.app N0 N1q
  refine Rch.st st1 ?_
  refine Rch.st (fun _ hr => XS.aloadN X1.here hx rfl (hb hby d20_5) rfl rfl hr) ?_
  refine Rch.st (fun _ hr => XS.aloadN X1.here hx rfl (hb hby d20_6) rfl rfl hr) ?_
  obtain ⟨T2, X2, e2, st2⟩ := getF X1 hx hZ hown (host := "") (Or.inl (own_w hw 82 rfl)) Via.refl e1 zP3 (g := (mkF m 7 #[.val (.ref sb), .val (.int c0), .val (.ref a)] [(.ref sb), (.ref a)])) rfl rfl (hb hby d20_7)
  refine Rch.st st2 ?_
  refine Rch.st (fun _ hr => XS.iloadN X2.here hx rfl (hb hby d20_10) rfl hr) ?_
  refine Rch.st (fun _ hr => XS.aloadN X2.here hx rfl (hb hby d20_11) rfl rfl hr) ?_
  show Rch p.tables e below _ (T2.setTop (mkF m 12 #[.val (.ref sb), .val (.int c0), .val (.ref a)] [(.ref sb), (.int c0), (.ref d), (.ref a)]))
  obtain ⟨T3, X3, e3, st3⟩ := getF X2 hx hZ hown (host := "") (Or.inl (own_w hw 80 rfl)) Via.refl e2 zP2 (g := (mkF m 12 #[.val (.ref sb), .val (.int c0), .val (.ref a)] [(.ref sb), (.int c0), (.ref d), (.ref a)])) rfl rfl (hb hby d20_12)
  refine Rch.st st3 ?_
  obtain ⟨_, T4, Lc4, X4, hQ4, st4⟩ := own_callV X3 hx hZ (y := Y_9) (z := Y_9) hown (own_w hw 116 rfl) (own_w hw 117 rfl) (notFace_of_selects (args := #[]) (mvT hZ (own_w hw 119 rfl))) (own_w hw 119 rfl) (own_w hw 118 rfl) (own_w hw 2 rfl) (own_w hw 120 rfl) (by decide) (W := 0) (cgetb l Z a0 hw [] a bx kb z vs d kd vd c0 cs h0 n0 zD0 zP0 zP6 zP7 zP8 zP9 zP5 zP10 hcs hcz hz0 hft hln) (by decide) (by decide) e3 zP6 (by decide) (by decide) (g := (mkF m 15 #[.val (.ref sb), .val (.int c0), .val (.ref a)] [(.int (0 : Int32)), (.int c0), (.ref d), (.ref a)])) rfl (by rw [hml]; rfl) (argsL := [(.ref d), (.int c0), (.int (0 : Int32))]) (rest := []) (lenOf pd_9 rfl) rfl (own_mr rfl rfl) (hb hby d20_15) rfl
  obtain ⟨rfl, N4q, Kp4, Op4, R4_0⟩ := hQ4
  have N4 := Fr.app N1 N4q
  refine Rch.st st4 ?_
  have ne5 := (Exa.neArv zP1 zP5 (own_w hw 55 rfl))
  have ne6 := (Exa.neArv zP6 zP5 (own_w hw 1 rfl))
  have K7 := (Keep.refl h0 [d]).trans Kp4 (allS (Or.inl (List.mem_of_getElem? (i := 0) rfl)) all0)
  obtain ⟨fs, hr, hrun, hended, hW, hsame⟩ := X4.leave (v := none) (fun _ => rfl)
  refine Rch.fin (u := T4.setFrames fs) (X4.returnOut hx Bd.returns (hb hby d20_18) hr) ⟨_, hrun, hended, _, _, rfl, ?_, ⟨_, rfl⟩, hW, hsame.mono (by decide) (by decide)⟩
  show Q_cput Z sb d kd vd c0 a bx kb z vs cs h0 n0 _ T4.heap _
  exact ⟨rfl, N4, K7, Op4, R4_0⟩
theorem d18_0 : decode jdk_68_method_22_code 0 = .ok (.aload_n 1, 1) := by decide +kernel
theorem d18_1 : decode jdk_68_method_22_code 1 = .ok (.ifnonnull 8, 3) := by decide +kernel
theorem d18_9 : decode jdk_68_method_22_code 9 = .ok (.aload_n 1, 1) := by decide +kernel
theorem d18_10 : decode jdk_68_method_22_code 10 = .ok (.invokevirtual 32, 3) := by decide +kernel
theorem pd_10 : parseMethodDescriptor "()I" = some ⟨[], some .int⟩ := by decide +kernel
abbrev Y_10 : MethodName := ⟨"java/lang/String", "length", "()I"⟩
theorem d18_13 : decode jdk_68_method_22_code 13 = .ok (.istore_n 2, 1) := by decide +kernel
theorem d18_14 : decode jdk_68_method_22_code 14 = .ok (.aload_n 0, 1) := by decide +kernel
theorem d18_15 : decode jdk_68_method_22_code 15 = .ok (.aload_n 0, 1) := by decide +kernel
theorem d18_16 : decode jdk_68_method_22_code 16 = .ok (.getfield 79, 3) := by decide +kernel
theorem d18_19 : decode jdk_68_method_22_code 19 = .ok (.iload_n 2, 1) := by decide +kernel
theorem d18_20 : decode jdk_68_method_22_code 20 = .ok (.iadd, 1) := by decide +kernel
theorem d18_21 : decode jdk_68_method_22_code 21 = .ok (.invokevirtual 100, 3) := by decide +kernel
theorem pd_11 : parseMethodDescriptor "(I)V" = some ⟨[.int], none⟩ := by decide +kernel
abbrev Y_11 : MethodName := ⟨"java/lang/AbstractStringBuilder", "ensureCapacityInternal", "(I)V"⟩
theorem d18_24 : decode jdk_68_method_22_code 24 = .ok (.aload_n 0, 1) := by decide +kernel
theorem d18_25 : decode jdk_68_method_22_code 25 = .ok (.aload_n 0, 1) := by decide +kernel
theorem d18_26 : decode jdk_68_method_22_code 26 = .ok (.getfield 79, 3) := by decide +kernel
theorem d18_29 : decode jdk_68_method_22_code 29 = .ok (.aload_n 1, 1) := by decide +kernel
theorem d18_30 : decode jdk_68_method_22_code 30 = .ok (.invokevirtual 208, 3) := by decide +kernel
theorem pd_12 : parseMethodDescriptor "(ILjava/lang/String;)V" = some ⟨[.int, (.object "java/lang/String")], none⟩ := by decide +kernel
abbrev Y_12 : MethodName := ⟨"java/lang/AbstractStringBuilder", "putStringAt", "(ILjava/lang/String;)V"⟩
theorem d18_33 : decode jdk_68_method_22_code 33 = .ok (.aload_n 0, 1) := by decide +kernel
theorem d18_34 : decode jdk_68_method_22_code 34 = .ok (.dup, 1) := by decide +kernel
theorem d18_35 : decode jdk_68_method_22_code 35 = .ok (.getfield 79, 3) := by decide +kernel
theorem d18_38 : decode jdk_68_method_22_code 38 = .ok (.iload_n 2, 1) := by decide +kernel
theorem d18_39 : decode jdk_68_method_22_code 39 = .ok (.iadd, 1) := by decide +kernel
theorem d18_40 : decode jdk_68_method_22_code 40 = .ok (.putfield 79, 3) := by decide +kernel
theorem d18_43 : decode jdk_68_method_22_code 43 = .ok (.aload_n 0, 1) := by decide +kernel
theorem d18_44 : decode jdk_68_method_22_code 44 = .ok (.areturn, 1) := by decide +kernel
def Q_cappA (Z : State) (sb : Addr) (d : Addr) (kd : ClassId) (vd : List Value) (c0 : Int32) (a : Addr) (bx : Addr) (kb : ClassId) (z : Int32) (vs : List Value) (cs : Int32) (h0 : Heap) (n0 : Nat) (v : Option Value) (h : Heap) (L : List Loc) : Prop := v = some (.ref sb) ∧ Fr n0 L ∧ Keep h0 h [sb, d] ∧ Old Z n0 h ∧ Exa Z h sb "java/lang/StringBuilder" ∧ Fld Z h sb "java/lang/AbstractStringBuilder" "coder" "B" (.int (0 : Int32)) ∧ Fld Z h sb "java/lang/AbstractStringBuilder" "value" "[B" (.ref d) ∧ Fld Z h sb "java/lang/AbstractStringBuilder" "count" "I" (.int (c0 + z)) ∧ Arv Z h d kd .byte (32 : Int32) (own_cp vs vd (c0).toNatClampNeg (z).toNatClampNeg) (.int (0 : Int32))
theorem ef_cappA (m : MethodId) (sb : Addr) (d : Addr) (kd : ClassId) (vd : List Value) (c0 : Int32) (a : Addr) (bx : Addr) (kb : ClassId) (z : Int32) (vs : List Value) (cs : Int32) : entryFrame m #[(.ref sb), (.ref a)] 3 = mkF m 0 #[.val (.ref sb), .val (.ref a), .unset] [] := by first | (simp [entryFrame, mkF, argsToLocals, Value.category]; done) | rfl
set_option maxRecDepth 65536 in
set_option maxHeartbeats 40000000 in
theorem cappA (l : Launch) (Z : State) (a0 : Array Value) (hw : ∀ d ∈ tables_1, d.before a0 Z = true) (ws : List Jvm.Cond) (sb : Addr) (d : Addr) (kd : ClassId) (vd : List Value) (c0 : Int32) (a : Addr) (bx : Addr) (kb : ClassId) (z : Int32) (vs : List Value) (cs : Int32) (h0 : Heap) (n0 : Nat) (zD0 : Sta Z Z.heap "java/lang/String" "COMPACT_STRINGS" "Z" (.int cs)) (zP0 : Old Z n0 h0) (zP1 : Exa Z h0 sb "java/lang/StringBuilder") (zP2 : Fld Z h0 sb "java/lang/AbstractStringBuilder" "coder" "B" (.int (0 : Int32))) (zP3 : Fld Z h0 sb "java/lang/AbstractStringBuilder" "value" "[B" (.ref d)) (zP4 : Fld Z h0 sb "java/lang/AbstractStringBuilder" "count" "I" (.int c0)) (zP5 : Arv Z h0 d kd .byte (32 : Int32) vd (.int (0 : Int32))) (zP6 : Exa Z h0 a "java/lang/String") (zP7 : Fld Z h0 a "java/lang/String" "coder" "B" (.int (0 : Int32))) (zP8 : Fld Z h0 a "java/lang/String" "value" "[B" (.ref bx)) (zP9 : Arv Z h0 bx kb .byte z vs (.int (0 : Int32))) (zP10 : n0 ≤ sb) (zP11 : n0 ≤ d) (hcs : ¬ cs = (0 : Int32)) (hcz : ¬ c0 < (0 : Int32)) (hz0 : ¬ z < (0 : Int32)) (hft : c0.toNatClampNeg + z.toNatClampNeg ≤ 32) (hln : vd.length = 32) (he : ¬ (0 : Int32) < ((c0 + z) - ((32 : Int32) >>> ((0 : Int32) &&& 31)))) :
    MetFree l (⟨"java/lang/AbstractStringBuilder", "append", "(Ljava/lang/String;)Ljava/lang/AbstractStringBuilder;"⟩ : MethodName) (head1 (Jvm.Cond.code (⟨"java/lang/AbstractStringBuilder", "append", "(Ljava/lang/String;)Ljava/lang/AbstractStringBuilder;"⟩ : MethodName) jdk_68_method_22_code 3 (some (.object "java/lang/AbstractStringBuilder")) :: ws) ({ frames := 3, cells := 0, slots := 0, locals := 69 } : Room)) (fun aA uU => aA = #[(.ref sb), (.ref a)] ∧ Z.Warmed39 uU.vm ∧ uU.heap = h0) (fun _ _ _ _ _ => True) (fun _ uU oO uU' => ∃ vV lL, oO = .returned vV ∧ Q_cappA Z sb d kd vd c0 a bx kb z vs cs h0 n0 vV uU'.heap lL ∧ FrameEnd uU oO uU' lL ({ frames := 3, cells := 0, slots := 0, locals := 69 } : Room).cells ({ frames := 3, cells := 0, slots := 0, locals := 69 } : Room).slots) := by
  refine MetFree.of_bodySF (plainFor_of_name pn_java_lang_AbstractStringBuilder) hisR ?_
  intro p e s m args below meth c s₁ Bd hml0 hP hK
  obtain ⟨rfl, hZ, hh⟩ := hP
  have hx := Bd.exec
  have hby := Bd.bytes
  have hml : c.maxLocals = 3 := hml0
  have hown : s.vm.findClass "java/lang/AbstractStringBuilder" = some m.cls := findClass_of_methodNamed Bd.named
  have hnm := (name_of_methodNamed Bd.named Bd.method).1
  have X0 : Stand p l e ({ frames := 3, cells := 0, slots := 0, locals := 69 } : Room) s m #[(.ref sb), (.ref a)] below meth c s₁ [] 0 0 := Stand.of_body Bd
  have e0 : s₁.heap = h0 := by rw [← hh, Bd.state]; rfl
  have N0 := Fr.nil n0
  refine Rch.out (Rch.st (fun t k => castTop (ef_cappA m sb d kd vd c0 a bx kb z vs cs) k) ?_)
  show Rch p.tables e below _ (s₁.setTop (mkF m 0 #[.val (.ref sb), .val (.ref a), .unset] []))
  refine Rch.st (fun _ hr => XS.aloadN X0.here hx rfl (hb hby d18_0) rfl rfl hr) ?_
  refine Rch.st (fun _ hr => XS.ifnonnullYes X0.here hx rfl (pc0 := 1) (pc' := 9) rfl (hb hby d18_1) rfl (by decide) (by decide) hr) ?_
  refine Rch.st (fun _ hr => XS.aloadN X0.here hx rfl (hb hby d18_9) rfl rfl hr) ?_
  obtain ⟨_, T1, Lc1, X1, hQ1, st1⟩ := own_callV X0 hx hZ (y := Y_10) (z := Y_10) hown (own_w hw 68 rfl) (own_w hw 69 rfl) (notFace_of_selects (args := #[]) (mvT hZ (own_w hw 71 rfl))) (own_w hw 71 rfl) (own_w hw 70 rfl) (own_w hw 2 rfl) (own_w hw 72 rfl) (by decide) (W := 0) (clen l Z a0 hw [] a bx kb z vs cs h0 n0 zD0 zP0 zP6 zP7 zP8 zP9 hcs) (by decide) (by decide) e0 zP6 (by decide) (by decide) (g := (mkF m 10 #[.val (.ref sb), .val (.ref a), .unset] [(.ref a)])) rfl (by rw [hml]; rfl) (argsL := []) (rest := []) (lenOf pd_10 rfl) rfl (own_mr rfl rfl) (hb hby d18_10) rfl
  obtain ⟨rfl, N1q, e1⟩ := hQ1
  have N1 := Fr.app N0 N1q
  refine Rch.st st1 ?_
  refine Rch.st (fun _ hr => XS.istoreN X1.here hx rfl (hb hby d18_13) rfl (l' := #[.val (.ref sb), .val (.ref a), .val (.int z)]) rfl hr) ?_
  refine Rch.st (fun _ hr => XS.aloadN X1.here hx rfl (hb hby d18_14) rfl rfl hr) ?_
  refine Rch.st (fun _ hr => XS.aloadN X1.here hx rfl (hb hby d18_15) rfl rfl hr) ?_
  obtain ⟨T2, X2, e2, st2⟩ := getF X1 hx hZ hown (host := "") (Or.inl (own_w hw 98 rfl)) Via.refl e1 zP4 (g := (mkF m 16 #[.val (.ref sb), .val (.ref a), .val (.int z)] [(.ref sb), (.ref sb)])) rfl rfl (hb hby d18_16)
  refine Rch.st st2 ?_
  show Rch p.tables e below _ (T2.setTop (mkF m 19 #[.val (.ref sb), .val (.ref a), .val (.int z)] [(.int c0), (.ref sb)]))
  refine Rch.st (fun _ hr => XS.iloadN X2.here hx rfl (hb hby d18_19) rfl hr) ?_
  refine Rch.st (fun _ hr => XS.iadd X2.here hx rfl (hb hby d18_20) rfl hr) ?_
  obtain ⟨_, T3, Lc3, X3, hQ3, st3⟩ := own_callV X2 hx hZ (y := Y_11) (z := Y_11) hown (own_w hw 100 rfl) (own_decl (own_w hw 101 rfl) (own_w hw 104 rfl)) (notFace_of_selects (args := #[]) (mvT hZ (own_w hw 103 rfl))) (own_w hw 103 rfl) (own_w hw 101 rfl) (own_w hw 65 rfl) (own_w hw 104 rfl) (by decide) (W := 0) (cens l Z a0 hw [] sb d kd vd c0 (c0 + z) h0 n0 zP1 zP2 zP3 zP4 zP5 he) (by decide) (by decide) e2 zP1 (by decide) (by decide) (g := (mkF m 21 #[.val (.ref sb), .val (.ref a), .val (.int z)] [(.int (c0 + z)), (.ref sb)])) rfl (by rw [hml]; rfl) (argsL := [(.int (c0 + z))]) (rest := []) (lenOf pd_11 rfl) rfl (own_mr rfl rfl) (hb hby d18_21) rfl
  obtain ⟨rfl, N3q, e3⟩ := hQ3
  have N3 := Fr.app N1 N3q
  refine Rch.st st3 ?_
  refine Rch.st (fun _ hr => XS.aloadN X3.here hx rfl (hb hby d18_24) rfl rfl hr) ?_
  refine Rch.st (fun _ hr => XS.aloadN X3.here hx rfl (hb hby d18_25) rfl rfl hr) ?_
  obtain ⟨T4, X4, e4, st4⟩ := getF X3 hx hZ hown (host := "") (Or.inl (own_w hw 98 rfl)) Via.refl e3 zP4 (g := (mkF m 26 #[.val (.ref sb), .val (.ref a), .val (.int z)] [(.ref sb), (.ref sb)])) rfl rfl (hb hby d18_26)
  refine Rch.st st4 ?_
  refine Rch.st (fun _ hr => XS.aloadN X4.here hx rfl (hb hby d18_29) rfl rfl hr) ?_
  obtain ⟨_, T5, Lc5, X5, hQ5, st5⟩ := own_callV X4 hx hZ (y := Y_12) (z := Y_12) hown (own_w hw 105 rfl) (own_decl (own_w hw 106 rfl) (own_w hw 109 rfl)) (notFace_of_selects (args := #[]) (mvT hZ (own_w hw 108 rfl))) (own_w hw 108 rfl) (own_w hw 106 rfl) (own_w hw 65 rfl) (own_w hw 109 rfl) (by decide) (W := 0) (cput l Z a0 hw [] sb d kd vd c0 a bx kb z vs cs h0 n0 zD0 zP0 zP1 zP2 zP3 zP4 zP5 zP6 zP7 zP8 zP9 zP11 hcs hcz hz0 hft hln) (by decide) (by decide) e4 zP1 (by decide) (by decide) (g := (mkF m 30 #[.val (.ref sb), .val (.ref a), .val (.int z)] [(.ref a), (.int c0), (.ref sb)])) rfl (by rw [hml]; rfl) (argsL := [(.int c0), (.ref a)]) (rest := []) (lenOf pd_12 rfl) rfl (own_mr rfl rfl) (hb hby d18_30) rfl
  obtain ⟨rfl, N5q, Kp5, Op5, R5_0⟩ := hQ5
  have N5 := Fr.app N3 N5q
  refine Rch.st st5 ?_
  have ne6 := (Exa.neArv zP1 zP5 (own_w hw 55 rfl))
  have ne7 := (Exa.neArv zP6 zP5 (own_w hw 1 rfl))
  have K8 := (Keep.refl h0 [sb, d]).trans Kp5 (allS (Or.inl (List.mem_of_getElem? (i := 1) rfl)) all0)
  show Rch p.tables e below _ (T5.setTop (mkF m 33 #[.val (.ref sb), .val (.ref a), .val (.int z)] []))
  refine Rch.st (fun _ hr => XS.aloadN X5.here hx rfl (hb hby d18_33) rfl rfl hr) ?_
  refine Rch.st (fun _ hr => XS.dup X5.here hx rfl (hb hby d18_34) rfl rfl hr) ?_
  have f9 := (zP4.keep Kp5 (ninS ne6 nin0))
  obtain ⟨T10, X10, e10, st10⟩ := getF X5 hx hZ hown (host := "") (Or.inl (own_w hw 98 rfl)) Via.refl rfl f9 (g := (mkF m 35 #[.val (.ref sb), .val (.ref a), .val (.int z)] [(.ref sb), (.ref sb)])) rfl rfl (hb hby d18_35)
  refine Rch.st st10 ?_
  refine Rch.st (fun _ hr => XS.iloadN X10.here hx rfl (hb hby d18_38) rfl hr) ?_
  refine Rch.st (fun _ hr => XS.iadd X10.here hx rfl (hb hby d18_39) rfl hr) ?_
  have f11 := (zP1.keep Kp5)
  obtain ⟨T12, h12, X12, e12, W12, st12⟩ := putF X10 hx hZ hown (host := "") (Or.inl (own_w hw 98 rfl)) Via.refl e10 f9 f11 (Or.inl (own_w hw 99 rfl)) (own_w hw 55 rfl) (ty := .int) (by decide) rfl rfl (g := (mkF m 40 #[.val (.ref sb), .val (.ref a), .val (.int z)] [(.int (c0 + z)), (.ref sb)])) rfl rfl (hb hby d18_40)
  refine Rch.st st12 ?_
  have N12 := Fr.snoc X12 N5 zP10
  have f13 := (zP6.keep Kp5)
  have ne14 := (Exa.ne f13 f11 (by decide))
  have K15 := K8.wr W12 (Or.inl (List.mem_of_getElem? (i := 0) rfl))
  have Fw12 := f9.same W12
  refine Rch.st (fun _ hr => XS.aloadN X12.here hx rfl (hb hby d18_43) rfl rfl hr) ?_
  obtain ⟨fs, hr, hrun, hended, hW, hsame⟩ := X12.leave (v := some (.ref sb)) (fun h => by rw [Bd.returns] at h; cases h)
  have f16 := (Op5.wr W12 zP10)
  have f17 := (f11.wr W12)
  have f18 := ((zP2.keep Kp5 (ninS ne6 nin0)).other W12 (Or.inr (slot_ne (Or.inl (own_w hw 81 rfl)) (Or.inl (own_w hw 99 rfl)) (by decide) (t := .byte) (t' := .int) (by decide) (by decide))))
  have f19 := ((zP3.keep Kp5 (ninS ne6 nin0)).other W12 (Or.inr (slot_ne (Or.inl (own_w hw 83 rfl)) (Or.inl (own_w hw 99 rfl)) (by decide) (t := (.array .byte)) (t' := .int) (by decide) (by decide))))
  have f20 := (R5_0.other W12 (Ne.symm ne6))
  refine Rch.fin (u := T12.setFrames fs) (own_retA X12 hx Bd.returns rfl rfl rfl (hb hby d18_44) hr) ⟨_, hrun, hended, _, _, rfl, ?_, ⟨_, rfl⟩, hW, hsame.mono (by decide) (by decide)⟩
  show Q_cappA Z sb d kd vd c0 a bx kb z vs cs h0 n0 _ T12.heap _
  rw [e12]
  exact ⟨rfl, N12, K15, f16, f17, f18, f19, Fw12, f20⟩
theorem d17_0 : decode jdk_67_method_7_code 0 = .ok (.aload_n 0, 1) := by decide +kernel
theorem d17_1 : decode jdk_67_method_7_code 1 = .ok (.aload_n 1, 1) := by decide +kernel
theorem d17_2 : decode jdk_67_method_7_code 2 = .ok (.invokespecial 29, 3) := by decide +kernel
theorem pd_13 : parseMethodDescriptor "(Ljava/lang/String;)Ljava/lang/AbstractStringBuilder;" = some ⟨[(.object "java/lang/String")], some (.object "java/lang/AbstractStringBuilder")⟩ := by decide +kernel
abbrev Y_13 : MethodName := ⟨"java/lang/AbstractStringBuilder", "append", "(Ljava/lang/String;)Ljava/lang/AbstractStringBuilder;"⟩
theorem d17_5 : decode jdk_67_method_7_code 5 = .ok (.pop, 1) := by decide +kernel
theorem d17_6 : decode jdk_67_method_7_code 6 = .ok (.aload_n 0, 1) := by decide +kernel
theorem d17_7 : decode jdk_67_method_7_code 7 = .ok (.areturn, 1) := by decide +kernel
def Q_cappS (Z : State) (sb : Addr) (d : Addr) (kd : ClassId) (vd : List Value) (c0 : Int32) (a : Addr) (bx : Addr) (kb : ClassId) (z : Int32) (vs : List Value) (cs : Int32) (h0 : Heap) (n0 : Nat) (v : Option Value) (h : Heap) (L : List Loc) : Prop := v = some (.ref sb) ∧ Fr n0 L ∧ Keep h0 h [sb, d] ∧ Old Z n0 h ∧ Exa Z h sb "java/lang/StringBuilder" ∧ Fld Z h sb "java/lang/AbstractStringBuilder" "coder" "B" (.int (0 : Int32)) ∧ Fld Z h sb "java/lang/AbstractStringBuilder" "value" "[B" (.ref d) ∧ Fld Z h sb "java/lang/AbstractStringBuilder" "count" "I" (.int (c0 + z)) ∧ Arv Z h d kd .byte (32 : Int32) (own_cp vs vd (c0).toNatClampNeg (z).toNatClampNeg) (.int (0 : Int32))
theorem pn_java_lang_StringBuilder : plainName "java/lang/StringBuilder" = true := by first | (simp [plainName, overriddenIn]; done) | decide +kernel
theorem ef_cappS (m : MethodId) (sb : Addr) (d : Addr) (kd : ClassId) (vd : List Value) (c0 : Int32) (a : Addr) (bx : Addr) (kb : ClassId) (z : Int32) (vs : List Value) (cs : Int32) : entryFrame m #[(.ref sb), (.ref a)] 2 = mkF m 0 #[.val (.ref sb), .val (.ref a)] [] := by first | (simp [entryFrame, mkF, argsToLocals, Value.category]; done) | rfl
set_option maxRecDepth 65536 in
set_option maxHeartbeats 40000000 in
theorem cappS (l : Launch) (Z : State) (a0 : Array Value) (hw : ∀ d ∈ tables_1, d.before a0 Z = true) (ws : List Jvm.Cond) (sb : Addr) (d : Addr) (kd : ClassId) (vd : List Value) (c0 : Int32) (a : Addr) (bx : Addr) (kb : ClassId) (z : Int32) (vs : List Value) (cs : Int32) (h0 : Heap) (n0 : Nat) (zD0 : Sta Z Z.heap "java/lang/String" "COMPACT_STRINGS" "Z" (.int cs)) (zP0 : Old Z n0 h0) (zP1 : Exa Z h0 sb "java/lang/StringBuilder") (zP2 : Fld Z h0 sb "java/lang/AbstractStringBuilder" "coder" "B" (.int (0 : Int32))) (zP3 : Fld Z h0 sb "java/lang/AbstractStringBuilder" "value" "[B" (.ref d)) (zP4 : Fld Z h0 sb "java/lang/AbstractStringBuilder" "count" "I" (.int c0)) (zP5 : Arv Z h0 d kd .byte (32 : Int32) vd (.int (0 : Int32))) (zP6 : Exa Z h0 a "java/lang/String") (zP7 : Fld Z h0 a "java/lang/String" "coder" "B" (.int (0 : Int32))) (zP8 : Fld Z h0 a "java/lang/String" "value" "[B" (.ref bx)) (zP9 : Arv Z h0 bx kb .byte z vs (.int (0 : Int32))) (zP10 : n0 ≤ sb) (zP11 : n0 ≤ d) (hcs : ¬ cs = (0 : Int32)) (hcz : ¬ c0 < (0 : Int32)) (hz0 : ¬ z < (0 : Int32)) (hft : c0.toNatClampNeg + z.toNatClampNeg ≤ 32) (hln : vd.length = 32) (he : ¬ (0 : Int32) < ((c0 + z) - ((32 : Int32) >>> ((0 : Int32) &&& 31)))) :
    MetFree l (⟨"java/lang/StringBuilder", "append", "(Ljava/lang/String;)Ljava/lang/StringBuilder;"⟩ : MethodName) (head1 (Jvm.Cond.code (⟨"java/lang/StringBuilder", "append", "(Ljava/lang/String;)Ljava/lang/StringBuilder;"⟩ : MethodName) jdk_67_method_7_code 2 (some (.object "java/lang/StringBuilder")) :: ws) ({ frames := 4, cells := 0, slots := 0, locals := 83 } : Room)) (fun aA uU => aA = #[(.ref sb), (.ref a)] ∧ Z.Warmed39 uU.vm ∧ uU.heap = h0) (fun _ _ _ _ _ => True) (fun _ uU oO uU' => ∃ vV lL, oO = .returned vV ∧ Q_cappS Z sb d kd vd c0 a bx kb z vs cs h0 n0 vV uU'.heap lL ∧ FrameEnd uU oO uU' lL ({ frames := 4, cells := 0, slots := 0, locals := 83 } : Room).cells ({ frames := 4, cells := 0, slots := 0, locals := 83 } : Room).slots) := by
  refine MetFree.of_bodySF (plainFor_of_name pn_java_lang_StringBuilder) hisR ?_
  intro p e s m args below meth c s₁ Bd hml0 hP hK
  obtain ⟨rfl, hZ, hh⟩ := hP
  have hx := Bd.exec
  have hby := Bd.bytes
  have hml : c.maxLocals = 2 := hml0
  have hown : s.vm.findClass "java/lang/StringBuilder" = some m.cls := findClass_of_methodNamed Bd.named
  have hnm := (name_of_methodNamed Bd.named Bd.method).1
  have X0 : Stand p l e ({ frames := 4, cells := 0, slots := 0, locals := 83 } : Room) s m #[(.ref sb), (.ref a)] below meth c s₁ [] 0 0 := Stand.of_body Bd
  have e0 : s₁.heap = h0 := by rw [← hh, Bd.state]; rfl
  have N0 := Fr.nil n0
  refine Rch.out (Rch.st (fun t k => castTop (ef_cappS m sb d kd vd c0 a bx kb z vs cs) k) ?_)
  show Rch p.tables e below _ (s₁.setTop (mkF m 0 #[.val (.ref sb), .val (.ref a)] []))
  refine Rch.st (fun _ hr => XS.aloadN X0.here hx rfl (hb hby d17_0) rfl rfl hr) ?_
  refine Rch.st (fun _ hr => XS.aloadN X0.here hx rfl (hb hby d17_1) rfl rfl hr) ?_
  obtain ⟨_, T1, Lc1, X1, hQ1, st1⟩ := own_callU X0 hx hZ (K := "java/lang/StringBuilder") (y := Y_13) hown (own_w hw 95 rfl) (own_same (own_w hw 85 rfl) (own_nf (y0 := (⟨"java/lang/AbstractStringBuilder", "ensureCapacityInternal", "(I)V"⟩ : MethodName)) (own_w hw 103 rfl) (own_w hw 101 rfl) rfl) (by decide)) (own_w hw 86 rfl) (own_w hw 96 rfl) (by decide) (own_w hw 65 rfl) (own_w hw 97 rfl) (W := 0) (cappA l Z a0 hw [] sb d kd vd c0 a bx kb z vs cs h0 n0 zD0 zP0 zP1 zP2 zP3 zP4 zP5 zP6 zP7 zP8 zP9 zP10 zP11 hcs hcz hz0 hft hln he) (by decide) (by decide) e0 (Ins.self zP1) (by decide) (by decide) (g := (mkF m 2 #[.val (.ref sb), .val (.ref a)] [(.ref a), (.ref sb)])) rfl (by rw [hml]; rfl) (a := sb) (argsL := [(.ref a)]) (rest := []) (lenOf pd_13 rfl) rfl (own_mr rfl rfl) (hb hby d17_2) rfl
  obtain ⟨rfl, N1q, Kp1, Op1, R1_0, R1_1, R1_2, R1_3, R1_4⟩ := hQ1
  have N1 := Fr.app N0 N1q
  refine Rch.st st1 ?_
  have ne2 := (Ne.symm (Exa.neArv zP1 zP5 (own_w hw 55 rfl)))
  have ne3 := (Exa.ne zP6 zP1 (by decide))
  have ne4 := (Ne.symm (Exa.neArv zP1 zP9 (own_w hw 55 rfl)))
  have ne5 := (Exa.neArv zP6 zP5 (own_w hw 1 rfl))
  have K6 := (Keep.refl h0 [sb, d]).trans Kp1 (allS (Or.inl (List.mem_of_getElem? (i := 0) rfl)) (allS (Or.inl (List.mem_of_getElem? (i := 1) rfl)) all0))
  refine Rch.st (fun _ hr => XS.pop X1.here hx rfl (hb hby d17_5) rfl rfl hr) ?_
  refine Rch.st (fun _ hr => XS.aloadN X1.here hx rfl (hb hby d17_6) rfl rfl hr) ?_
  obtain ⟨fs, hr, hrun, hended, hW, hsame⟩ := X1.leave (v := some (.ref sb)) (fun h => by rw [Bd.returns] at h; cases h)
  refine Rch.fin (u := T1.setFrames fs) (own_retA X1 hx Bd.returns rfl rfl rfl (hb hby d17_7) hr) ⟨_, hrun, hended, _, _, rfl, ?_, ⟨_, rfl⟩, hW, hsame.mono (by decide) (by decide)⟩
  show Q_cappS Z sb d kd vd c0 a bx kb z vs cs h0 n0 _ T1.heap _
  exact ⟨rfl, N1, K6, Op1, R1_0, R1_1, R1_2, R1_3, R1_4⟩
theorem d16_0 : decode jdk_67_method_80_code 0 = .ok (.aload_n 0, 1) := by decide +kernel
theorem d16_1 : decode jdk_67_method_80_code 1 = .ok (.aload_n 1, 1) := by decide +kernel
theorem d16_2 : decode jdk_67_method_80_code 2 = .ok (.invokevirtual 23, 3) := by decide +kernel
theorem pd_14 : parseMethodDescriptor "(Ljava/lang/String;)Ljava/lang/StringBuilder;" = some ⟨[(.object "java/lang/String")], some (.object "java/lang/StringBuilder")⟩ := by decide +kernel
abbrev Y_14 : MethodName := ⟨"java/lang/StringBuilder", "append", "(Ljava/lang/String;)Ljava/lang/StringBuilder;"⟩
theorem d16_5 : decode jdk_67_method_80_code 5 = .ok (.areturn, 1) := by decide +kernel
def Q_cappB (Z : State) (sb : Addr) (d : Addr) (kd : ClassId) (vd : List Value) (c0 : Int32) (a : Addr) (bx : Addr) (kb : ClassId) (z : Int32) (vs : List Value) (cs : Int32) (h0 : Heap) (n0 : Nat) (v : Option Value) (h : Heap) (L : List Loc) : Prop := v = some (.ref sb) ∧ Fr n0 L ∧ Keep h0 h [sb, d] ∧ Old Z n0 h ∧ Exa Z h sb "java/lang/StringBuilder" ∧ Fld Z h sb "java/lang/AbstractStringBuilder" "coder" "B" (.int (0 : Int32)) ∧ Fld Z h sb "java/lang/AbstractStringBuilder" "value" "[B" (.ref d) ∧ Fld Z h sb "java/lang/AbstractStringBuilder" "count" "I" (.int (c0 + z)) ∧ Arv Z h d kd .byte (32 : Int32) (own_cp vs vd (c0).toNatClampNeg (z).toNatClampNeg) (.int (0 : Int32))
theorem ef_cappB (m : MethodId) (sb : Addr) (d : Addr) (kd : ClassId) (vd : List Value) (c0 : Int32) (a : Addr) (bx : Addr) (kb : ClassId) (z : Int32) (vs : List Value) (cs : Int32) : entryFrame m #[(.ref sb), (.ref a)] 2 = mkF m 0 #[.val (.ref sb), .val (.ref a)] [] := by first | (simp [entryFrame, mkF, argsToLocals, Value.category]; done) | rfl
set_option maxRecDepth 65536 in
set_option maxHeartbeats 40000000 in
theorem cappB (l : Launch) (Z : State) (a0 : Array Value) (hw : ∀ d ∈ tables_1, d.before a0 Z = true) (ws : List Jvm.Cond) (sb : Addr) (d : Addr) (kd : ClassId) (vd : List Value) (c0 : Int32) (a : Addr) (bx : Addr) (kb : ClassId) (z : Int32) (vs : List Value) (cs : Int32) (h0 : Heap) (n0 : Nat) (zD0 : Sta Z Z.heap "java/lang/String" "COMPACT_STRINGS" "Z" (.int cs)) (zP0 : Old Z n0 h0) (zP1 : Exa Z h0 sb "java/lang/StringBuilder") (zP2 : Fld Z h0 sb "java/lang/AbstractStringBuilder" "coder" "B" (.int (0 : Int32))) (zP3 : Fld Z h0 sb "java/lang/AbstractStringBuilder" "value" "[B" (.ref d)) (zP4 : Fld Z h0 sb "java/lang/AbstractStringBuilder" "count" "I" (.int c0)) (zP5 : Arv Z h0 d kd .byte (32 : Int32) vd (.int (0 : Int32))) (zP6 : Exa Z h0 a "java/lang/String") (zP7 : Fld Z h0 a "java/lang/String" "coder" "B" (.int (0 : Int32))) (zP8 : Fld Z h0 a "java/lang/String" "value" "[B" (.ref bx)) (zP9 : Arv Z h0 bx kb .byte z vs (.int (0 : Int32))) (zP10 : n0 ≤ sb) (zP11 : n0 ≤ d) (hcs : ¬ cs = (0 : Int32)) (hcz : ¬ c0 < (0 : Int32)) (hz0 : ¬ z < (0 : Int32)) (hft : c0.toNatClampNeg + z.toNatClampNeg ≤ 32) (hln : vd.length = 32) (he : ¬ (0 : Int32) < ((c0 + z) - ((32 : Int32) >>> ((0 : Int32) &&& 31)))) :
    MetFree l (⟨"java/lang/StringBuilder", "append", "(Ljava/lang/String;)Ljava/lang/AbstractStringBuilder;"⟩ : MethodName) (head1 (Jvm.Cond.code (⟨"java/lang/StringBuilder", "append", "(Ljava/lang/String;)Ljava/lang/AbstractStringBuilder;"⟩ : MethodName) jdk_67_method_80_code 2 (some (.object "java/lang/AbstractStringBuilder")) :: ws) ({ frames := 5, cells := 0, slots := 0, locals := 96 } : Room)) (fun aA uU => aA = #[(.ref sb), (.ref a)] ∧ Z.Warmed39 uU.vm ∧ uU.heap = h0) (fun _ _ _ _ _ => True) (fun _ uU oO uU' => ∃ vV lL, oO = .returned vV ∧ Q_cappB Z sb d kd vd c0 a bx kb z vs cs h0 n0 vV uU'.heap lL ∧ FrameEnd uU oO uU' lL ({ frames := 5, cells := 0, slots := 0, locals := 96 } : Room).cells ({ frames := 5, cells := 0, slots := 0, locals := 96 } : Room).slots) := by
  refine MetFree.of_bodySF (plainFor_of_name pn_java_lang_StringBuilder) hisR ?_
  intro p e s m args below meth c s₁ Bd hml0 hP hK
  obtain ⟨rfl, hZ, hh⟩ := hP
  have hx := Bd.exec
  have hby := Bd.bytes
  have hml : c.maxLocals = 2 := hml0
  have hown : s.vm.findClass "java/lang/StringBuilder" = some m.cls := findClass_of_methodNamed Bd.named
  have hnm := (name_of_methodNamed Bd.named Bd.method).1
  have X0 : Stand p l e ({ frames := 5, cells := 0, slots := 0, locals := 96 } : Room) s m #[(.ref sb), (.ref a)] below meth c s₁ [] 0 0 := Stand.of_body Bd
  have e0 : s₁.heap = h0 := by rw [← hh, Bd.state]; rfl
  have N0 := Fr.nil n0
  refine Rch.out (Rch.st (fun t k => castTop (ef_cappB m sb d kd vd c0 a bx kb z vs cs) k) ?_)
  show Rch p.tables e below _ (s₁.setTop (mkF m 0 #[.val (.ref sb), .val (.ref a)] []))
  refine Rch.st (fun _ hr => XS.aloadN X0.here hx rfl (hb hby d16_0) rfl rfl hr) ?_
  refine Rch.st (fun _ hr => XS.aloadN X0.here hx rfl (hb hby d16_1) rfl rfl hr) ?_
  obtain ⟨_, T1, Lc1, X1, hQ1, st1⟩ := own_callV X0 hx hZ (y := Y_14) (z := Y_14) hown (own_w hw 90 rfl) (own_w hw 91 rfl) (notFace_of_selects (args := #[]) (mvT hZ (own_w hw 93 rfl))) (own_w hw 93 rfl) (own_w hw 92 rfl) (own_w hw 56 rfl) (own_w hw 94 rfl) (by decide) (W := 0) (cappS l Z a0 hw [] sb d kd vd c0 a bx kb z vs cs h0 n0 zD0 zP0 zP1 zP2 zP3 zP4 zP5 zP6 zP7 zP8 zP9 zP10 zP11 hcs hcz hz0 hft hln he) (by decide) (by decide) e0 zP1 (by decide) (by decide) (g := (mkF m 2 #[.val (.ref sb), .val (.ref a)] [(.ref a), (.ref sb)])) rfl (by rw [hml]; rfl) (argsL := [(.ref a)]) (rest := []) (lenOf pd_14 rfl) rfl (own_mr rfl rfl) (hb hby d16_2) rfl
  obtain ⟨rfl, N1q, Kp1, Op1, R1_0, R1_1, R1_2, R1_3, R1_4⟩ := hQ1
  have N1 := Fr.app N0 N1q
  refine Rch.st st1 ?_
  have ne2 := (Ne.symm (Exa.neArv zP1 zP5 (own_w hw 55 rfl)))
  have ne3 := (Exa.ne zP6 zP1 (by decide))
  have ne4 := (Ne.symm (Exa.neArv zP1 zP9 (own_w hw 55 rfl)))
  have ne5 := (Exa.neArv zP6 zP5 (own_w hw 1 rfl))
  have K6 := (Keep.refl h0 [sb, d]).trans Kp1 (allS (Or.inl (List.mem_of_getElem? (i := 0) rfl)) (allS (Or.inl (List.mem_of_getElem? (i := 1) rfl)) all0))
  obtain ⟨fs, hr, hrun, hended, hW, hsame⟩ := X1.leave (v := some (.ref sb)) (fun h => by rw [Bd.returns] at h; cases h)
  refine Rch.fin (u := T1.setFrames fs) (own_retA X1 hx Bd.returns rfl rfl rfl (hb hby d16_5) hr) ⟨_, hrun, hended, _, _, rfl, ?_, ⟨_, rfl⟩, hW, hsame.mono (by decide) (by decide)⟩
  show Q_cappB Z sb d kd vd c0 a bx kb z vs cs h0 n0 _ T1.heap _
  exact ⟨rfl, N1, K6, Op1, R1_0, R1_1, R1_2, R1_3, R1_4⟩
theorem d26_0 : decode jdk_68_method_68_code 0 = .ok (.getstatic 18, 3) := by decide +kernel
theorem d26_3 : decode jdk_68_method_68_code 3 = .ok (.ifCond .eq 14, 3) := by decide +kernel
theorem d26_6 : decode jdk_68_method_68_code 6 = .ok (.aload_n 0, 1) := by decide +kernel
theorem d26_7 : decode jdk_68_method_68_code 7 = .ok (.getfield 22, 3) := by decide +kernel
theorem d26_10 : decode jdk_68_method_68_code 10 = .ok (.ifCond .ne 7, 3) := by decide +kernel
theorem d26_13 : decode jdk_68_method_68_code 13 = .ok (.iconst 1, 1) := by decide +kernel
theorem d26_14 : decode jdk_68_method_68_code 14 = .ok (.goto 4, 3) := by decide +kernel
theorem d26_18 : decode jdk_68_method_68_code 18 = .ok (.ireturn, 1) := by decide +kernel
def Q_cisl (Z : State) (sb : Addr) (cs : Int32) (h0 : Heap) (n0 : Nat) (v : Option Value) (h : Heap) (L : List Loc) : Prop := v = some (.int (1 : Int32)) ∧ Fr n0 L ∧ h = h0
theorem ef_cisl (m : MethodId) (sb : Addr) (cs : Int32) : entryFrame m #[(.ref sb)] 1 = mkF m 0 #[.val (.ref sb)] [] := by first | (simp [entryFrame, mkF, argsToLocals, Value.category]; done) | rfl
set_option maxRecDepth 65536 in
set_option maxHeartbeats 40000000 in
theorem cisl (l : Launch) (Z : State) (a0 : Array Value) (hw : ∀ d ∈ tables_1, d.before a0 Z = true) (ws : List Jvm.Cond) (sb : Addr) (cs : Int32) (h0 : Heap) (n0 : Nat) (zD0 : Sta Z Z.heap "java/lang/String" "COMPACT_STRINGS" "Z" (.int cs)) (zP0 : Old Z n0 h0) (zP1 : Fld Z h0 sb "java/lang/AbstractStringBuilder" "coder" "B" (.int (0 : Int32))) (hcs : ¬ cs = (0 : Int32)) :
    MetFree l (⟨"java/lang/AbstractStringBuilder", "isLatin1", "()Z"⟩ : MethodName) (head1 (Jvm.Cond.code (⟨"java/lang/AbstractStringBuilder", "isLatin1", "()Z"⟩ : MethodName) jdk_68_method_68_code 1 (some .boolean) :: ws) ({ frames := 0, cells := 0, slots := 0, locals := 0 } : Room)) (fun aA uU => aA = #[(.ref sb)] ∧ Z.Warmed39 uU.vm ∧ uU.heap = h0) (fun _ _ _ _ _ => True) (fun _ uU oO uU' => ∃ vV lL, oO = .returned vV ∧ Q_cisl Z sb cs h0 n0 vV uU'.heap lL ∧ FrameEnd uU oO uU' lL ({ frames := 0, cells := 0, slots := 0, locals := 0 } : Room).cells ({ frames := 0, cells := 0, slots := 0, locals := 0 } : Room).slots) := by
  refine MetFree.of_bodySF (plainFor_of_name pn_java_lang_AbstractStringBuilder) hisR ?_
  intro p e s m args below meth c s₁ Bd hml0 hP hK
  obtain ⟨rfl, hZ, hh⟩ := hP
  have hx := Bd.exec
  have hby := Bd.bytes
  have hml : c.maxLocals = 1 := hml0
  have hown : s.vm.findClass "java/lang/AbstractStringBuilder" = some m.cls := findClass_of_methodNamed Bd.named
  have hnm := (name_of_methodNamed Bd.named Bd.method).1
  have X0 : Stand p l e ({ frames := 0, cells := 0, slots := 0, locals := 0 } : Room) s m #[(.ref sb)] below meth c s₁ [] 0 0 := Stand.of_body Bd
  have e0 : s₁.heap = h0 := by rw [← hh, Bd.state]; rfl
  have N0 := Fr.nil n0
  refine Rch.out (Rch.st (fun t k => castTop (ef_cisl m sb cs) k) ?_)
  show Rch p.tables e below _ (s₁.setTop (mkF m 0 #[.val (.ref sb)] []))
  obtain ⟨T1, X1, e1, st1⟩ := getS2 X0 hx hZ hown (host := "") (Or.inl (own_w hw 115 rfl)) Via.refl e0 (zD0.ext zP0.2) (g := (mkF m 0 #[.val (.ref sb)] [])) rfl (hb hby d26_0)
  refine Rch.st st1 ?_
  refine Rch.st (fun _ hr => XS.ifNo X1.here hx rfl (hb hby d26_3) rfl ((if0 _ _).trans (feq hcs).1) hr) ?_
  refine Rch.st (fun _ hr => XS.aloadN X1.here hx rfl (hb hby d26_6) rfl rfl hr) ?_
  obtain ⟨T2, X2, e2, st2⟩ := getF X1 hx hZ hown (host := "") (Or.inl (own_w hw 80 rfl)) Via.refl e1 zP1 (g := (mkF m 7 #[.val (.ref sb)] [(.ref sb)])) rfl rfl (hb hby d26_7)
  refine Rch.st st2 ?_
  refine Rch.st (fun _ hr => XS.ifNo X2.here hx rfl (hb hby d26_10) rfl ((if0 _ _).trans (teq (by decide : (0 : Int32) = (0 : Int32))).2) hr) ?_
  refine Rch.st (fun _ hr => XS.iconst X2.here hx rfl (hb hby d26_13) hr) ?_
  refine Rch.st (fun _ hr => XS.goto X2.here hx rfl (pc0 := 14) (pc' := 18) rfl (hb hby d26_14) (by decide) (by decide) hr) ?_
  obtain ⟨fs, hr, hrun, hended, hW, hsame⟩ := X2.leave (v := some (.int (1 : Int32))) (fun h => by rw [Bd.returns] at h; cases h)
  refine Rch.fin (u := T2.setFrames fs) (retN X2 hx (t := .boolean) Bd.returns (by simp) (hb hby d26_18) hr) ⟨_, hrun, hended, _, _, rfl, ?_, ⟨_, rfl⟩, hW, hsame.mono (by decide) (by decide)⟩
  show Q_cisl Z sb cs h0 n0 _ T2.heap _
  exact ⟨rfl, N0, e2⟩
theorem d25_0 : decode jdk_68_method_31_code 0 = .ok (.aload_n 0, 1) := by decide +kernel
theorem d25_1 : decode jdk_68_method_31_code 1 = .ok (.aload_n 0, 1) := by decide +kernel
theorem d25_2 : decode jdk_68_method_31_code 2 = .ok (.getfield 79, 3) := by decide +kernel
theorem d25_5 : decode jdk_68_method_31_code 5 = .ok (.iconst 1, 1) := by decide +kernel
theorem d25_6 : decode jdk_68_method_31_code 6 = .ok (.iadd, 1) := by decide +kernel
theorem d25_7 : decode jdk_68_method_31_code 7 = .ok (.invokevirtual 100, 3) := by decide +kernel
theorem d25_10 : decode jdk_68_method_31_code 10 = .ok (.aload_n 0, 1) := by decide +kernel
theorem d25_11 : decode jdk_68_method_31_code 11 = .ok (.invokevirtual 83, 3) := by decide +kernel
theorem pd_15 : parseMethodDescriptor "()Z" = some ⟨[], some .boolean⟩ := by decide +kernel
abbrev Y_15 : MethodName := ⟨"java/lang/AbstractStringBuilder", "isLatin1", "()Z"⟩
theorem d25_14 : decode jdk_68_method_31_code 14 = .ok (.ifCond .eq 31, 3) := by decide +kernel
theorem d25_17 : decode jdk_68_method_31_code 17 = .ok (.iload_n 1, 1) := by decide +kernel
theorem d25_18 : decode jdk_68_method_31_code 18 = .ok (.invokestatic 191, 3) := by decide +kernel
theorem d25_21 : decode jdk_68_method_31_code 21 = .ok (.ifCond .eq 24, 3) := by decide +kernel
theorem d25_24 : decode jdk_68_method_31_code 24 = .ok (.aload_n 0, 1) := by decide +kernel
theorem d25_25 : decode jdk_68_method_31_code 25 = .ok (.getfield 15, 3) := by decide +kernel
theorem d25_28 : decode jdk_68_method_31_code 28 = .ok (.aload_n 0, 1) := by decide +kernel
theorem d25_29 : decode jdk_68_method_31_code 29 = .ok (.dup, 1) := by decide +kernel
theorem d25_30 : decode jdk_68_method_31_code 30 = .ok (.getfield 79, 3) := by decide +kernel
theorem d25_33 : decode jdk_68_method_31_code 33 = .ok (.dup_x1, 1) := by decide +kernel
theorem d25_34 : decode jdk_68_method_31_code 34 = .ok (.iconst 1, 1) := by decide +kernel
theorem d25_35 : decode jdk_68_method_31_code 35 = .ok (.iadd, 1) := by decide +kernel
theorem d25_36 : decode jdk_68_method_31_code 36 = .ok (.putfield 79, 3) := by decide +kernel
theorem d25_39 : decode jdk_68_method_31_code 39 = .ok (.iload_n 1, 1) := by decide +kernel
theorem d25_40 : decode jdk_68_method_31_code 40 = .ok (.i2b, 1) := by decide +kernel
theorem d25_41 : decode jdk_68_method_31_code 41 = .ok (.bastore, 1) := by decide +kernel
theorem d25_42 : decode jdk_68_method_31_code 42 = .ok (.goto 33, 3) := by decide +kernel
theorem d25_75 : decode jdk_68_method_31_code 75 = .ok (.aload_n 0, 1) := by decide +kernel
theorem d25_76 : decode jdk_68_method_31_code 76 = .ok (.areturn, 1) := by decide +kernel
def Q_cappCA (Z : State) (sb : Addr) (d : Addr) (kd : ClassId) (vd : List Value) (c0 : Int32) (y : Int32) (cs : Int32) (h0 : Heap) (n0 : Nat) (v : Option Value) (h : Heap) (L : List Loc) : Prop := v = some (.ref sb) ∧ Fr n0 L ∧ Keep h0 h [sb, d] ∧ Old Z n0 h ∧ Exa Z h sb "java/lang/StringBuilder" ∧ Fld Z h sb "java/lang/AbstractStringBuilder" "coder" "B" (.int (0 : Int32)) ∧ Fld Z h sb "java/lang/AbstractStringBuilder" "value" "[B" (.ref d) ∧ Fld Z h sb "java/lang/AbstractStringBuilder" "count" "I" (.int (c0 + (1 : Int32))) ∧ Arv Z h d kd .byte (32 : Int32) (vd.set (c0).toNatClampNeg (.int y)) (.int (0 : Int32))
theorem ef_cappCA (m : MethodId) (sb : Addr) (d : Addr) (kd : ClassId) (vd : List Value) (c0 : Int32) (y : Int32) (cs : Int32) : entryFrame m #[(.ref sb), (.int y)] 2 = mkF m 0 #[.val (.ref sb), .val (.int y)] [] := by first | (simp [entryFrame, mkF, argsToLocals, Value.category]; done) | rfl
set_option maxRecDepth 65536 in
set_option maxHeartbeats 40000000 in
theorem cappCA (l : Launch) (Z : State) (a0 : Array Value) (hw : ∀ d ∈ tables_1, d.before a0 Z = true) (ws : List Jvm.Cond) (sb : Addr) (d : Addr) (kd : ClassId) (vd : List Value) (c0 : Int32) (y : Int32) (cs : Int32) (h0 : Heap) (n0 : Nat) (zD0 : Sta Z Z.heap "java/lang/String" "COMPACT_STRINGS" "Z" (.int cs)) (zP0 : Old Z n0 h0) (zP1 : Exa Z h0 sb "java/lang/StringBuilder") (zP2 : Fld Z h0 sb "java/lang/AbstractStringBuilder" "coder" "B" (.int (0 : Int32))) (zP3 : Fld Z h0 sb "java/lang/AbstractStringBuilder" "value" "[B" (.ref d)) (zP4 : Fld Z h0 sb "java/lang/AbstractStringBuilder" "count" "I" (.int c0)) (zP5 : Arv Z h0 d kd .byte (32 : Int32) vd (.int (0 : Int32))) (zP6 : n0 ≤ sb) (zP7 : n0 ≤ d) (hcs : ¬ cs = (0 : Int32)) (ha : own_A y) (hcz : ¬ c0 < (0 : Int32)) (hcl : c0 < (32 : Int32)) (hft : c0.toNatClampNeg < 32) (hln : vd.length = 32) (he : ¬ (0 : Int32) < ((c0 + (1 : Int32)) - ((32 : Int32) >>> ((0 : Int32) &&& 31)))) :
    MetFree l (⟨"java/lang/AbstractStringBuilder", "append", "(C)Ljava/lang/AbstractStringBuilder;"⟩ : MethodName) (head1 (Jvm.Cond.code (⟨"java/lang/AbstractStringBuilder", "append", "(C)Ljava/lang/AbstractStringBuilder;"⟩ : MethodName) jdk_68_method_31_code 2 (some (.object "java/lang/AbstractStringBuilder")) :: ws) ({ frames := 1, cells := 0, slots := 0, locals := 14 } : Room)) (fun aA uU => aA = #[(.ref sb), (.int y)] ∧ Z.Warmed39 uU.vm ∧ uU.heap = h0) (fun _ _ _ _ _ => True) (fun _ uU oO uU' => ∃ vV lL, oO = .returned vV ∧ Q_cappCA Z sb d kd vd c0 y cs h0 n0 vV uU'.heap lL ∧ FrameEnd uU oO uU' lL ({ frames := 1, cells := 0, slots := 0, locals := 14 } : Room).cells ({ frames := 1, cells := 0, slots := 0, locals := 14 } : Room).slots) := by
  refine MetFree.of_bodySF (plainFor_of_name pn_java_lang_AbstractStringBuilder) hisR ?_
  intro p e s m args below meth c s₁ Bd hml0 hP hK
  obtain ⟨rfl, hZ, hh⟩ := hP
  have hx := Bd.exec
  have hby := Bd.bytes
  have hml : c.maxLocals = 2 := hml0
  have hown : s.vm.findClass "java/lang/AbstractStringBuilder" = some m.cls := findClass_of_methodNamed Bd.named
  have hnm := (name_of_methodNamed Bd.named Bd.method).1
  have X0 : Stand p l e ({ frames := 1, cells := 0, slots := 0, locals := 14 } : Room) s m #[(.ref sb), (.int y)] below meth c s₁ [] 0 0 := Stand.of_body Bd
  have e0 : s₁.heap = h0 := by rw [← hh, Bd.state]; rfl
  have N0 := Fr.nil n0
  refine Rch.out (Rch.st (fun t k => castTop (ef_cappCA m sb d kd vd c0 y cs) k) ?_)
  show Rch p.tables e below _ (s₁.setTop (mkF m 0 #[.val (.ref sb), .val (.int y)] []))
  refine Rch.st (fun _ hr => XS.aloadN X0.here hx rfl (hb hby d25_0) rfl rfl hr) ?_
  refine Rch.st (fun _ hr => XS.aloadN X0.here hx rfl (hb hby d25_1) rfl rfl hr) ?_
  obtain ⟨T1, X1, e1, st1⟩ := getF X0 hx hZ hown (host := "") (Or.inl (own_w hw 98 rfl)) Via.refl e0 zP4 (g := (mkF m 2 #[.val (.ref sb), .val (.int y)] [(.ref sb), (.ref sb)])) rfl rfl (hb hby d25_2)
  refine Rch.st st1 ?_
  refine Rch.st (fun _ hr => XS.iconst X1.here hx rfl (hb hby d25_5) hr) ?_
  refine Rch.st (fun _ hr => XS.iadd X1.here hx rfl (hb hby d25_6) rfl hr) ?_
  obtain ⟨_, T2, Lc2, X2, hQ2, st2⟩ := own_callV X1 hx hZ (y := Y_11) (z := Y_11) hown (own_w hw 100 rfl) (own_decl (own_w hw 101 rfl) (own_w hw 104 rfl)) (notFace_of_selects (args := #[]) (mvT hZ (own_w hw 103 rfl))) (own_w hw 103 rfl) (own_w hw 101 rfl) (own_w hw 65 rfl) (own_w hw 104 rfl) (by decide) (W := 0) (cens l Z a0 hw [] sb d kd vd c0 (c0 + (1 : Int32)) h0 n0 zP1 zP2 zP3 zP4 zP5 he) (by decide) (by decide) e1 zP1 (by decide) (by decide) (g := (mkF m 7 #[.val (.ref sb), .val (.int y)] [(.int (c0 + (1 : Int32))), (.ref sb)])) rfl (by rw [hml]; rfl) (argsL := [(.int (c0 + (1 : Int32)))]) (rest := []) (lenOf pd_11 rfl) rfl (own_mr rfl rfl) (hb hby d25_7) rfl
  obtain ⟨rfl, N2q, e2⟩ := hQ2
  have N2 := Fr.app N0 N2q
  refine Rch.st st2 ?_
  refine Rch.st (fun _ hr => XS.aloadN X2.here hx rfl (hb hby d25_10) rfl rfl hr) ?_
  obtain ⟨_, T3, Lc3, X3, hQ3, st3⟩ := own_callV X2 hx hZ (y := Y_15) (z := Y_15) hown (own_w hw 143 rfl) (own_w hw 144 rfl) (notFace_of_selects (args := #[]) (mvT hZ (own_w hw 146 rfl))) (own_w hw 146 rfl) (own_w hw 145 rfl) (own_w hw 65 rfl) (own_w hw 147 rfl) (by decide) (W := 0) (cisl l Z a0 hw [] sb cs h0 n0 zD0 zP0 zP2 hcs) (by decide) (by decide) e2 zP1 (by decide) (by decide) (g := (mkF m 11 #[.val (.ref sb), .val (.int y)] [(.ref sb)])) rfl (by rw [hml]; rfl) (argsL := []) (rest := []) (lenOf pd_15 rfl) rfl (own_mr rfl rfl) (hb hby d25_11) rfl
  obtain ⟨rfl, N3q, e3⟩ := hQ3
  have N3 := Fr.app N2 N3q
  refine Rch.st st3 ?_
  show Rch p.tables e below _ (T3.setTop (mkF m 14 #[.val (.ref sb), .val (.int y)] [(.int (1 : Int32))]))
  refine Rch.st (fun _ hr => XS.ifNo X3.here hx rfl (hb hby d25_14) rfl ((if0 _ _).trans (feq (by decide : ¬ ((1 : Int32) = (0 : Int32)))).1) hr) ?_
  refine Rch.st (fun _ hr => XS.iloadN X3.here hx rfl (hb hby d25_17) rfl hr) ?_
  obtain ⟨_, T4, Lc4, X4, hQ4, st4⟩ := own_callS X3 hx hZ (y := Y_4) hown (own_w hw 148 rfl) (own_w hw 27 rfl) (own_w hw 28 rfl) (own_w hw 29 rfl) (by decide) (W := 0) (ccan l Z a0 hw [] y h0 n0 ha) (by decide) (by decide) e3 (by decide) (by decide) (g := (mkF m 18 #[.val (.ref sb), .val (.int y)] [(.int y)])) rfl (by rw [hml]; rfl) (argsL := [(.int y)]) (rest := []) (lenOf pd_4 rfl) rfl (own_mr rfl rfl) (hb hby d25_18) rfl
  obtain ⟨rfl, N4q, e4⟩ := hQ4
  have N4 := Fr.app N3 N4q
  refine Rch.st st4 ?_
  refine Rch.st (fun _ hr => XS.ifNo X4.here hx rfl (hb hby d25_21) rfl ((if0 _ _).trans (feq (by decide : ¬ ((1 : Int32) = (0 : Int32)))).1) hr) ?_
  refine Rch.st (fun _ hr => XS.aloadN X4.here hx rfl (hb hby d25_24) rfl rfl hr) ?_
  obtain ⟨T5, X5, e5, st5⟩ := getF X4 hx hZ hown (host := "") (Or.inl (own_w hw 82 rfl)) Via.refl e4 zP3 (g := (mkF m 25 #[.val (.ref sb), .val (.int y)] [(.ref sb)])) rfl rfl (hb hby d25_25)
  refine Rch.st st5 ?_
  refine Rch.st (fun _ hr => XS.aloadN X5.here hx rfl (hb hby d25_28) rfl rfl hr) ?_
  refine Rch.st (fun _ hr => XS.dup X5.here hx rfl (hb hby d25_29) rfl rfl hr) ?_
  show Rch p.tables e below _ (T5.setTop (mkF m 30 #[.val (.ref sb), .val (.int y)] [(.ref sb), (.ref sb), (.ref d)]))
  obtain ⟨T6, X6, e6, st6⟩ := getF X5 hx hZ hown (host := "") (Or.inl (own_w hw 98 rfl)) Via.refl e5 zP4 (g := (mkF m 30 #[.val (.ref sb), .val (.int y)] [(.ref sb), (.ref sb), (.ref d)])) rfl rfl (hb hby d25_30)
  refine Rch.st st6 ?_
  refine Rch.st (fun _ hr => XS.dupX1 X6.here hx rfl (hb hby d25_33) rfl rfl rfl hr) ?_
  refine Rch.st (fun _ hr => XS.iconst X6.here hx rfl (hb hby d25_34) hr) ?_
  refine Rch.st (fun _ hr => XS.iadd X6.here hx rfl (hb hby d25_35) rfl hr) ?_
  obtain ⟨T7, h7, X7, e7, W7, st7⟩ := putF X6 hx hZ hown (host := "") (Or.inl (own_w hw 98 rfl)) Via.refl e6 zP4 zP1 (Or.inl (own_w hw 99 rfl)) (own_w hw 55 rfl) (ty := .int) (by decide) rfl rfl (g := (mkF m 36 #[.val (.ref sb), .val (.int y)] [(.int (c0 + (1 : Int32))), (.ref sb), (.int c0), (.ref d)])) rfl rfl (hb hby d25_36)
  refine Rch.st st7 ?_
  have N7 := Fr.snoc X7 N4 zP6
  have ne8 := (Ne.symm (Exa.neArv zP1 zP5 (own_w hw 55 rfl)))
  have K9 := (Keep.refl h0 [sb, d]).wr W7 (Or.inl (List.mem_of_getElem? (i := 0) rfl))
  have Fw7 := zP4.same W7
  refine Rch.st (fun _ hr => XS.iloadN X7.here hx rfl (hb hby d25_39) rfl hr) ?_
  refine Rch.st (fun _ hr => XS.i2b X7.here hx rfl (hb hby d25_40) rfl hr) ?_
  show Rch p.tables e below _ (T7.setTop (mkF m 41 #[.val (.ref sb), .val (.int y)] [(.int (y.toInt8.toInt32)), (.int c0), (.ref d)]))
  rw [own_i2b ha]
  have f10 := (zP5.other W7 ne8)
  obtain ⟨cl11, Ar11, qk11, Sz11, Ng11, Ha11, Gf11⟩ := id f10
  have hin11 := inb_of (j := c0) Sz11 ⟨hcz, hcl⟩
  obtain ⟨T12, h12, X12, e12, W12, st12⟩ := stB X7 hx hZ e7 Ar11 (j := c0) hin11 (g := (mkF m 41 #[.val (.ref sb), .val (.int y)] [(.int y), (.int c0), (.ref d)])) rfl rfl (hb hby d25_41)
  rw [own_nar_byte ha] at W12
  refine Rch.st st12 ?_
  have N12 := Fr.snoc X12 N7 zP7
  have f13 := (zP0.wr W7 zP6)
  have K14 := K9.wr W12 (Or.inl (List.mem_of_getElem? (i := 1) rfl))
  have V12 : Arv Z h12 d kd .byte (32 : Int32) (vd.set (c0).toNatClampNeg (.int y)) (.int (0 : Int32)) := Arv.set Ar11 qk11 Sz11 Ng11 Ha11 Gf11 (own_fit_byte ha) W12 _ rfl (by rw [hln]; exact hft)
  refine Rch.st (fun _ hr => XS.goto X12.here hx rfl (pc0 := 42) (pc' := 75) rfl (hb hby d25_42) (by decide) (by decide) hr) ?_
  refine Rch.st (fun _ hr => XS.aloadN X12.here hx rfl (hb hby d25_75) rfl rfl hr) ?_
  obtain ⟨fs, hr, hrun, hended, hW, hsame⟩ := X12.leave (v := some (.ref sb)) (fun h => by rw [Bd.returns] at h; cases h)
  have f15 := (f13.wr W12 zP7)
  have f16 := ((zP1.wr W7).wr W12)
  have f17 := ((zP2.other W7 (Or.inr (slot_ne (Or.inl (own_w hw 81 rfl)) (Or.inl (own_w hw 99 rfl)) (by decide) (t := .byte) (t' := .int) (by decide) (by decide)))).other W12 (Or.inl (Ne.symm ne8)))
  have f18 := ((zP3.other W7 (Or.inr (slot_ne (Or.inl (own_w hw 83 rfl)) (Or.inl (own_w hw 99 rfl)) (by decide) (t := (.array .byte)) (t' := .int) (by decide) (by decide)))).other W12 (Or.inl (Ne.symm ne8)))
  have f19 := (Fw7.other W12 (Or.inl (Ne.symm ne8)))
  refine Rch.fin (u := T12.setFrames fs) (own_retA X12 hx Bd.returns rfl rfl rfl (hb hby d25_76) hr) ⟨_, hrun, hended, _, _, rfl, ?_, ⟨_, rfl⟩, hW, hsame.mono (by decide) (by decide)⟩
  show Q_cappCA Z sb d kd vd c0 y cs h0 n0 _ T12.heap _
  rw [e12]
  exact ⟨rfl, N12, K14, f15, f16, f17, f18, f19, V12⟩
theorem d24_0 : decode jdk_67_method_14_code 0 = .ok (.aload_n 0, 1) := by decide +kernel
theorem d24_1 : decode jdk_67_method_14_code 1 = .ok (.iload_n 1, 1) := by decide +kernel
theorem d24_2 : decode jdk_67_method_14_code 2 = .ok (.invokespecial 50, 3) := by decide +kernel
theorem pd_16 : parseMethodDescriptor "(C)Ljava/lang/AbstractStringBuilder;" = some ⟨[.char], some (.object "java/lang/AbstractStringBuilder")⟩ := by decide +kernel
abbrev Y_16 : MethodName := ⟨"java/lang/AbstractStringBuilder", "append", "(C)Ljava/lang/AbstractStringBuilder;"⟩
theorem d24_5 : decode jdk_67_method_14_code 5 = .ok (.pop, 1) := by decide +kernel
theorem d24_6 : decode jdk_67_method_14_code 6 = .ok (.aload_n 0, 1) := by decide +kernel
theorem d24_7 : decode jdk_67_method_14_code 7 = .ok (.areturn, 1) := by decide +kernel
def Q_cappC (Z : State) (sb : Addr) (d : Addr) (kd : ClassId) (vd : List Value) (c0 : Int32) (y : Int32) (cs : Int32) (h0 : Heap) (n0 : Nat) (v : Option Value) (h : Heap) (L : List Loc) : Prop := v = some (.ref sb) ∧ Fr n0 L ∧ Keep h0 h [sb, d] ∧ Old Z n0 h ∧ Exa Z h sb "java/lang/StringBuilder" ∧ Fld Z h sb "java/lang/AbstractStringBuilder" "coder" "B" (.int (0 : Int32)) ∧ Fld Z h sb "java/lang/AbstractStringBuilder" "value" "[B" (.ref d) ∧ Fld Z h sb "java/lang/AbstractStringBuilder" "count" "I" (.int (c0 + (1 : Int32))) ∧ Arv Z h d kd .byte (32 : Int32) (vd.set (c0).toNatClampNeg (.int y)) (.int (0 : Int32))
theorem ef_cappC (m : MethodId) (sb : Addr) (d : Addr) (kd : ClassId) (vd : List Value) (c0 : Int32) (y : Int32) (cs : Int32) : entryFrame m #[(.ref sb), (.int y)] 2 = mkF m 0 #[.val (.ref sb), .val (.int y)] [] := by first | (simp [entryFrame, mkF, argsToLocals, Value.category]; done) | rfl
set_option maxRecDepth 65536 in
set_option maxHeartbeats 40000000 in
theorem cappC (l : Launch) (Z : State) (a0 : Array Value) (hw : ∀ d ∈ tables_1, d.before a0 Z = true) (ws : List Jvm.Cond) (sb : Addr) (d : Addr) (kd : ClassId) (vd : List Value) (c0 : Int32) (y : Int32) (cs : Int32) (h0 : Heap) (n0 : Nat) (zD0 : Sta Z Z.heap "java/lang/String" "COMPACT_STRINGS" "Z" (.int cs)) (zP0 : Old Z n0 h0) (zP1 : Exa Z h0 sb "java/lang/StringBuilder") (zP2 : Fld Z h0 sb "java/lang/AbstractStringBuilder" "coder" "B" (.int (0 : Int32))) (zP3 : Fld Z h0 sb "java/lang/AbstractStringBuilder" "value" "[B" (.ref d)) (zP4 : Fld Z h0 sb "java/lang/AbstractStringBuilder" "count" "I" (.int c0)) (zP5 : Arv Z h0 d kd .byte (32 : Int32) vd (.int (0 : Int32))) (zP6 : n0 ≤ sb) (zP7 : n0 ≤ d) (hcs : ¬ cs = (0 : Int32)) (ha : own_A y) (hcz : ¬ c0 < (0 : Int32)) (hcl : c0 < (32 : Int32)) (hft : c0.toNatClampNeg < 32) (hln : vd.length = 32) (he : ¬ (0 : Int32) < ((c0 + (1 : Int32)) - ((32 : Int32) >>> ((0 : Int32) &&& 31)))) :
    MetFree l (⟨"java/lang/StringBuilder", "append", "(C)Ljava/lang/StringBuilder;"⟩ : MethodName) (head1 (Jvm.Cond.code (⟨"java/lang/StringBuilder", "append", "(C)Ljava/lang/StringBuilder;"⟩ : MethodName) jdk_67_method_14_code 2 (some (.object "java/lang/StringBuilder")) :: ws) ({ frames := 2, cells := 0, slots := 0, locals := 27 } : Room)) (fun aA uU => aA = #[(.ref sb), (.int y)] ∧ Z.Warmed39 uU.vm ∧ uU.heap = h0) (fun _ _ _ _ _ => True) (fun _ uU oO uU' => ∃ vV lL, oO = .returned vV ∧ Q_cappC Z sb d kd vd c0 y cs h0 n0 vV uU'.heap lL ∧ FrameEnd uU oO uU' lL ({ frames := 2, cells := 0, slots := 0, locals := 27 } : Room).cells ({ frames := 2, cells := 0, slots := 0, locals := 27 } : Room).slots) := by
  refine MetFree.of_bodySF (plainFor_of_name pn_java_lang_StringBuilder) hisR ?_
  intro p e s m args below meth c s₁ Bd hml0 hP hK
  obtain ⟨rfl, hZ, hh⟩ := hP
  have hx := Bd.exec
  have hby := Bd.bytes
  have hml : c.maxLocals = 2 := hml0
  have hown : s.vm.findClass "java/lang/StringBuilder" = some m.cls := findClass_of_methodNamed Bd.named
  have hnm := (name_of_methodNamed Bd.named Bd.method).1
  have X0 : Stand p l e ({ frames := 2, cells := 0, slots := 0, locals := 27 } : Room) s m #[(.ref sb), (.int y)] below meth c s₁ [] 0 0 := Stand.of_body Bd
  have e0 : s₁.heap = h0 := by rw [← hh, Bd.state]; rfl
  have N0 := Fr.nil n0
  refine Rch.out (Rch.st (fun t k => castTop (ef_cappC m sb d kd vd c0 y cs) k) ?_)
  show Rch p.tables e below _ (s₁.setTop (mkF m 0 #[.val (.ref sb), .val (.int y)] []))
  refine Rch.st (fun _ hr => XS.aloadN X0.here hx rfl (hb hby d24_0) rfl rfl hr) ?_
  refine Rch.st (fun _ hr => XS.iloadN X0.here hx rfl (hb hby d24_1) rfl hr) ?_
  obtain ⟨_, T1, Lc1, X1, hQ1, st1⟩ := own_callU X0 hx hZ (K := "java/lang/StringBuilder") (y := Y_16) hown (own_w hw 139 rfl) (own_same (own_w hw 141 rfl) (own_nf (y0 := (⟨"java/lang/AbstractStringBuilder", "ensureCapacityInternal", "(I)V"⟩ : MethodName)) (own_w hw 103 rfl) (own_w hw 101 rfl) rfl) (by decide)) (own_w hw 140 rfl) (own_w hw 96 rfl) (by decide) (own_w hw 65 rfl) (own_w hw 142 rfl) (W := 0) (cappCA l Z a0 hw [] sb d kd vd c0 y cs h0 n0 zD0 zP0 zP1 zP2 zP3 zP4 zP5 zP6 zP7 hcs ha hcz hcl hft hln he) (by decide) (by decide) e0 (Ins.self zP1) (by decide) (by decide) (g := (mkF m 2 #[.val (.ref sb), .val (.int y)] [(.int y), (.ref sb)])) rfl (by rw [hml]; rfl) (a := sb) (argsL := [(.int y)]) (rest := []) (lenOf pd_16 rfl) rfl (own_mr rfl rfl) (hb hby d24_2) rfl
  obtain ⟨rfl, N1q, Kp1, Op1, R1_0, R1_1, R1_2, R1_3, R1_4⟩ := hQ1
  have N1 := Fr.app N0 N1q
  refine Rch.st st1 ?_
  have ne2 := (Ne.symm (Exa.neArv zP1 zP5 (own_w hw 55 rfl)))
  have K3 := (Keep.refl h0 [sb, d]).trans Kp1 (allS (Or.inl (List.mem_of_getElem? (i := 0) rfl)) (allS (Or.inl (List.mem_of_getElem? (i := 1) rfl)) all0))
  refine Rch.st (fun _ hr => XS.pop X1.here hx rfl (hb hby d24_5) rfl rfl hr) ?_
  refine Rch.st (fun _ hr => XS.aloadN X1.here hx rfl (hb hby d24_6) rfl rfl hr) ?_
  obtain ⟨fs, hr, hrun, hended, hW, hsame⟩ := X1.leave (v := some (.ref sb)) (fun h => by rw [Bd.returns] at h; cases h)
  refine Rch.fin (u := T1.setFrames fs) (own_retA X1 hx Bd.returns rfl rfl rfl (hb hby d24_7) hr) ⟨_, hrun, hended, _, _, rfl, ?_, ⟨_, rfl⟩, hW, hsame.mono (by decide) (by decide)⟩
  show Q_cappC Z sb d kd vd c0 y cs h0 n0 _ T1.heap _
  exact ⟨rfl, N1, K3, Op1, R1_0, R1_1, R1_2, R1_3, R1_4⟩
theorem d13_0 : decode jdk_68_method_3_code 0 = .ok (.aload_n 0, 1) := by decide +kernel
theorem d13_1 : decode jdk_68_method_3_code 1 = .ok (.invokespecial 3, 3) := by decide +kernel
theorem d13_4 : decode jdk_68_method_3_code 4 = .ok (.aload_n 1, 1) := by decide +kernel
theorem d13_5 : decode jdk_68_method_3_code 5 = .ok (.invokevirtual 32, 3) := by decide +kernel
theorem d13_8 : decode jdk_68_method_3_code 8 = .ok (.istore_n 2, 1) := by decide +kernel
theorem d13_9 : decode jdk_68_method_3_code 9 = .ok (.iload_n 2, 1) := by decide +kernel
theorem d13_10 : decode jdk_68_method_3_code 10 = .ok (.ldc 38, 2) := by decide +kernel
theorem d13_12 : decode jdk_68_method_3_code 12 = .ok (.if_icmp .ge 10, 3) := by decide +kernel
theorem d13_15 : decode jdk_68_method_3_code 15 = .ok (.iload_n 2, 1) := by decide +kernel
theorem d13_16 : decode jdk_68_method_3_code 16 = .ok (.bipush 16, 2) := by decide +kernel
theorem d13_18 : decode jdk_68_method_3_code 18 = .ok (.iadd, 1) := by decide +kernel
theorem d13_19 : decode jdk_68_method_3_code 19 = .ok (.goto 5, 3) := by decide +kernel
theorem d13_24 : decode jdk_68_method_3_code 24 = .ok (.istore_n 3, 1) := by decide +kernel
theorem d13_25 : decode jdk_68_method_3_code 25 = .ok (.aload_n 1, 1) := by decide +kernel
theorem d13_26 : decode jdk_68_method_3_code 26 = .ok (.invokevirtual 40, 3) := by decide +kernel
theorem d13_29 : decode jdk_68_method_3_code 29 = .ok (.istore 4, 2) := by decide +kernel
theorem d13_31 : decode jdk_68_method_3_code 31 = .ok (.aload_n 0, 1) := by decide +kernel
theorem d13_32 : decode jdk_68_method_3_code 32 = .ok (.iload 4, 2) := by decide +kernel
theorem d13_34 : decode jdk_68_method_3_code 34 = .ok (.putfield 22, 3) := by decide +kernel
theorem d13_37 : decode jdk_68_method_3_code 37 = .ok (.aload_n 0, 1) := by decide +kernel
theorem d13_38 : decode jdk_68_method_3_code 38 = .ok (.iload 4, 2) := by decide +kernel
theorem d13_40 : decode jdk_68_method_3_code 40 = .ok (.ifCond .ne 9, 3) := by decide +kernel
theorem d13_43 : decode jdk_68_method_3_code 43 = .ok (.iload_n 3, 1) := by decide +kernel
theorem d13_44 : decode jdk_68_method_3_code 44 = .ok (.newarray .byte, 2) := by decide +kernel
theorem d13_46 : decode jdk_68_method_3_code 46 = .ok (.goto 7, 3) := by decide +kernel
theorem d13_53 : decode jdk_68_method_3_code 53 = .ok (.putfield 15, 3) := by decide +kernel
theorem d13_56 : decode jdk_68_method_3_code 56 = .ok (.aload_n 0, 1) := by decide +kernel
theorem d13_57 : decode jdk_68_method_3_code 57 = .ok (.aload_n 1, 1) := by decide +kernel
theorem d13_58 : decode jdk_68_method_3_code 58 = .ok (.invokevirtual 43, 3) := by decide +kernel
abbrev Y_17 : MethodName := ⟨"java/lang/StringBuilder", "append", "(Ljava/lang/String;)Ljava/lang/AbstractStringBuilder;"⟩
theorem d13_61 : decode jdk_68_method_3_code 61 = .ok (.pop, 1) := by decide +kernel
theorem d13_62 : decode jdk_68_method_3_code 62 = .ok (.return_, 1) := by decide +kernel
def Q_casb (Z : State) (sb : Addr) (a : Addr) (bx : Addr) (kb : ClassId) (vs : List Value) (cs : Int32) (h0 : Heap) (n0 : Nat) (v : Option Value) (h : Heap) (L : List Loc) : Prop := ∃ (d : Addr) (kd : ClassId), v = none ∧ Fr n0 L ∧ Keep h0 h [sb] ∧ Old Z n0 h ∧ Exa Z h sb "java/lang/StringBuilder" ∧ Fld Z h sb "java/lang/AbstractStringBuilder" "coder" "B" (.int (0 : Int32)) ∧ Fld Z h sb "java/lang/AbstractStringBuilder" "value" "[B" (.ref d) ∧ Fld Z h sb "java/lang/AbstractStringBuilder" "count" "I" (.int (16 : Int32)) ∧ h0.size ≤ d ∧ Arv Z h d kd .byte (32 : Int32) (own_cp vs (List.replicate 32 (.int (0 : Int32))) (0 : Int32).toNatClampNeg (16 : Int32).toNatClampNeg) (.int (0 : Int32)) ∧ sb ≠ d
theorem ef_casb (m : MethodId) (sb : Addr) (a : Addr) (bx : Addr) (kb : ClassId) (vs : List Value) (cs : Int32) : entryFrame m #[(.ref sb), (.ref a)] 5 = mkF m 0 #[.val (.ref sb), .val (.ref a), .unset, .unset, .unset] [] := by first | (simp [entryFrame, mkF, argsToLocals, Value.category]; done) | rfl
set_option maxRecDepth 65536 in
set_option maxHeartbeats 40000000 in
theorem casb (l : Launch) (Z : State) (a0 : Array Value) (hw : ∀ d ∈ tables_1, d.before a0 Z = true) (ws : List Jvm.Cond) (sb : Addr) (a : Addr) (bx : Addr) (kb : ClassId) (vs : List Value) (cs : Int32) (h0 : Heap) (n0 : Nat) (zD0 : Sta Z Z.heap "java/lang/String" "COMPACT_STRINGS" "Z" (.int cs)) (zP0 : Old Z n0 h0) (zP1 : Exa Z h0 sb "java/lang/StringBuilder") (zP2 : Fld Z h0 sb "java/lang/AbstractStringBuilder" "coder" "B" (.int (0 : Int32))) (zP3 : Fld Z h0 sb "java/lang/AbstractStringBuilder" "value" "[B" .null) (zP4 : Fld Z h0 sb "java/lang/AbstractStringBuilder" "count" "I" (.int (0 : Int32))) (zP5 : n0 ≤ sb) (zP6 : Exa Z h0 a "java/lang/String") (zP7 : Fld Z h0 a "java/lang/String" "coder" "B" (.int (0 : Int32))) (zP8 : Fld Z h0 a "java/lang/String" "value" "[B" (.ref bx)) (zP9 : Arv Z h0 bx kb .byte (16 : Int32) vs (.int (0 : Int32))) (hcs : ¬ cs = (0 : Int32)) :
    MetFree l (⟨"java/lang/AbstractStringBuilder", "<init>", "(Ljava/lang/String;)V"⟩ : MethodName) (head1 (Jvm.Cond.code (⟨"java/lang/AbstractStringBuilder", "<init>", "(Ljava/lang/String;)V"⟩ : MethodName) jdk_68_method_3_code 5 none :: ws) ({ frames := 6, cells := 1, slots := 32, locals := 109 } : Room)) (fun aA uU => aA = #[(.ref sb), (.ref a)] ∧ Z.Warmed39 uU.vm ∧ uU.heap = h0) (fun _ _ _ _ _ => True) (fun _ uU oO uU' => ∃ vV lL, oO = .returned vV ∧ Q_casb Z sb a bx kb vs cs h0 n0 vV uU'.heap lL ∧ FrameEnd uU oO uU' lL ({ frames := 6, cells := 1, slots := 32, locals := 109 } : Room).cells ({ frames := 6, cells := 1, slots := 32, locals := 109 } : Room).slots) := by
  refine MetFree.of_bodySF (plainFor_of_name pn_java_lang_AbstractStringBuilder) hisR ?_
  intro p e s m args below meth c s₁ Bd hml0 hP hK
  obtain ⟨rfl, hZ, hh⟩ := hP
  have hx := Bd.exec
  have hby := Bd.bytes
  have hml : c.maxLocals = 5 := hml0
  have hown : s.vm.findClass "java/lang/AbstractStringBuilder" = some m.cls := findClass_of_methodNamed Bd.named
  have hnm := (name_of_methodNamed Bd.named Bd.method).1
  have X0 : Stand p l e ({ frames := 6, cells := 1, slots := 32, locals := 109 } : Room) s m #[(.ref sb), (.ref a)] below meth c s₁ [] 0 0 := Stand.of_body Bd
  have e0 : s₁.heap = h0 := by rw [← hh, Bd.state]; rfl
  have N0 := Fr.nil n0
  refine Rch.out (Rch.st (fun t k => castTop (ef_casb m sb a bx kb vs cs) k) ?_)
  show Rch p.tables e below _ (s₁.setTop (mkF m 0 #[.val (.ref sb), .val (.ref a), .unset, .unset, .unset] []))
  refine Rch.st (fun _ hr => XS.aloadN X0.here hx rfl (hb hby d13_0) rfl rfl hr) ?_
  obtain ⟨T1, X1, e1, st1⟩ := initO X0 hx hZ hown (own_w hw 67 rfl) (own_w hw 12 rfl) (own_w hw 13 rfl) e0 (g := (mkF m 1 #[.val (.ref sb), .val (.ref a), .unset, .unset, .unset] [(.ref sb)])) rfl (by rw [hml]; rfl) rfl (hb hby d13_1) (by decide) (W := 0) (own_mr rfl rfl) (by decide)
  refine Rch.st st1 ?_
  refine Rch.st (fun _ hr => XS.aloadN X1.here hx rfl (hb hby d13_4) rfl rfl hr) ?_
  obtain ⟨_, T2, Lc2, X2, hQ2, st2⟩ := own_callV X1 hx hZ (y := Y_10) (z := Y_10) hown (own_w hw 68 rfl) (own_w hw 69 rfl) (notFace_of_selects (args := #[]) (mvT hZ (own_w hw 71 rfl))) (own_w hw 71 rfl) (own_w hw 70 rfl) (own_w hw 2 rfl) (own_w hw 72 rfl) (by decide) (W := 0) (clen l Z a0 hw [] a bx kb (16 : Int32) vs cs h0 n0 zD0 zP0 zP6 zP7 zP8 zP9 hcs) (by decide) (by decide) e1 zP6 (by decide) (by decide) (g := (mkF m 5 #[.val (.ref sb), .val (.ref a), .unset, .unset, .unset] [(.ref a)])) rfl (by rw [hml]; rfl) (argsL := []) (rest := []) (lenOf pd_10 rfl) rfl (own_mr rfl rfl) (hb hby d13_5) rfl
  obtain ⟨rfl, N2q, e2⟩ := hQ2
  have N2 := Fr.app N0 N2q
  refine Rch.st st2 ?_
  refine Rch.st (fun _ hr => XS.istoreN X2.here hx rfl (hb hby d13_8) rfl (l' := #[.val (.ref sb), .val (.ref a), .val (.int (16 : Int32)), .unset, .unset]) rfl hr) ?_
  refine Rch.st (fun _ hr => XS.iloadN X2.here hx rfl (hb hby d13_9) rfl hr) ?_
  refine Rch.st (fun _ hr => Jvm.Stand.ldcI (g := (mkF m 10 #[.val (.ref sb), .val (.ref a), .val (.int (16 : Int32)), .unset, .unset] [(.int (16 : Int32))])) X2 hx hown (mvT hZ (own_w hw 78 rfl)) rfl (hb hby d13_10) hr) ?_
  refine Rch.st (fun _ hr => XS.icmpNo X2.here hx rfl (hb hby d13_12) rfl (tlt (by decide : (16 : Int32) < (2147483631 : Int32))).2.1 hr) ?_
  show Rch p.tables e below _ (T2.setTop (mkF m 15 #[.val (.ref sb), .val (.ref a), .val (.int (16 : Int32)), .unset, .unset] []))
  refine Rch.st (fun _ hr => XS.iloadN X2.here hx rfl (hb hby d13_15) rfl hr) ?_
  refine Rch.st (fun _ hr => XS.bipush X2.here hx rfl (hb hby d13_16) hr) ?_
  refine Rch.st (fun _ hr => XS.iadd X2.here hx rfl (hb hby d13_18) rfl hr) ?_
  refine Rch.st (fun _ hr => XS.goto X2.here hx rfl (pc0 := 19) (pc' := 24) rfl (hb hby d13_19) (by decide) (by decide) hr) ?_
  refine Rch.st (fun _ hr => XS.istoreN X2.here hx rfl (hb hby d13_24) rfl (l' := #[.val (.ref sb), .val (.ref a), .val (.int (16 : Int32)), .val (.int (32 : Int32)), .unset]) rfl hr) ?_
  refine Rch.st (fun _ hr => XS.aloadN X2.here hx rfl (hb hby d13_25) rfl rfl hr) ?_
  obtain ⟨_, T3, Lc3, X3, hQ3, st3⟩ := own_callV X2 hx hZ (y := Y_7) (z := Y_7) hown (own_w hw 79 rfl) (own_w hw 74 rfl) (notFace_of_selects (args := #[]) (mvT hZ (own_w hw 76 rfl))) (own_w hw 76 rfl) (own_w hw 75 rfl) (own_w hw 2 rfl) (own_w hw 77 rfl) (by decide) (W := 0) (ccoder l Z a0 hw [] a cs h0 n0 zD0 zP0 zP7 hcs) (by decide) (by decide) e2 zP6 (by decide) (by decide) (g := (mkF m 26 #[.val (.ref sb), .val (.ref a), .val (.int (16 : Int32)), .val (.int (32 : Int32)), .unset] [(.ref a)])) rfl (by rw [hml]; rfl) (argsL := []) (rest := []) (lenOf pd_7 rfl) rfl (own_mr rfl rfl) (hb hby d13_26) rfl
  obtain ⟨rfl, N3q, e3⟩ := hQ3
  have N3 := Fr.app N2 N3q
  refine Rch.st st3 ?_
  refine Rch.st (fun _ hr => XS.istore X3.here hx rfl (hb hby d13_29) rfl (l' := #[.val (.ref sb), .val (.ref a), .val (.int (16 : Int32)), .val (.int (32 : Int32)), .val (.int (0 : Int32))]) rfl hr) ?_
  show Rch p.tables e below _ (T3.setTop (mkF m 31 #[.val (.ref sb), .val (.ref a), .val (.int (16 : Int32)), .val (.int (32 : Int32)), .val (.int (0 : Int32))] []))
  refine Rch.st (fun _ hr => XS.aloadN X3.here hx rfl (hb hby d13_31) rfl rfl hr) ?_
  refine Rch.st (fun _ hr => XS.iload X3.here hx rfl (hb hby d13_32) rfl hr) ?_
  obtain ⟨T4, h4, X4, e4, W4, st4⟩ := putFN X3 hx hZ hown (own_w hw 80 rfl) Via.refl e3 zP2 zP1 (Or.inl (own_w hw 81 rfl)) (own_w hw 55 rfl) (ty := .byte) (v' := .int (nar .byte (0 : Int32))) (by decide) rfl (fits_nar_byte _) (g := (mkF m 34 #[.val (.ref sb), .val (.ref a), .val (.int (16 : Int32)), .val (.int (32 : Int32)), .val (.int (0 : Int32))] [(.int (0 : Int32)), (.ref sb)])) rfl rfl (hb hby d13_34)
  refine Rch.st st4 ?_
  have N4 := Fr.snoc X4 N3 zP5
  have ne5 := (Exa.ne zP6 zP1 (by decide))
  have ne6 := (Ne.symm (Exa.neArv zP1 zP9 (own_w hw 55 rfl)))
  have K7 := (Keep.refl h0 [sb]).wr W4 (Or.inl (List.mem_of_getElem? (i := 0) rfl))
  have Fw4 : Fld Z h4 sb "java/lang/AbstractStringBuilder" "coder" "B" (.int (0 : Int32)) := zP2.same W4
  refine Rch.st (fun _ hr => XS.aloadN X4.here hx rfl (hb hby d13_37) rfl rfl hr) ?_
  refine Rch.st (fun _ hr => XS.iload X4.here hx rfl (hb hby d13_38) rfl hr) ?_
  refine Rch.st (fun _ hr => XS.ifNo X4.here hx rfl (hb hby d13_40) rfl ((if0 _ _).trans (teq (by decide : (0 : Int32) = (0 : Int32))).2) hr) ?_
  refine Rch.st (fun _ hr => XS.iloadN X4.here hx rfl (hb hby d13_43) rfl hr) ?_
  obtain ⟨T8, h8, k8, X8, e8, E8, A8, st8⟩ := newP X4 hx hZ (own_w hw 15 rfl) e4 (g := (mkF m 44 #[.val (.ref sb), .val (.ref a), .val (.int (16 : Int32)), .val (.int (32 : Int32)), .val (.int (0 : Int32))] [(.int (32 : Int32)), (.ref sb)])) rfl (hb hby d13_44) rfl (by decide) (cap := 32) (by decide) (by decide) (by decide) (by decide)
  obtain ⟨b8, g8⟩ : ∃ z, z = h4.size := ⟨_, rfl⟩
  rw [← g8] at A8 st8
  refine Rch.st st8 ?_
  have q8 : h4.size ≤ b8 := Nat.le_of_eq g8.symm
  have f9 := (zP4.other W4 (Or.inr (slot_ne (Or.inl (own_w hw 99 rfl)) (Or.inl (own_w hw 81 rfl)) (by decide) (t := .int) (t' := .byte) (by decide) (by decide))))
  have ne10 := Nat.ne_of_lt (Nat.lt_of_lt_of_le f9.lt q8)
  have f11 := (zP8.other W4 (Or.inl ne5))
  have ne12 := Nat.ne_of_lt (Nat.lt_of_lt_of_le f11.lt q8)
  have f13 := (zP9.other W4 ne6)
  have ne14 := Nat.ne_of_lt (Nat.lt_of_lt_of_le f13.lt q8)
  have f15 := (zP0.wr W4 zP5)
  have g_b8 : n0 ≤ b8 := Nat.le_trans (Nat.le_trans (Nat.le_of_eq f15.1.symm) f15.2.1) q8
  have sz_b8 : h0.size ≤ b8 := Nat.le_trans K7.1 q8
  have K16 := K7.ext E8
  have V8 : Arv Z h8 b8 k8 .byte (32 : Int32) [(.int (0 : Int32)), (.int (0 : Int32)), (.int (0 : Int32)), (.int (0 : Int32)), (.int (0 : Int32)), (.int (0 : Int32)), (.int (0 : Int32)), (.int (0 : Int32)), (.int (0 : Int32)), (.int (0 : Int32)), (.int (0 : Int32)), (.int (0 : Int32)), (.int (0 : Int32)), (.int (0 : Int32)), (.int (0 : Int32)), (.int (0 : Int32)), (.int (0 : Int32)), (.int (0 : Int32)), (.int (0 : Int32)), (.int (0 : Int32)), (.int (0 : Int32)), (.int (0 : Int32)), (.int (0 : Int32)), (.int (0 : Int32)), (.int (0 : Int32)), (.int (0 : Int32)), (.int (0 : Int32)), (.int (0 : Int32)), (.int (0 : Int32)), (.int (0 : Int32)), (.int (0 : Int32)), (.int (0 : Int32))] (.int (0 : Int32)) := (Arv.new A8 (by decide)).pad (pad_rep [] (.int (0 : Int32)) 32)
  show Rch p.tables e below _ (T8.setTop (mkF m 46 #[.val (.ref sb), .val (.ref a), .val (.int (16 : Int32)), .val (.int (32 : Int32)), .val (.int (0 : Int32))] [(.ref b8), (.ref sb)]))
  refine Rch.st (fun _ hr => XS.goto X8.here hx rfl (pc0 := 46) (pc' := 53) rfl (hb hby d13_46) (by decide) (by decide) hr) ?_
  have f17 := ((zP3.other W4 (Or.inr (slot_ne (Or.inl (own_w hw 83 rfl)) (Or.inl (own_w hw 81 rfl)) (by decide) (t := (.array .byte)) (t' := .byte) (by decide) (by decide)))).ext E8)
  have f18 := ((zP1.wr W4).ext E8)
  obtain ⟨T19, h19, X19, e19, W19, st19⟩ := putF X8 hx hZ hown (host := "") (Or.inl (own_w hw 82 rfl)) Via.refl e8 f17 f18 (Or.inl (own_w hw 83 rfl)) (own_w hw 55 rfl) (ty := (.array .byte)) (by decide) rfl rfl (g := (mkF m 53 #[.val (.ref sb), .val (.ref a), .val (.int (16 : Int32)), .val (.int (32 : Int32)), .val (.int (0 : Int32))] [(.ref b8), (.ref sb)])) rfl rfl (hb hby d13_53)
  refine Rch.st st19 ?_
  have N19 := Fr.snoc X19 N4 zP5
  have f20 := (f15.ext E8)
  have K21 := K16.wr W19 (Or.inl (List.mem_of_getElem? (i := 0) rfl))
  have Fw19 := f17.same W19
  refine Rch.st (fun _ hr => XS.aloadN X19.here hx rfl (hb hby d13_56) rfl rfl hr) ?_
  refine Rch.st (fun _ hr => XS.aloadN X19.here hx rfl (hb hby d13_57) rfl rfl hr) ?_
  have f23 := (f18.wr W19)
  have f24 := (f20.wr W19 zP5)
  have f25 := ((Fw4.ext E8).other W19 (Or.inr (slot_ne (Or.inl (own_w hw 81 rfl)) (Or.inl (own_w hw 83 rfl)) (by decide) (t := .byte) (t' := (.array .byte)) (by decide) (by decide))))
  have f26 := ((f9.ext E8).other W19 (Or.inr (slot_ne (Or.inl (own_w hw 99 rfl)) (Or.inl (own_w hw 83 rfl)) (by decide) (t := .int) (t' := (.array .byte)) (by decide) (by decide))))
  have f27 := (V8.other W19 (Ne.symm ne10))
  have f28 := (((zP6.wr W4).ext E8).wr W19)
  have f29 := (((zP7.other W4 (Or.inl ne5)).ext E8).other W19 (Or.inl ne5))
  have f30 := ((f11.ext E8).other W19 (Or.inl ne5))
  have f31 := ((f13.ext E8).other W19 ne6)
  obtain ⟨_, T22, Lc22, X22, hQ22, st22⟩ := own_callV X19 hx hZ (y := Y_13) (z := Y_17) hown (own_w hw 84 rfl) (own_w hw 85 rfl) (own_nf (y0 := (⟨"java/lang/AbstractStringBuilder", "ensureCapacityInternal", "(I)V"⟩ : MethodName)) (mvT hZ (args := #[]) (own_w hw 103 rfl)) (mvT hZ (args := #[]) (own_w hw 101 rfl)) rfl) (own_w hw 87 rfl) (own_w hw 88 rfl) (own_w hw 56 rfl) (own_w hw 89 rfl) (by decide) (W := 0) (cappB l Z a0 hw [] sb b8 k8 [(.int (0 : Int32)), (.int (0 : Int32)), (.int (0 : Int32)), (.int (0 : Int32)), (.int (0 : Int32)), (.int (0 : Int32)), (.int (0 : Int32)), (.int (0 : Int32)), (.int (0 : Int32)), (.int (0 : Int32)), (.int (0 : Int32)), (.int (0 : Int32)), (.int (0 : Int32)), (.int (0 : Int32)), (.int (0 : Int32)), (.int (0 : Int32)), (.int (0 : Int32)), (.int (0 : Int32)), (.int (0 : Int32)), (.int (0 : Int32)), (.int (0 : Int32)), (.int (0 : Int32)), (.int (0 : Int32)), (.int (0 : Int32)), (.int (0 : Int32)), (.int (0 : Int32)), (.int (0 : Int32)), (.int (0 : Int32)), (.int (0 : Int32)), (.int (0 : Int32)), (.int (0 : Int32)), (.int (0 : Int32))] (0 : Int32) a bx kb (16 : Int32) vs cs h19 n0 zD0 f24 f23 f25 Fw19 f26 f27 f28 f29 f30 f31 zP5 g_b8 hcs (by decide) (by decide) (by decide) rfl (by decide)) (by decide) (by decide) e19 f23 (by decide) (by decide) (g := (mkF m 58 #[.val (.ref sb), .val (.ref a), .val (.int (16 : Int32)), .val (.int (32 : Int32)), .val (.int (0 : Int32))] [(.ref a), (.ref sb)])) rfl (by rw [hml]; rfl) (argsL := [(.ref a)]) (rest := []) (lenOf pd_13 rfl) rfl (own_mr rfl rfl) (hb hby d13_58) rfl
  obtain ⟨rfl, N22q, Kp22, Op22, R22_0, R22_1, R22_2, R22_3, R22_4⟩ := hQ22
  have N22 := Fr.app N19 N22q
  refine Rch.st st22 ?_
  have K32 := K21.trans Kp22 (allS (Or.inl (List.mem_of_getElem? (i := 0) rfl)) (allS (Or.inr sz_b8) all0))
  have Fk22 : Fld Z T22.heap sb "java/lang/AbstractStringBuilder" "count" "I" (.int (16 : Int32)) := R22_3
  refine Rch.st (fun _ hr => XS.pop X22.here hx rfl (hb hby d13_61) rfl rfl hr) ?_
  obtain ⟨fs, hr, hrun, hended, hW, hsame⟩ := X22.leave (v := none) (fun _ => rfl)
  refine Rch.fin (u := T22.setFrames fs) (X22.returnOut hx Bd.returns (hb hby d13_62) hr) ⟨_, hrun, hended, _, _, rfl, ?_, ⟨_, rfl⟩, hW, hsame.mono (by decide) (by decide)⟩
  show Q_casb Z sb a bx kb vs cs h0 n0 _ T22.heap _
  exact ⟨b8, k8, rfl, N22, K32, Op22, R22_0, R22_1, R22_2, Fk22, sz_b8, R22_4, ne10⟩
theorem d12_0 : decode jdk_67_method_3_code 0 = .ok (.aload_n 0, 1) := by decide +kernel
theorem d12_1 : decode jdk_67_method_3_code 1 = .ok (.aload_n 1, 1) := by decide +kernel
theorem d12_2 : decode jdk_67_method_3_code 2 = .ok (.invokespecial 7, 3) := by decide +kernel
abbrev Y_18 : MethodName := ⟨"java/lang/AbstractStringBuilder", "<init>", "(Ljava/lang/String;)V"⟩
theorem d12_5 : decode jdk_67_method_3_code 5 = .ok (.return_, 1) := by decide +kernel
def Q_csb (Z : State) (sb : Addr) (a : Addr) (bx : Addr) (kb : ClassId) (vs : List Value) (cs : Int32) (h0 : Heap) (n0 : Nat) (v : Option Value) (h : Heap) (L : List Loc) : Prop := ∃ (d : Addr) (kd : ClassId), v = none ∧ Fr n0 L ∧ Keep h0 h [sb] ∧ Old Z n0 h ∧ Exa Z h sb "java/lang/StringBuilder" ∧ Fld Z h sb "java/lang/AbstractStringBuilder" "coder" "B" (.int (0 : Int32)) ∧ Fld Z h sb "java/lang/AbstractStringBuilder" "value" "[B" (.ref d) ∧ Fld Z h sb "java/lang/AbstractStringBuilder" "count" "I" (.int (16 : Int32)) ∧ h0.size ≤ d ∧ Arv Z h d kd .byte (32 : Int32) (own_cp vs (List.replicate 32 (.int (0 : Int32))) (0 : Int32).toNatClampNeg (16 : Int32).toNatClampNeg) (.int (0 : Int32)) ∧ sb ≠ d
theorem ef_csb (m : MethodId) (sb : Addr) (a : Addr) (bx : Addr) (kb : ClassId) (vs : List Value) (cs : Int32) : entryFrame m #[(.ref sb), (.ref a)] 2 = mkF m 0 #[.val (.ref sb), .val (.ref a)] [] := by first | (simp [entryFrame, mkF, argsToLocals, Value.category]; done) | rfl
set_option maxRecDepth 65536 in
set_option maxHeartbeats 40000000 in
theorem csb (l : Launch) (Z : State) (a0 : Array Value) (hw : ∀ d ∈ tables_1, d.before a0 Z = true) (ws : List Jvm.Cond) (sb : Addr) (a : Addr) (bx : Addr) (kb : ClassId) (vs : List Value) (cs : Int32) (h0 : Heap) (n0 : Nat) (zD0 : Sta Z Z.heap "java/lang/String" "COMPACT_STRINGS" "Z" (.int cs)) (zP0 : Old Z n0 h0) (zP1 : Exa Z h0 sb "java/lang/StringBuilder") (zP2 : Fld Z h0 sb "java/lang/AbstractStringBuilder" "coder" "B" (.int (0 : Int32))) (zP3 : Fld Z h0 sb "java/lang/AbstractStringBuilder" "value" "[B" .null) (zP4 : Fld Z h0 sb "java/lang/AbstractStringBuilder" "count" "I" (.int (0 : Int32))) (zP5 : n0 ≤ sb) (zP6 : Exa Z h0 a "java/lang/String") (zP7 : Fld Z h0 a "java/lang/String" "coder" "B" (.int (0 : Int32))) (zP8 : Fld Z h0 a "java/lang/String" "value" "[B" (.ref bx)) (zP9 : Arv Z h0 bx kb .byte (16 : Int32) vs (.int (0 : Int32))) (hcs : ¬ cs = (0 : Int32)) :
    MetFree l (⟨"java/lang/StringBuilder", "<init>", "(Ljava/lang/String;)V"⟩ : MethodName) (head1 (Jvm.Cond.code (⟨"java/lang/StringBuilder", "<init>", "(Ljava/lang/String;)V"⟩ : MethodName) jdk_67_method_3_code 2 none :: ws) ({ frames := 7, cells := 1, slots := 32, locals := 125 } : Room)) (fun aA uU => aA = #[(.ref sb), (.ref a)] ∧ Z.Warmed39 uU.vm ∧ uU.heap = h0) (fun _ _ _ _ _ => True) (fun _ uU oO uU' => ∃ vV lL, oO = .returned vV ∧ Q_csb Z sb a bx kb vs cs h0 n0 vV uU'.heap lL ∧ FrameEnd uU oO uU' lL ({ frames := 7, cells := 1, slots := 32, locals := 125 } : Room).cells ({ frames := 7, cells := 1, slots := 32, locals := 125 } : Room).slots) := by
  refine MetFree.of_bodySF (plainFor_of_name pn_java_lang_StringBuilder) hisR ?_
  intro p e s m args below meth c s₁ Bd hml0 hP hK
  obtain ⟨rfl, hZ, hh⟩ := hP
  have hx := Bd.exec
  have hby := Bd.bytes
  have hml : c.maxLocals = 2 := hml0
  have hown : s.vm.findClass "java/lang/StringBuilder" = some m.cls := findClass_of_methodNamed Bd.named
  have hnm := (name_of_methodNamed Bd.named Bd.method).1
  have X0 : Stand p l e ({ frames := 7, cells := 1, slots := 32, locals := 125 } : Room) s m #[(.ref sb), (.ref a)] below meth c s₁ [] 0 0 := Stand.of_body Bd
  have e0 : s₁.heap = h0 := by rw [← hh, Bd.state]; rfl
  have N0 := Fr.nil n0
  refine Rch.out (Rch.st (fun t k => castTop (ef_csb m sb a bx kb vs cs) k) ?_)
  show Rch p.tables e below _ (s₁.setTop (mkF m 0 #[.val (.ref sb), .val (.ref a)] []))
  refine Rch.st (fun _ hr => XS.aloadN X0.here hx rfl (hb hby d12_0) rfl rfl hr) ?_
  refine Rch.st (fun _ hr => XS.aloadN X0.here hx rfl (hb hby d12_1) rfl rfl hr) ?_
  obtain ⟨_, T1, Lc1, X1, hQ1, st1⟩ := own_callI X0 hx hZ (y := Y_18) rfl hown (own_w hw 61 rfl) (own_w hw 62 rfl) (own_w hw 65 rfl) (own_w hw 66 rfl) (by decide) (W := 0) (casb l Z a0 hw [] sb a bx kb vs cs h0 n0 zD0 zP0 zP1 zP2 zP3 zP4 zP5 zP6 zP7 zP8 zP9 hcs) (by decide) (by decide) e0 (by decide) (by decide) (g := (mkF m 2 #[.val (.ref sb), .val (.ref a)] [(.ref a), (.ref sb)])) rfl (by rw [hml]; rfl) (a := sb) (argsL := [(.ref a)]) (rest := []) (lenOf pd_8 rfl) rfl (own_mr rfl rfl) (hb hby d12_2) rfl
  obtain ⟨d_1, kd_1, rfl, N1q, Kp1, Op1, R1_0, R1_1, R1_2, R1_3, R1_4, R1_5, R1_6⟩ := hQ1
  have N1 := Fr.app N0 N1q
  refine Rch.st st1 ?_
  have ne2 := Nat.ne_of_lt (Nat.lt_of_lt_of_le zP4.lt R1_4)
  have ne3 := Nat.ne_of_lt (Nat.lt_of_lt_of_le zP8.lt R1_4)
  have ne4 := Nat.ne_of_lt (Nat.lt_of_lt_of_le zP9.lt R1_4)
  have g_d_1 : n0 ≤ d_1 := Nat.le_trans (Nat.le_trans (Nat.le_of_eq zP0.1.symm) zP0.2.1) R1_4
  have sz_d_1 : h0.size ≤ d_1 := Nat.le_trans (Keep.refl h0 [sb]).1 R1_4
  have ne5 := (Exa.ne zP6 zP1 (by decide))
  have ne6 := (Ne.symm (Exa.neArv zP1 zP9 (own_w hw 55 rfl)))
  have K7 := (Keep.refl h0 [sb]).trans Kp1 (allS (Or.inl (List.mem_of_getElem? (i := 0) rfl)) all0)
  obtain ⟨fs, hr, hrun, hended, hW, hsame⟩ := X1.leave (v := none) (fun _ => rfl)
  refine Rch.fin (u := T1.setFrames fs) (X1.returnOut hx Bd.returns (hb hby d12_5) hr) ⟨_, hrun, hended, _, _, rfl, ?_, ⟨_, rfl⟩, hW, hsame.mono (by decide) (by decide)⟩
  show Q_csb Z sb a bx kb vs cs h0 n0 _ T1.heap _
  exact ⟨d_1, kd_1, rfl, N1, K7, Op1, R1_0, R1_1, R1_2, R1_3, sz_d_1, R1_5, R1_6⟩
theorem d11_0 : decode prog_17_method_1_code 0 = .ok (.aload_n 0, 1) := by decide +kernel
theorem d11_1 : decode prog_17_method_1_code 1 = .ok (.invokespecial 1, 3) := by decide +kernel
theorem d11_4 : decode prog_17_method_1_code 4 = .ok (.aload_n 0, 1) := by decide +kernel
theorem d11_5 : decode prog_17_method_1_code 5 = .ok (.new 7, 3) := by decide +kernel
theorem d11_8 : decode prog_17_method_1_code 8 = .ok (.dup, 1) := by decide +kernel
theorem d11_9 : decode prog_17_method_1_code 9 = .ok (.ldc 9, 2) := by decide +kernel
theorem d11_11 : decode prog_17_method_1_code 11 = .ok (.invokespecial 11, 3) := by decide +kernel
abbrev Y_19 : MethodName := ⟨"java/lang/StringBuilder", "<init>", "(Ljava/lang/String;)V"⟩
theorem d11_14 : decode prog_17_method_1_code 14 = .ok (.putfield 14, 3) := by decide +kernel
theorem d11_17 : decode prog_17_method_1_code 17 = .ok (.return_, 1) := by decide +kernel
def Q_chtml (Z : State) (hm : Addr) (cs : Int32) (h0 : Heap) (n0 : Nat) (v : Option Value) (h : Heap) (L : List Loc) (vm : Vm) : Prop := ∃ (sb : Addr) (d : Addr) (kd : ClassId), v = none ∧ Fr n0 L ∧ Keep h0 h [hm] ∧ Old Z n0 h ∧ Exa Z h hm "com/example/orrery/orrery/server/Html" ∧ Fld Z h hm "com/example/orrery/orrery/server/Html" "out" "Ljava/lang/StringBuilder;" (.ref sb) ∧ h0.size ≤ sb ∧ Exa Z h sb "java/lang/StringBuilder" ∧ Fld Z h sb "java/lang/AbstractStringBuilder" "coder" "B" (.int (0 : Int32)) ∧ Fld Z h sb "java/lang/AbstractStringBuilder" "value" "[B" (.ref d) ∧ Fld Z h sb "java/lang/AbstractStringBuilder" "count" "I" (.int (16 : Int32)) ∧ h0.size ≤ d ∧ Arv Z h d kd .byte (32 : Int32) [(.int (60 : Int32)), (.int (33 : Int32)), (.int (68 : Int32)), (.int (79 : Int32)), (.int (67 : Int32)), (.int (84 : Int32)), (.int (89 : Int32)), (.int (80 : Int32)), (.int (69 : Int32)), (.int (32 : Int32)), (.int (104 : Int32)), (.int (116 : Int32)), (.int (109 : Int32)), (.int (108 : Int32)), (.int (62 : Int32)), (.int (10 : Int32)), (.int (0 : Int32)), (.int (0 : Int32)), (.int (0 : Int32)), (.int (0 : Int32)), (.int (0 : Int32)), (.int (0 : Int32)), (.int (0 : Int32)), (.int (0 : Int32)), (.int (0 : Int32)), (.int (0 : Int32)), (.int (0 : Int32)), (.int (0 : Int32)), (.int (0 : Int32)), (.int (0 : Int32)), (.int (0 : Int32)), (.int (0 : Int32))] (.int (0 : Int32)) ∧ Safe Z consts_1 vm h d ∧ sb ≠ d
theorem pn_com_example_orrery_orrery_server_Html : plainName "com/example/orrery/orrery/server/Html" = true := by first | (simp [plainName, overriddenIn]; done) | decide +kernel
theorem ef_chtml (m : MethodId) (hm : Addr) (cs : Int32) : entryFrame m #[(.ref hm)] 1 = mkF m 0 #[.val (.ref hm)] [] := by first | (simp [entryFrame, mkF, argsToLocals, Value.category]; done) | rfl
set_option maxRecDepth 65536 in
set_option maxHeartbeats 40000000 in
theorem chtml (l : Launch) (Z : State) (a0 : Array Value) (hw : ∀ d ∈ tables_1, d.before a0 Z = true) (ws : List Jvm.Cond) (hm : Addr) (cs : Int32) (h0 : Heap) (n0 : Nat) (zD0 : Sta Z Z.heap "java/lang/String" "COMPACT_STRINGS" "Z" (.int cs)) (zP0 : Old Z n0 h0) (zP1 : Exa Z h0 hm "com/example/orrery/orrery/server/Html") (zP2 : Fld Z h0 hm "com/example/orrery/orrery/server/Html" "out" "Ljava/lang/StringBuilder;" .null) (zP3 : n0 ≤ hm) (hcs : ¬ cs = (0 : Int32)) :
    MetFree l (⟨"com/example/orrery/orrery/server/Html", "<init>", "()V"⟩ : MethodName) (head1 (Jvm.Cond.code (⟨"com/example/orrery/orrery/server/Html", "<init>", "()V"⟩ : MethodName) prog_17_method_1_code 1 none :: ws) ({ frames := 8, cells := 4, slots := 104, locals := 140 } : Room)) (fun aA uU => aA = #[(.ref hm)] ∧ Z.Warmed39 uU.vm ∧ uU.heap = h0 ∧ CHv Z consts_1 uU.vm h0 ∧ ∀ x ∈ ([] : List Addr), Safe Z consts_1 uU.vm h0 x) (fun _ _ _ _ _ => True) (fun _ uU oO uU' => ∃ vV lL, oO = .returned vV ∧ Q_chtml Z hm cs h0 n0 vV uU'.heap lL uU'.vm ∧ CHr Z consts_1 uU.vm uU.heap uU'.vm uU'.heap ∧ ReturnedEndW uU oO uU' lL ({ frames := 8, cells := 4, slots := 104, locals := 140 } : Room).cells ({ frames := 8, cells := 4, slots := 104, locals := 140 } : Room).slots) := by
  refine MetFree.of_bodySF (plainFor_of_name pn_com_example_orrery_orrery_server_Html) hisR ?_
  intro p e s m args below meth c s₁ Bd hml0 hP hK
  obtain ⟨rfl, hZ, hh, hCH, hSF⟩ := hP
  have hx := Bd.exec
  have hby := Bd.bytes
  have hml : c.maxLocals = 1 := hml0
  have hown : s.vm.findClass "com/example/orrery/orrery/server/Html" = some m.cls := findClass_of_methodNamed Bd.named
  have hnm := (name_of_methodNamed Bd.named Bd.method).1
  have X0 : Stand p l e ({ frames := 8, cells := 4, slots := 104, locals := 140 } : Room) s m #[(.ref hm)] below meth c s₁ [] 0 0 := Stand.of_body Bd
  have e0 : s₁.heap = h0 := by rw [← hh, Bd.state]; rfl
  have N0 := Fr.nil n0
  have hwS : ∀ a ∈ Bundle.stringAtoms, a.before a0 Z = true := fun d hd => hw d ((by decide +kernel : ∀ d ∈ Bundle.stringAtoms, d ∈ tables_1) d hd)
  have CR0 : CHr Z consts_1 s.vm h0 s.vm h0 := CHr.refl hCH
  refine Rch.out (Rch.st (fun t k => castTop (ef_chtml m hm cs) k) ?_)
  show Rch p.tables e below _ (s₁.setTop (mkF m 0 #[.val (.ref hm)] []))
  refine Rch.st (fun _ hr => XS.aloadN X0.here hx rfl (hb hby d11_0) rfl rfl hr) ?_
  obtain ⟨T1, X1, e1, st1⟩ := initO X0 hx hZ hown (own_w hw 53 rfl) (own_w hw 12 rfl) (own_w hw 13 rfl) e0 (g := (mkF m 1 #[.val (.ref hm)] [(.ref hm)])) rfl (by rw [hml]; rfl) rfl (hb hby d11_1) (by decide) (W := 0) (own_mr rfl rfl) (by decide)
  refine Rch.st st1 ?_
  refine Rch.st (fun _ hr => XS.aloadN X1.here hx rfl (hb hby d11_4) rfl rfl hr) ?_
  obtain ⟨T2, h2, X2, e2, E2, A2, D2, -, st2⟩ := newO X1 hx hZ hown (own_w hw 54 rfl) (own_w hw 55 rfl) (own_w hw 56 rfl) e1 (g := (mkF m 5 #[.val (.ref hm)] [(.ref hm)])) rfl (hb hby d11_5) (by decide) (by decide)
  obtain ⟨b2, g2⟩ : ∃ z, z = h0.size := ⟨_, rfl⟩
  rw [← g2] at A2 D2 st2
  refine Rch.st st2 ?_
  have q2 : h0.size ≤ b2 := Nat.le_of_eq g2.symm
  have ne3 := Nat.ne_of_lt (Nat.lt_of_lt_of_le zP2.lt q2)
  have g_b2 : n0 ≤ b2 := Nat.le_trans (Nat.le_trans (Nat.le_of_eq zP0.1.symm) zP0.2.1) q2
  have sz_b2 : h0.size ≤ b2 := Nat.le_trans (Keep.refl h0 [hm]).1 q2
  have cs4 := CHr.ext E2 CR0.1
  have CR4 := CR0.trans cs4
  have K5 := (Keep.refl h0 [hm]).ext E2
  have F2_coder : Fld Z h2 b2 "java/lang/AbstractStringBuilder" "coder" "B" (.int (0 : Int32)) := D2 (Or.inl (own_w hw 81 rfl)) (ty := .byte) (by decide)
  have F2_value : Fld Z h2 b2 "java/lang/AbstractStringBuilder" "value" "[B" .null := D2 (Or.inl (own_w hw 83 rfl)) (ty := (.array .byte)) (by decide)
  have F2_count : Fld Z h2 b2 "java/lang/AbstractStringBuilder" "count" "I" (.int (0 : Int32)) := D2 (Or.inl (own_w hw 99 rfl)) (ty := .int) (by decide)
  refine Rch.st (fun _ hr => XS.dup X2.here hx rfl (hb hby d11_8) rfl rfl hr) ?_
  have hS0 : s.Since s.vm h2.size := (State.WarmedH.refl s).since _
  obtain ⟨b6, T6, h6, kk6, dl6, kl6, X6, e6, E6, hS6, hk6, hZ6, hown6, Ea6, Fc6, Fv6, Va6, la6, lb6, hC6, -, hne6, st6⟩ := ldcCH (s := s) (vm0 := s.vm) X2 hx hZ hown (own_w hw 57 rfl) hwS e2 hS0 (Nat.le_refl _) (own_EW hw) (List.mem_of_getElem? (i := 0) rfl) CR4.1 (vs := [(.int (60 : Int32)), (.int (33 : Int32)), (.int (68 : Int32)), (.int (79 : Int32)), (.int (67 : Int32)), (.int (84 : Int32)), (.int (89 : Int32)), (.int (80 : Int32)), (.int (69 : Int32)), (.int (32 : Int32)), (.int (104 : Int32)), (.int (116 : Int32)), (.int (109 : Int32)), (.int (108 : Int32)), (.int (62 : Int32)), (.int (10 : Int32))]) (z := (16 : Int32)) own_t0 (by decide) rfl (g := (mkF m 9 #[.val (.ref hm)] [(.ref b2), (.ref b2), (.ref hm)])) rfl (hb hby d11_9) (n := 64) (by decide) (by decide) (by decide) (by decide)
  refine Rch.st st6 ?_
  have f7 := (zP0.ext E2)
  have CR8 := CR4.trans hC6
  have K9 := K5.ext E6
  have f11 := (f7.ext E6)
  have f12 := (A2.ext E6)
  have f13 := (F2_coder.ext E6)
  have f14 := (F2_value.ext E6)
  have f15 := (F2_count.ext E6)
  obtain ⟨_, T10, Lc10, X10, hQ10, st10⟩ := own_callI X6 hx hZ6 (y := Y_19) rfl hown6 (own_w hw 58 rfl) (own_w hw 59 rfl) (own_w hw 56 rfl) (own_w hw 60 rfl) (by decide) (W := 2) (csb l Z a0 hw [] b2 b6 dl6 kl6 [(.int (60 : Int32)), (.int (33 : Int32)), (.int (68 : Int32)), (.int (79 : Int32)), (.int (67 : Int32)), (.int (84 : Int32)), (.int (89 : Int32)), (.int (80 : Int32)), (.int (69 : Int32)), (.int (32 : Int32)), (.int (104 : Int32)), (.int (116 : Int32)), (.int (109 : Int32)), (.int (108 : Int32)), (.int (62 : Int32)), (.int (10 : Int32))] cs h6 n0 zD0 f11 f12 f13 f14 f15 g_b2 Ea6 Fc6 Fv6 Va6 hcs) (by decide) (by decide) e6 (by decide) (by decide) (g := (mkF m 11 #[.val (.ref hm)] [(.ref b6), (.ref b2), (.ref b2), (.ref hm)])) rfl (by rw [hml]; rfl) (a := b2) (argsL := [(.ref b6)]) (rest := [(.ref b2), (.ref hm)]) (lenOf pd_8 rfl) rfl (own_mr rfl rfl) (hb hby d11_11) rfl
  obtain ⟨d_10, kd_10, rfl, N10q, Kp10, Op10, R10_0, R10_1, R10_2, R10_3, R10_4, R10_5, R10_6⟩ := hQ10
  have N10 := Fr.app N0 N10q
  refine Rch.st st10 ?_
  have f16 := ((zP2.ext E2).ext E6)
  have ne17 := Nat.ne_of_lt (Nat.lt_of_lt_of_le f16.lt R10_4)
  have ne18 := Nat.ne_of_lt (Nat.lt_of_lt_of_le f15.lt R10_4)
  have ne19 := Nat.ne_of_lt (Nat.lt_of_lt_of_le Fv6.lt R10_4)
  have ne20 := Nat.ne_of_lt (Nat.lt_of_lt_of_le Va6.lt R10_4)
  have g_d_10 : n0 ≤ d_10 := Nat.le_trans (Nat.le_trans (Nat.le_of_eq f11.1.symm) f11.2.1) R10_4
  have sz_d_10 : h0.size ≤ d_10 := Nat.le_trans K9.1 R10_4
  have ne21 := (Exa.ne Ea6 f12 (by decide))
  have ne22 := (Ne.symm (Exa.neArv f12 Va6 (own_w hw 55 rfl)))
  have cs23 := CHr.keep Kp10 (sfS (Safe.exa hZ6.alike f12 (by decide) (by decide)) sf0) CR8.1
  have CR23 := CR8.trans cs23
  have K24 := K9.trans Kp10 (allS (Or.inr sz_b2) all0)
  have Vk10 : Arv Z T10.heap d_10 kd_10 .byte (32 : Int32) [(.int (60 : Int32)), (.int (33 : Int32)), (.int (68 : Int32)), (.int (79 : Int32)), (.int (67 : Int32)), (.int (84 : Int32)), (.int (89 : Int32)), (.int (80 : Int32)), (.int (69 : Int32)), (.int (32 : Int32)), (.int (104 : Int32)), (.int (116 : Int32)), (.int (109 : Int32)), (.int (108 : Int32)), (.int (62 : Int32)), (.int (10 : Int32)), (.int (0 : Int32)), (.int (0 : Int32)), (.int (0 : Int32)), (.int (0 : Int32)), (.int (0 : Int32)), (.int (0 : Int32)), (.int (0 : Int32)), (.int (0 : Int32)), (.int (0 : Int32)), (.int (0 : Int32)), (.int (0 : Int32)), (.int (0 : Int32)), (.int (0 : Int32)), (.int (0 : Int32)), (.int (0 : Int32)), (.int (0 : Int32))] (.int (0 : Int32)) := R10_5
  have f25 := (f16.keep Kp10 (ninS ne3 nin0))
  have f26 := (((zP1.ext E2).ext E6).keep Kp10)
  obtain ⟨T27, h27, X27, e27, W27, st27⟩ := putF X10 hx hZ6 hown6 (host := "") (Or.inl (own_w hw 125 rfl)) Via.refl rfl f25 f26 (Or.inr ⟨(own_w hw 126 rfl), rfl, hnm⟩) (own_w hw 48 rfl) (ty := (.object "java/lang/StringBuilder")) (by decide) rfl rfl (g := (mkF m 14 #[.val (.ref hm)] [(.ref b2), (.ref hm)])) rfl rfl (hb hby d11_14)
  refine Rch.st st27 ?_
  have N27 := Fr.snoc X27 N10 zP3
  have f28 := (Ea6.keep Kp10)
  have ne29 := (Exa.ne f28 f26 (by decide))
  have f30 := (Va6.keep Kp10 (ninS ne22 nin0))
  have ne31 := (Ne.symm (Exa.neArv f26 f30 (own_w hw 48 rfl)))
  have cs32 := CHr.wr W27 (Safe.exa hZ6.alike f26 (by decide) (by decide)) CR23.1
  have CR32 := CR23.trans cs32
  have K33 := K24.wr W27 (Or.inl (List.mem_of_getElem? (i := 0) rfl))
  have Fw27 := f25.same W27
  show Rch p.tables e below _ (T27.setTop (mkF m 17 #[.val (.ref hm)] []))
  obtain ⟨fs, hr, hrun, hended, hREW⟩ := Jvm.Stand.leaveW (s := s) (vm₁ := T6.vm) X27 hS6 (by rw [e27]; exact (Nat.le_trans (Nat.le_trans hk6 Kp10.1) (Keep.of_wr W27).1)) (v := none) (fun _ => rfl)
  have f34 := (Op10.wr W27 zP3)
  have f35 := (f26.wr W27)
  have f36 := (R10_0.wr W27)
  have f37 := (R10_1.other W27 (Or.inl (Ne.symm ne3)))
  have f38 := (R10_2.other W27 (Or.inl (Ne.symm ne3)))
  have f39 := (R10_3.other W27 (Or.inl (Ne.symm ne3)))
  have f40 := (Vk10.other W27 (Ne.symm ne17))
  have hcs41 := cs32
  have sf41 := hcs41.safe R10_5.lt (Safe.keep Kp10 (sfS (Safe.exa hZ6.alike f12 (by decide) (by decide)) sf0) CR8.1 (Safe.new R10_4))
  have hCE : CHr Z consts_1 s.vm s.heap T27.vm T27.heap := by rw [hh, e27]; exact CR32.trans (CHv.at (s := s) (vm0 := T6.vm) X27 hZ6 (own_EW hw) CR32.1)
  refine Rch.fin (u := T27.setFrames fs) (X27.returnOut hx Bd.returns (hb hby d11_17) hr) ⟨_, hrun, hended, _, _, rfl, ?_, hCE, hREW.1, hREW.2.1, hREW.2.2.1, hREW.2.2.2.mono (by decide) (by decide)⟩
  show Q_chtml Z hm cs h0 n0 _ T27.heap _ T27.vm
  rw [e27]
  exact ⟨b2, d_10, kd_10, rfl, N27, K33, f34, f35, Fw27, sz_b2, f36, f37, f38, f39, sz_d_10, f40, ((CHv.at (s := s) (vm0 := T6.vm) X27 hZ6 (own_EW hw) CR32.1).safe (Nat.lt_of_lt_of_le R10_5.lt hcs41.2.1) sf41), R10_6⟩
theorem d23_0 : decode prog_17_method_3_code 0 = .ok (.aload_n 0, 1) := by decide +kernel
theorem d23_1 : decode prog_17_method_3_code 1 = .ok (.getfield 14, 3) := by decide +kernel
theorem d23_4 : decode prog_17_method_3_code 4 = .ok (.ldc 32, 2) := by decide +kernel
theorem d23_6 : decode prog_17_method_3_code 6 = .ok (.invokevirtual 24, 3) := by decide +kernel
theorem d23_9 : decode prog_17_method_3_code 9 = .ok (.aload_n 1, 1) := by decide +kernel
theorem d23_10 : decode prog_17_method_3_code 10 = .ok (.invokevirtual 24, 3) := by decide +kernel
theorem d23_13 : decode prog_17_method_3_code 13 = .ok (.bipush 62, 2) := by decide +kernel
theorem d23_15 : decode prog_17_method_3_code 15 = .ok (.invokevirtual 20, 3) := by decide +kernel
theorem pd_17 : parseMethodDescriptor "(C)Ljava/lang/StringBuilder;" = some ⟨[.char], some (.object "java/lang/StringBuilder")⟩ := by decide +kernel
abbrev Y_20 : MethodName := ⟨"java/lang/StringBuilder", "append", "(C)Ljava/lang/StringBuilder;"⟩
theorem d23_18 : decode prog_17_method_3_code 18 = .ok (.pop, 1) := by decide +kernel
theorem d23_19 : decode prog_17_method_3_code 19 = .ok (.aload_n 0, 1) := by decide +kernel
theorem d23_20 : decode prog_17_method_3_code 20 = .ok (.areturn, 1) := by decide +kernel
def Q_cclose (Z : State) (hm : Addr) (sb : Addr) (d : Addr) (kd : ClassId) (vd : List Value) (c0 : Int32) (a : Addr) (bx : Addr) (kb : ClassId) (z : Int32) (vs : List Value) (cs : Int32) (h0 : Heap) (n0 : Nat) (v : Option Value) (h : Heap) (L : List Loc) (vm : Vm) : Prop := v = some (.ref hm) ∧ Fr n0 L ∧ Keep h0 h [sb, d] ∧ Old Z n0 h ∧ Exa Z h hm "com/example/orrery/orrery/server/Html" ∧ Fld Z h hm "com/example/orrery/orrery/server/Html" "out" "Ljava/lang/StringBuilder;" (.ref sb) ∧ Exa Z h sb "java/lang/StringBuilder" ∧ Fld Z h sb "java/lang/AbstractStringBuilder" "coder" "B" (.int (0 : Int32)) ∧ Fld Z h sb "java/lang/AbstractStringBuilder" "value" "[B" (.ref d) ∧ Fld Z h sb "java/lang/AbstractStringBuilder" "count" "I" (.int (((c0 + (2 : Int32)) + z) + (1 : Int32))) ∧ Arv Z h d kd .byte (32 : Int32) ((own_cp vs (own_cp [(.int (60 : Int32)), (.int (47 : Int32))] vd (c0).toNatClampNeg ((2 : Int32)).toNatClampNeg) ((c0 + (2 : Int32))).toNatClampNeg (z).toNatClampNeg).set (((c0 + (2 : Int32)) + z)).toNatClampNeg (.int (62 : Int32))) (.int (0 : Int32)) ∧ Safe Z consts_1 vm h d
theorem ef_cclose (m : MethodId) (hm : Addr) (sb : Addr) (d : Addr) (kd : ClassId) (vd : List Value) (c0 : Int32) (a : Addr) (bx : Addr) (kb : ClassId) (z : Int32) (vs : List Value) (cs : Int32) : entryFrame m #[(.ref hm), (.ref a)] 2 = mkF m 0 #[.val (.ref hm), .val (.ref a)] [] := by first | (simp [entryFrame, mkF, argsToLocals, Value.category]; done) | rfl
set_option maxRecDepth 65536 in
set_option maxHeartbeats 40000000 in
theorem cclose (l : Launch) (Z : State) (a0 : Array Value) (hw : ∀ d ∈ tables_1, d.before a0 Z = true) (ws : List Jvm.Cond) (hm : Addr) (sb : Addr) (d : Addr) (kd : ClassId) (vd : List Value) (c0 : Int32) (a : Addr) (bx : Addr) (kb : ClassId) (z : Int32) (vs : List Value) (cs : Int32) (h0 : Heap) (n0 : Nat) (zD0 : Sta Z Z.heap "java/lang/String" "COMPACT_STRINGS" "Z" (.int cs)) (zP0 : Old Z n0 h0) (zP1 : Exa Z h0 hm "com/example/orrery/orrery/server/Html") (zP2 : Fld Z h0 hm "com/example/orrery/orrery/server/Html" "out" "Ljava/lang/StringBuilder;" (.ref sb)) (zP3 : Exa Z h0 sb "java/lang/StringBuilder") (zP4 : Fld Z h0 sb "java/lang/AbstractStringBuilder" "coder" "B" (.int (0 : Int32))) (zP5 : Fld Z h0 sb "java/lang/AbstractStringBuilder" "value" "[B" (.ref d)) (zP6 : Fld Z h0 sb "java/lang/AbstractStringBuilder" "count" "I" (.int c0)) (zP7 : Arv Z h0 d kd .byte (32 : Int32) vd (.int (0 : Int32))) (zP8 : Exa Z h0 a "java/lang/String") (zP9 : Fld Z h0 a "java/lang/String" "coder" "B" (.int (0 : Int32))) (zP10 : Fld Z h0 a "java/lang/String" "value" "[B" (.ref bx)) (zP11 : Arv Z h0 bx kb .byte z vs (.int (0 : Int32))) (zP12 : n0 ≤ sb) (zP13 : n0 ≤ d) (zP14 : bx ≠ d) (zP15 : sb ≠ d) (hcs : ¬ cs = (0 : Int32)) (hz0 : ¬ z < (0 : Int32)) (hln : vd.length = 32) (k1 : ¬ c0 < (0 : Int32)) (k2 : c0.toNatClampNeg + (2 : Int32).toNatClampNeg ≤ 32) (k3 : ¬ (0 : Int32) < ((c0 + (2 : Int32)) - ((32 : Int32) >>> ((0 : Int32) &&& 31)))) (k4 : ¬ (c0 + (2 : Int32)) < (0 : Int32)) (k5 : (c0 + (2 : Int32)).toNatClampNeg + z.toNatClampNeg ≤ 32) (k6 : ¬ (0 : Int32) < (((c0 + (2 : Int32)) + z) - ((32 : Int32) >>> ((0 : Int32) &&& 31)))) (k7 : ¬ ((c0 + (2 : Int32)) + z) < (0 : Int32)) (k8 : ((c0 + (2 : Int32)) + z) < (32 : Int32)) (k9 : ((c0 + (2 : Int32)) + z).toNatClampNeg < 32) (k10 : ¬ (0 : Int32) < ((((c0 + (2 : Int32)) + z) + (1 : Int32)) - ((32 : Int32) >>> ((0 : Int32) &&& 31)))) :
    MetFree l (⟨"com/example/orrery/orrery/server/Html", "close", "(Ljava/lang/String;)Lcom/example/orrery/orrery/server/Html;"⟩ : MethodName) (head1 (Jvm.Cond.code (⟨"com/example/orrery/orrery/server/Html", "close", "(Ljava/lang/String;)Lcom/example/orrery/orrery/server/Html;"⟩ : MethodName) prog_17_method_3_code 2 (some (.object "com/example/orrery/orrery/server/Html")) :: ws) ({ frames := 5, cells := 2, slots := 12, locals := 96 } : Room)) (fun aA uU => aA = #[(.ref hm), (.ref a)] ∧ Z.Warmed39 uU.vm ∧ uU.heap = h0 ∧ CHv Z consts_1 uU.vm h0 ∧ ∀ x ∈ ([d] : List Addr), Safe Z consts_1 uU.vm h0 x) (fun _ _ _ _ _ => True) (fun _ uU oO uU' => ∃ vV lL, oO = .returned vV ∧ Q_cclose Z hm sb d kd vd c0 a bx kb z vs cs h0 n0 vV uU'.heap lL uU'.vm ∧ CHr Z consts_1 uU.vm uU.heap uU'.vm uU'.heap ∧ ReturnedEndW uU oO uU' lL ({ frames := 5, cells := 2, slots := 12, locals := 96 } : Room).cells ({ frames := 5, cells := 2, slots := 12, locals := 96 } : Room).slots) := by
  refine MetFree.of_bodySF (plainFor_of_name pn_com_example_orrery_orrery_server_Html) hisR ?_
  intro p e s m args below meth c s₁ Bd hml0 hP hK
  obtain ⟨rfl, hZ, hh, hCH, hSF⟩ := hP
  have hx := Bd.exec
  have hby := Bd.bytes
  have hml : c.maxLocals = 2 := hml0
  have hown : s.vm.findClass "com/example/orrery/orrery/server/Html" = some m.cls := findClass_of_methodNamed Bd.named
  have hnm := (name_of_methodNamed Bd.named Bd.method).1
  have X0 : Stand p l e ({ frames := 5, cells := 2, slots := 12, locals := 96 } : Room) s m #[(.ref hm), (.ref a)] below meth c s₁ [] 0 0 := Stand.of_body Bd
  have e0 : s₁.heap = h0 := by rw [← hh, Bd.state]; rfl
  have N0 := Fr.nil n0
  have hwS : ∀ a ∈ Bundle.stringAtoms, a.before a0 Z = true := fun d hd => hw d ((by decide +kernel : ∀ d ∈ Bundle.stringAtoms, d ∈ tables_1) d hd)
  have CR0 : CHr Z consts_1 s.vm h0 s.vm h0 := CHr.refl hCH
  refine Rch.out (Rch.st (fun t k => castTop (ef_cclose m hm sb d kd vd c0 a bx kb z vs cs) k) ?_)
  show Rch p.tables e below _ (s₁.setTop (mkF m 0 #[.val (.ref hm), .val (.ref a)] []))
  have sf_d := hSF d (List.mem_of_getElem? (i := 0) rfl)
  refine Rch.st (fun _ hr => XS.aloadN X0.here hx rfl (hb hby d23_0) rfl rfl hr) ?_
  obtain ⟨T1, X1, e1, st1⟩ := getF X0 hx hZ hown (host := "") (Or.inl (own_w hw 125 rfl)) Via.refl e0 zP2 (g := (mkF m 1 #[.val (.ref hm), .val (.ref a)] [(.ref hm)])) rfl rfl (hb hby d23_1)
  refine Rch.st st1 ?_
  have hS0 : s.Since s.vm h0.size := (State.WarmedH.refl s).since _
  obtain ⟨b2, T2, h2, kk2, dl2, kl2, X2, e2, E2, hS2, hk2, hZ2, hown2, Ea2, Fc2, Fv2, Va2, la2, lb2, hC2, -, hne2, st2⟩ := ldcCH (s := s) (vm0 := s.vm) X1 hx hZ hown (own_w hw 132 rfl) hwS e1 hS0 (Nat.le_refl _) (own_EW hw) (List.mem_of_getElem? (i := 1) rfl) CR0.1 (vs := [(.int (60 : Int32)), (.int (47 : Int32))]) (z := (2 : Int32)) own_t1 (by decide) rfl (g := (mkF m 4 #[.val (.ref hm), .val (.ref a)] [(.ref sb)])) rfl (hb hby d23_4) (n := 8) (by decide) (by decide) (by decide) (by decide)
  refine Rch.st st2 ?_
  have CR3 := CR0.trans hC2
  have K4 := (Keep.refl h0 [sb, d]).ext E2
  have hcs6 := hC2
  have sf6 := hcs6.safe zP7.lt sf_d
  have nq5 := hne2 d sf6
  have f8 := (zP3.ext E2)
  have f9 := (zP0.ext E2)
  have f10 := (zP4.ext E2)
  have f11 := (zP5.ext E2)
  have f12 := (zP6.ext E2)
  have f13 := (zP7.ext E2)
  obtain ⟨_, T7, Lc7, X7, hQ7, st7⟩ := own_callV X2 hx hZ2 (y := Y_14) (z := Y_14) hown2 (own_w hw 133 rfl) (own_w hw 91 rfl) (notFace_of_selects (args := #[]) (mvT hZ2 (own_w hw 93 rfl))) (own_w hw 93 rfl) (own_w hw 92 rfl) (own_w hw 56 rfl) (own_w hw 94 rfl) (by decide) (W := 0) (cappS l Z a0 hw [] sb d kd vd c0 b2 dl2 kl2 (2 : Int32) [(.int (60 : Int32)), (.int (47 : Int32))] cs h2 n0 zD0 f9 f8 f10 f11 f12 f13 Ea2 Fc2 Fv2 Va2 zP12 zP13 hcs k1 (by decide) k2 hln k3) (by decide) (by decide) e2 f8 (by decide) (by decide) (g := (mkF m 6 #[.val (.ref hm), .val (.ref a)] [(.ref b2), (.ref sb)])) rfl (by rw [hml]; rfl) (argsL := [(.ref b2)]) (rest := []) (lenOf pd_14 rfl) rfl (own_mr rfl rfl) (hb hby d23_6) rfl
  obtain ⟨rfl, N7q, Kp7, Op7, R7_0, R7_1, R7_2, R7_3, R7_4⟩ := hQ7
  have N7 := Fr.app N0 N7q
  refine Rch.st st7 ?_
  have f14 := (zP1.ext E2)
  have ne15 := (Exa.ne f14 f8 (by decide))
  have f16 := (zP8.ext E2)
  have ne17 := (Exa.ne f16 f8 (by decide))
  have f18 := (zP11.ext E2)
  have ne19 := (Ne.symm (Exa.neArv f8 f18 (own_w hw 55 rfl)))
  have ne20 := (Exa.ne Ea2 f8 (by decide))
  have ne21 := (Ne.symm (Exa.neArv f8 Va2 (own_w hw 55 rfl)))
  have ne22 := (Exa.neArv f14 f13 (own_w hw 48 rfl))
  have ne23 := (Exa.neArv f16 f13 (own_w hw 1 rfl))
  have cs24 := CHr.keep Kp7 (sfS (Safe.exa hZ2.alike f8 (by decide) (by decide)) (sfS sf6 sf0)) CR3.1
  have CR24 := CR3.trans cs24
  have K25 := K4.trans Kp7 (allS (Or.inl (List.mem_of_getElem? (i := 0) rfl)) (allS (Or.inl (List.mem_of_getElem? (i := 1) rfl)) all0))
  refine Rch.st (fun _ hr => XS.aloadN X7.here hx rfl (hb hby d23_9) rfl rfl hr) ?_
  have f27 := (f16.keep Kp7)
  have f28 := ((zP9.ext E2).keep Kp7 (ninS ne17 (ninS ne23 nin0)))
  have f29 := ((zP10.ext E2).keep Kp7 (ninS ne17 (ninS ne23 nin0)))
  have f30 := (f18.keep Kp7 (ninS ne19 (ninS zP14 nin0)))
  obtain ⟨_, T26, Lc26, X26, hQ26, st26⟩ := own_callV X7 hx hZ2 (y := Y_14) (z := Y_14) hown2 (own_w hw 133 rfl) (own_w hw 91 rfl) (notFace_of_selects (args := #[]) (mvT hZ2 (own_w hw 93 rfl))) (own_w hw 93 rfl) (own_w hw 92 rfl) (own_w hw 56 rfl) (own_w hw 94 rfl) (by decide) (W := 0) (cappS l Z a0 hw [] sb d kd (own_cp [(.int (60 : Int32)), (.int (47 : Int32))] vd (c0).toNatClampNeg ((2 : Int32)).toNatClampNeg) (c0 + (2 : Int32)) a bx kb z vs cs T7.heap n0 zD0 Op7 R7_0 R7_1 R7_2 R7_3 R7_4 f27 f28 f29 f30 zP12 zP13 hcs k4 hz0 k5 (by rw [own_cplen (by rw [hln]; exact k2)]; exact hln) k6) (by decide) (by decide) rfl R7_0 (by decide) (by decide) (g := (mkF m 10 #[.val (.ref hm), .val (.ref a)] [(.ref a), (.ref sb)])) rfl (by rw [hml]; rfl) (argsL := [(.ref a)]) (rest := []) (lenOf pd_14 rfl) rfl (own_mr rfl rfl) (hb hby d23_10) rfl
  obtain ⟨rfl, N26q, Kp26, Op26, R26_0, R26_1, R26_2, R26_3, R26_4⟩ := hQ26
  have N26 := Fr.app N7 N26q
  refine Rch.st st26 ?_
  have hcs31 := cs24
  have sf31 := hcs31.safe (Nat.lt_of_lt_of_le zP7.lt hcs6.2.1) sf6
  have cs32 := CHr.keep Kp26 (sfS (Safe.exa hZ2.alike R7_0 (by decide) (by decide)) (sfS sf31 sf0)) CR24.1
  have CR32 := CR24.trans cs32
  have K33 := K25.trans Kp26 (allS (Or.inl (List.mem_of_getElem? (i := 0) rfl)) (allS (Or.inl (List.mem_of_getElem? (i := 1) rfl)) all0))
  refine Rch.st (fun _ hr => XS.bipush X26.here hx rfl (hb hby d23_13) hr) ?_
  obtain ⟨_, T34, Lc34, X34, hQ34, st34⟩ := own_callV X26 hx hZ2 (y := Y_20) (z := Y_20) hown2 (own_w hw 134 rfl) (own_w hw 135 rfl) (notFace_of_selects (args := #[]) (mvT hZ2 (own_w hw 137 rfl))) (own_w hw 137 rfl) (own_w hw 136 rfl) (own_w hw 56 rfl) (own_w hw 138 rfl) (by decide) (W := 0) (cappC l Z a0 hw [] sb d kd (own_cp vs (own_cp [(.int (60 : Int32)), (.int (47 : Int32))] vd (c0).toNatClampNeg ((2 : Int32)).toNatClampNeg) ((c0 + (2 : Int32))).toNatClampNeg (z).toNatClampNeg) ((c0 + (2 : Int32)) + z) (62 : Int32) cs T26.heap n0 zD0 Op26 R26_0 R26_1 R26_2 R26_3 R26_4 zP12 zP13 hcs ⟨by decide, by decide⟩ k7 k8 k9 (by rw [own_cplen (by rw [own_cplen (by rw [hln]; exact k2), hln]; exact k5), own_cplen (by rw [hln]; exact k2)]; exact hln) k10) (by decide) (by decide) rfl R26_0 (by decide) (by decide) (g := (mkF m 15 #[.val (.ref hm), .val (.ref a)] [(.int (62 : Int32)), (.ref sb)])) rfl (by rw [hml]; rfl) (argsL := [(.int (62 : Int32))]) (rest := []) (lenOf pd_17 rfl) rfl (own_mr rfl rfl) (hb hby d23_15) rfl
  obtain ⟨rfl, N34q, Kp34, Op34, R34_0, R34_1, R34_2, R34_3, R34_4⟩ := hQ34
  have N34 := Fr.app N26 N34q
  refine Rch.st st34 ?_
  have hcs35 := cs32
  have sf35 := hcs35.safe (Nat.lt_of_lt_of_le (Nat.lt_of_lt_of_le zP7.lt hcs6.2.1) hcs31.2.1) sf31
  have cs36 := CHr.keep Kp34 (sfS (Safe.exa hZ2.alike R26_0 (by decide) (by decide)) (sfS sf35 sf0)) CR32.1
  have CR36 := CR32.trans cs36
  have K37 := K33.trans Kp34 (allS (Or.inl (List.mem_of_getElem? (i := 0) rfl)) (allS (Or.inl (List.mem_of_getElem? (i := 1) rfl)) all0))
  show Rch p.tables e below _ (T34.setTop (mkF m 18 #[.val (.ref hm), .val (.ref a)] [(.ref sb)]))
  refine Rch.st (fun _ hr => XS.pop X34.here hx rfl (hb hby d23_18) rfl rfl hr) ?_
  refine Rch.st (fun _ hr => XS.aloadN X34.here hx rfl (hb hby d23_19) rfl rfl hr) ?_
  obtain ⟨fs, hr, hrun, hended, hREW⟩ := Jvm.Stand.leaveW (s := s) (vm₁ := T2.vm) X34 hS2 (Nat.le_trans (Nat.le_trans (Nat.le_trans hk2 Kp7.1) Kp26.1) Kp34.1) (v := some (.ref hm)) (fun h => by rw [Bd.returns] at h; cases h)
  have f38 := (((f14.keep Kp7).keep Kp26).keep Kp34)
  have f39 := ((((zP2.ext E2).keep Kp7 (ninS ne15 (ninS ne22 nin0))).keep Kp26 (ninS ne15 (ninS ne22 nin0))).keep Kp34 (ninS ne15 (ninS ne22 nin0)))
  have hcs40 := cs36
  have sf40 := hcs40.safe (Nat.lt_of_lt_of_le (Nat.lt_of_lt_of_le (Nat.lt_of_lt_of_le zP7.lt hcs6.2.1) hcs31.2.1) hcs35.2.1) sf35
  have hCE : CHr Z consts_1 s.vm s.heap T34.vm T34.heap := by rw [hh]; exact CR36.trans (CHv.at (s := s) (vm0 := T2.vm) X34 hZ2 (own_EW hw) CR36.1)
  refine Rch.fin (u := T34.setFrames fs) (own_retA X34 hx Bd.returns rfl rfl rfl (hb hby d23_20) hr) ⟨_, hrun, hended, _, _, rfl, ?_, hCE, hREW.1, hREW.2.1, hREW.2.2.1, hREW.2.2.2.mono (by decide) (by decide)⟩
  show Q_cclose Z hm sb d kd vd c0 a bx kb z vs cs h0 n0 _ T34.heap _ T34.vm
  exact ⟨rfl, N34, K37, Op34, f38, f39, R34_0, R34_1, R34_2, R34_3, R34_4, ((CHv.at (s := s) (vm0 := T2.vm) X34 hZ2 (own_EW hw) CR36.1).safe (Nat.lt_of_lt_of_le (Nat.lt_of_lt_of_le (Nat.lt_of_lt_of_le (Nat.lt_of_lt_of_le zP7.lt hcs6.2.1) hcs31.2.1) hcs35.2.1) hcs40.2.1) sf40)⟩
theorem d31_0 : decode jdk_68_method_64_code 0 = .ok (.aload_n 0, 1) := by decide +kernel
theorem d31_1 : decode jdk_68_method_64_code 1 = .ok (.getfield 15, 3) := by decide +kernel
theorem d31_4 : decode jdk_68_method_64_code 4 = .ok (.areturn, 1) := by decide +kernel
def Q_cgval (Z : State) (sb : Addr) (d : Addr) (h0 : Heap) (n0 : Nat) (v : Option Value) (h : Heap) (L : List Loc) : Prop := v = some (.ref d) ∧ Fr n0 L ∧ h = h0
theorem ef_cgval (m : MethodId) (sb : Addr) (d : Addr) : entryFrame m #[(.ref sb)] 1 = mkF m 0 #[.val (.ref sb)] [] := by first | (simp [entryFrame, mkF, argsToLocals, Value.category]; done) | rfl
set_option maxRecDepth 65536 in
set_option maxHeartbeats 40000000 in
theorem cgval (l : Launch) (Z : State) (a0 : Array Value) (hw : ∀ d ∈ tables_1, d.before a0 Z = true) (ws : List Jvm.Cond) (sb : Addr) (d : Addr) (h0 : Heap) (n0 : Nat) (zP0 : Fld Z h0 sb "java/lang/AbstractStringBuilder" "value" "[B" (.ref d)) :
    MetFree l (⟨"java/lang/AbstractStringBuilder", "getValue", "()[B"⟩ : MethodName) (head1 (Jvm.Cond.code (⟨"java/lang/AbstractStringBuilder", "getValue", "()[B"⟩ : MethodName) jdk_68_method_64_code 1 (some (.array .byte)) :: ws) ({ frames := 0, cells := 0, slots := 0, locals := 0 } : Room)) (fun aA uU => aA = #[(.ref sb)] ∧ Z.Warmed39 uU.vm ∧ uU.heap = h0) (fun _ _ _ _ _ => True) (fun _ uU oO uU' => ∃ vV lL, oO = .returned vV ∧ Q_cgval Z sb d h0 n0 vV uU'.heap lL ∧ FrameEnd uU oO uU' lL ({ frames := 0, cells := 0, slots := 0, locals := 0 } : Room).cells ({ frames := 0, cells := 0, slots := 0, locals := 0 } : Room).slots) := by
  refine MetFree.of_bodySF (plainFor_of_name pn_java_lang_AbstractStringBuilder) hisR ?_
  intro p e s m args below meth c s₁ Bd hml0 hP hK
  obtain ⟨rfl, hZ, hh⟩ := hP
  have hx := Bd.exec
  have hby := Bd.bytes
  have hml : c.maxLocals = 1 := hml0
  have hown : s.vm.findClass "java/lang/AbstractStringBuilder" = some m.cls := findClass_of_methodNamed Bd.named
  have hnm := (name_of_methodNamed Bd.named Bd.method).1
  have X0 : Stand p l e ({ frames := 0, cells := 0, slots := 0, locals := 0 } : Room) s m #[(.ref sb)] below meth c s₁ [] 0 0 := Stand.of_body Bd
  have e0 : s₁.heap = h0 := by rw [← hh, Bd.state]; rfl
  have N0 := Fr.nil n0
  refine Rch.out (Rch.st (fun t k => castTop (ef_cgval m sb d) k) ?_)
  show Rch p.tables e below _ (s₁.setTop (mkF m 0 #[.val (.ref sb)] []))
  refine Rch.st (fun _ hr => XS.aloadN X0.here hx rfl (hb hby d31_0) rfl rfl hr) ?_
  obtain ⟨T1, X1, e1, st1⟩ := getF X0 hx hZ hown (host := "") (Or.inl (own_w hw 82 rfl)) Via.refl e0 zP0 (g := (mkF m 1 #[.val (.ref sb)] [(.ref sb)])) rfl rfl (hb hby d31_1)
  refine Rch.st st1 ?_
  obtain ⟨fs, hr, hrun, hended, hW, hsame⟩ := X1.leave (v := some (.ref d)) (fun h => by rw [Bd.returns] at h; cases h)
  refine Rch.fin (u := T1.setFrames fs) (own_retA X1 hx Bd.returns rfl rfl rfl (hb hby d31_4) hr) ⟨_, hrun, hended, _, _, rfl, ?_, ⟨_, rfl⟩, hW, hsame.mono (by decide) (by decide)⟩
  show Q_cgval Z sb d h0 n0 _ T1.heap _
  exact ⟨rfl, N0, e1⟩
theorem d33_0 : decode jdk_68_method_6_code 0 = .ok (.aload_n 0, 1) := by decide +kernel
theorem d33_1 : decode jdk_68_method_6_code 1 = .ok (.getfield 79, 3) := by decide +kernel
theorem d33_4 : decode jdk_68_method_6_code 4 = .ok (.ireturn, 1) := by decide +kernel
def Q_calen (Z : State) (sb : Addr) (c0 : Int32) (h0 : Heap) (n0 : Nat) (v : Option Value) (h : Heap) (L : List Loc) : Prop := v = some (.int c0) ∧ Fr n0 L ∧ h = h0
theorem ef_calen (m : MethodId) (sb : Addr) (c0 : Int32) : entryFrame m #[(.ref sb)] 1 = mkF m 0 #[.val (.ref sb)] [] := by first | (simp [entryFrame, mkF, argsToLocals, Value.category]; done) | rfl
set_option maxRecDepth 65536 in
set_option maxHeartbeats 40000000 in
theorem calen (l : Launch) (Z : State) (a0 : Array Value) (hw : ∀ d ∈ tables_1, d.before a0 Z = true) (ws : List Jvm.Cond) (sb : Addr) (c0 : Int32) (h0 : Heap) (n0 : Nat) (zP0 : Fld Z h0 sb "java/lang/AbstractStringBuilder" "count" "I" (.int c0)) :
    MetFree l (⟨"java/lang/AbstractStringBuilder", "length", "()I"⟩ : MethodName) (head1 (Jvm.Cond.code (⟨"java/lang/AbstractStringBuilder", "length", "()I"⟩ : MethodName) jdk_68_method_6_code 1 (some .int) :: ws) ({ frames := 0, cells := 0, slots := 0, locals := 0 } : Room)) (fun aA uU => aA = #[(.ref sb)] ∧ Z.Warmed39 uU.vm ∧ uU.heap = h0) (fun _ _ _ _ _ => True) (fun _ uU oO uU' => ∃ vV lL, oO = .returned vV ∧ Q_calen Z sb c0 h0 n0 vV uU'.heap lL ∧ FrameEnd uU oO uU' lL ({ frames := 0, cells := 0, slots := 0, locals := 0 } : Room).cells ({ frames := 0, cells := 0, slots := 0, locals := 0 } : Room).slots) := by
  refine MetFree.of_bodySF (plainFor_of_name pn_java_lang_AbstractStringBuilder) hisR ?_
  intro p e s m args below meth c s₁ Bd hml0 hP hK
  obtain ⟨rfl, hZ, hh⟩ := hP
  have hx := Bd.exec
  have hby := Bd.bytes
  have hml : c.maxLocals = 1 := hml0
  have hown : s.vm.findClass "java/lang/AbstractStringBuilder" = some m.cls := findClass_of_methodNamed Bd.named
  have hnm := (name_of_methodNamed Bd.named Bd.method).1
  have X0 : Stand p l e ({ frames := 0, cells := 0, slots := 0, locals := 0 } : Room) s m #[(.ref sb)] below meth c s₁ [] 0 0 := Stand.of_body Bd
  have e0 : s₁.heap = h0 := by rw [← hh, Bd.state]; rfl
  have N0 := Fr.nil n0
  refine Rch.out (Rch.st (fun t k => castTop (ef_calen m sb c0) k) ?_)
  show Rch p.tables e below _ (s₁.setTop (mkF m 0 #[.val (.ref sb)] []))
  refine Rch.st (fun _ hr => XS.aloadN X0.here hx rfl (hb hby d33_0) rfl rfl hr) ?_
  obtain ⟨T1, X1, e1, st1⟩ := getF X0 hx hZ hown (host := "") (Or.inl (own_w hw 98 rfl)) Via.refl e0 zP0 (g := (mkF m 1 #[.val (.ref sb)] [(.ref sb)])) rfl rfl (hb hby d33_1)
  refine Rch.st st1 ?_
  obtain ⟨fs, hr, hrun, hended, hW, hsame⟩ := X1.leave (v := some (.int c0)) (fun h => by rw [Bd.returns] at h; cases h)
  refine Rch.fin (u := T1.setFrames fs) (own_retI X1 hx Bd.returns (hb hby d33_4) hr) ⟨_, hrun, hended, _, _, rfl, ?_, ⟨_, rfl⟩, hW, hsame.mono (by decide) (by decide)⟩
  show Q_calen Z sb c0 h0 n0 _ T1.heap _
  exact ⟨rfl, N0, e1⟩
theorem d32_0 : decode jdk_67_method_93_code 0 = .ok (.aload_n 0, 1) := by decide +kernel
theorem d32_1 : decode jdk_67_method_93_code 1 = .ok (.invokespecial 343, 3) := by decide +kernel
abbrev Y_21 : MethodName := ⟨"java/lang/AbstractStringBuilder", "length", "()I"⟩
theorem d32_4 : decode jdk_67_method_93_code 4 = .ok (.ireturn, 1) := by decide +kernel
def Q_cslen (Z : State) (sb : Addr) (c0 : Int32) (h0 : Heap) (n0 : Nat) (v : Option Value) (h : Heap) (L : List Loc) : Prop := v = some (.int c0) ∧ Fr n0 L ∧ h = h0
theorem ef_cslen (m : MethodId) (sb : Addr) (c0 : Int32) : entryFrame m #[(.ref sb)] 1 = mkF m 0 #[.val (.ref sb)] [] := by first | (simp [entryFrame, mkF, argsToLocals, Value.category]; done) | rfl
set_option maxRecDepth 65536 in
set_option maxHeartbeats 40000000 in
theorem cslen (l : Launch) (Z : State) (a0 : Array Value) (hw : ∀ d ∈ tables_1, d.before a0 Z = true) (ws : List Jvm.Cond) (sb : Addr) (c0 : Int32) (h0 : Heap) (n0 : Nat) (zP0 : Exa Z h0 sb "java/lang/StringBuilder") (zP1 : Fld Z h0 sb "java/lang/AbstractStringBuilder" "count" "I" (.int c0)) :
    MetFree l (⟨"java/lang/StringBuilder", "length", "()I"⟩ : MethodName) (head1 (Jvm.Cond.code (⟨"java/lang/StringBuilder", "length", "()I"⟩ : MethodName) jdk_67_method_93_code 1 (some .int) :: ws) ({ frames := 1, cells := 0, slots := 0, locals := 12 } : Room)) (fun aA uU => aA = #[(.ref sb)] ∧ Z.Warmed39 uU.vm ∧ uU.heap = h0) (fun _ _ _ _ _ => True) (fun _ uU oO uU' => ∃ vV lL, oO = .returned vV ∧ Q_cslen Z sb c0 h0 n0 vV uU'.heap lL ∧ FrameEnd uU oO uU' lL ({ frames := 1, cells := 0, slots := 0, locals := 12 } : Room).cells ({ frames := 1, cells := 0, slots := 0, locals := 12 } : Room).slots) := by
  refine MetFree.of_bodySF (plainFor_of_name pn_java_lang_StringBuilder) hisR ?_
  intro p e s m args below meth c s₁ Bd hml0 hP hK
  obtain ⟨rfl, hZ, hh⟩ := hP
  have hx := Bd.exec
  have hby := Bd.bytes
  have hml : c.maxLocals = 1 := hml0
  have hown : s.vm.findClass "java/lang/StringBuilder" = some m.cls := findClass_of_methodNamed Bd.named
  have hnm := (name_of_methodNamed Bd.named Bd.method).1
  have X0 : Stand p l e ({ frames := 1, cells := 0, slots := 0, locals := 12 } : Room) s m #[(.ref sb)] below meth c s₁ [] 0 0 := Stand.of_body Bd
  have e0 : s₁.heap = h0 := by rw [← hh, Bd.state]; rfl
  have N0 := Fr.nil n0
  refine Rch.out (Rch.st (fun t k => castTop (ef_cslen m sb c0) k) ?_)
  show Rch p.tables e below _ (s₁.setTop (mkF m 0 #[.val (.ref sb)] []))
  refine Rch.st (fun _ hr => XS.aloadN X0.here hx rfl (hb hby d32_0) rfl rfl hr) ?_
  obtain ⟨_, T1, Lc1, X1, hQ1, st1⟩ := own_callU X0 hx hZ (K := "java/lang/StringBuilder") (y := Y_21) hown (own_w hw 177 rfl) (own_same (own_w hw 172 rfl) (own_nf (y0 := (⟨"java/lang/AbstractStringBuilder", "ensureCapacityInternal", "(I)V"⟩ : MethodName)) (own_w hw 103 rfl) (own_w hw 101 rfl) rfl) (by decide)) (own_w hw 173 rfl) (own_w hw 96 rfl) (by decide) (own_w hw 65 rfl) (own_w hw 178 rfl) (W := 0) (calen l Z a0 hw [] sb c0 h0 n0 zP1) (by decide) (by decide) e0 (Ins.self zP0) (by decide) (by decide) (g := (mkF m 1 #[.val (.ref sb)] [(.ref sb)])) rfl (by rw [hml]; rfl) (a := sb) (argsL := []) (rest := []) (lenOf pd_10 rfl) rfl (own_mr rfl rfl) (hb hby d32_1) rfl
  obtain ⟨rfl, N1q, e1⟩ := hQ1
  have N1 := Fr.app N0 N1q
  refine Rch.st st1 ?_
  obtain ⟨fs, hr, hrun, hended, hW, hsame⟩ := X1.leave (v := some (.int c0)) (fun h => by rw [Bd.returns] at h; cases h)
  refine Rch.fin (u := T1.setFrames fs) (own_retI X1 hx Bd.returns (hb hby d32_4) hr) ⟨_, hrun, hended, _, _, rfl, ?_, ⟨_, rfl⟩, hW, hsame.mono (by decide) (by decide)⟩
  show Q_cslen Z sb c0 h0 n0 _ T1.heap _
  exact ⟨rfl, N1, e1⟩
theorem own_0z (z : Int32) : ((0 : Int32) + z) = z := Int32.zero_add z
theorem own_z0 (z : Int32) : (z - (0 : Int32)) = z := Int32.sub_zero z
/-- the first n values are ints, none below 0 -/
def own_pos (vs : List Value) (n : Nat) : Prop := ∀ i, i < n → ∃ y : Int32, vs.getD i (.int 0) = .int y ∧ ¬ y < (0 : Int32)
theorem own_posZ {vs : List Value} : own_pos vs 0 := fun i hi => absurd hi (Nat.not_lt_zero i)
theorem own_posC {y : Int32} {vs : List Value} {n : Nat} (h : ¬ y < (0 : Int32)) (r : own_pos vs n) : own_pos (.int y :: vs) (n + 1) := fun i hi => by
  cases i with
  | zero => exact ⟨y, rfl, h⟩
  | succ i => obtain ⟨x, h1, h2⟩ := r i (by omega); exact ⟨x, h1, h2⟩
theorem own_pos_cp {vd ve : List Value} {n : Nat} (h : own_pos vd n) : own_pos (own_cp vd ve (0 : Int32).toNatClampNeg n) n := fun i hi => by
  obtain ⟨y, h1, h2⟩ := h i hi
  refine ⟨y, ?_, h2⟩
  rw [← h1]
  unfold own_cp
  rw [show (0 : Int32).toNatClampNeg = 0 from rfl, List.take_zero, List.nil_append]
  simp only [List.getD_eq_getElem?_getD]
  rw [List.getElem?_append_left (by simp; omega)]
  simp [hi]
theorem own_ind {tb : Tables} {e : Env} {below : List Frame} {P : State → Prop} {f : Int32 → State} {z : Int32} (hz : ¬ z < (0 : Int32)) (step : ∀ i : Int32, ¬ i < (0 : Int32) → i < z → Rch tb e below P (f (i + (1 : Int32))) → Rch tb e below P (f i)) (fin : ∀ i : Int32, ¬ i < (0 : Int32) → ¬ i < z → Rch tb e below P (f i)) : Rch tb e below P (f (0 : Int32)) := by
  have e0 : (0 : Int32).toInt = 0 := rfl
  have e1 : (1 : Int32).toInt = 1 := rfl
  have key : ∀ (k : Nat) (i : Int32), ¬ i < (0 : Int32) → z.toInt - i.toInt ≤ k → Rch tb e below P (f i) := by
    intro k
    induction k with
    | zero =>
      intro i hi hk
      refine fin i hi ?_
      rw [Int32.lt_iff_toInt_lt]
      omega
    | succ k ih =>
      intro i hi hk
      by_cases hlt : i < z
      · refine step i hi hlt (ih _ ?_ ?_)
        all_goals
          rw [Int32.lt_iff_toInt_lt] at hi hlt
          have hr := rng32 z
          have es : (i + (1 : Int32)).toInt = i.toInt + 1 := by rw [Int32.toInt_add, e1]; exact Int.bmod_eq_of_le (by omega) (by omega)
        · rw [Int32.lt_iff_toInt_lt, es]; omega
        · rw [es]; omega
      · exact fin i hi hlt
  rw [Int32.lt_iff_toInt_lt] at hz
  exact key z.toInt.toNat 0 (by decide) (by omega)
theorem own_bal {p : Program} {l : Launch} {e : Env} {R : Room} {s : State} {m : MethodId} {args : Array Value} {below : List Frame} {meth : Method} {c : Code} {T : State} {locs : List Loc} {cells slots : Nat} {Z : State} {h : Heap} {a : Addr} {k : ClassId} {z : Int32} {vs : List Value} {d : Value} (X : Stand p l e R s m args below meth c T locs cells slots) (hx : p.tables.exec = Jvm.exec) (hZ : Z.Warmed39 s.vm) (eT : T.heap = h) (F : Arv Z h a k .byte z vs d) {j : Int32} {v : Value} (hv : vs.getD j.toNatClampNeg d = v) (hj : ¬ j < 0) (hl : j < z) {pc : Nat} {Ls : Array Slot} {rest : List Value} (hd : decode c.code pc = .ok (.baload, 1)) {target : State} (hr : Steps p.tables e below (T.setTop (mkF m (pc + 1) Ls (v :: rest))) target) : Steps p.tables e below (T.setTop (mkF m pc Ls (.int j :: .ref a :: rest))) target := by
  obtain ⟨cl, Ar, -, Sz, -, Ha, -⟩ := F
  have hin := inb_of (j := j) Sz ⟨hj, hl⟩
  exact X.baloadBytes hx (j := j) (v := v) (by rw [eT]; exact Ar.1) (State.isArrayOf_alike hZ.alike Ar.2.1) Ar.2.2 hin (Ha.at hin hv) (g := mkF m pc Ls (.int j :: .ref a :: rest)) rfl rfl hd target hr
theorem d36_0 : decode jdk_65_method_131_code 0 = .ok (.iload_n 1, 1) := by decide +kernel
theorem d36_1 : decode jdk_65_method_131_code 1 = .ok (.iload_n 0, 1) := by decide +kernel
theorem d36_2 : decode jdk_65_method_131_code 2 = .ok (.if_icmp .ge 35, 3) := by decide +kernel
theorem d36_37 : decode jdk_65_method_131_code 37 = .ok (.return_, 1) := by decide +kernel
def Q_cchk (Z : State) (i : Int32) (j : Int32) (h0 : Heap) (n0 : Nat) (v : Option Value) (h : Heap) (L : List Loc) : Prop := v = none ∧ Fr n0 L ∧ h = h0
theorem pn_java_util_Arrays : plainName "java/util/Arrays" = true := by first | (simp [plainName, overriddenIn]; done) | decide +kernel
theorem ef_cchk (m : MethodId) (i : Int32) (j : Int32) : entryFrame m #[(.int i), (.int j)] 2 = mkF m 0 #[.val (.int i), .val (.int j)] [] := by first | (simp [entryFrame, mkF, argsToLocals, Value.category]; done) | rfl
set_option maxRecDepth 65536 in
set_option maxHeartbeats 40000000 in
theorem cchk (l : Launch) (Z : State) (a0 : Array Value) (hw : ∀ d ∈ tables_1, d.before a0 Z = true) (ws : List Jvm.Cond) (i : Int32) (j : Int32) (h0 : Heap) (n0 : Nat) (hij : ¬ j < i) :
    MetFree l (⟨"java/util/Arrays", "checkLength", "(II)V"⟩ : MethodName) (head1 (Jvm.Cond.code (⟨"java/util/Arrays", "checkLength", "(II)V"⟩ : MethodName) jdk_65_method_131_code 2 none :: ws) ({ frames := 0, cells := 0, slots := 0, locals := 0 } : Room)) (fun aA uU => aA = #[(.int i), (.int j)] ∧ Z.Warmed39 uU.vm ∧ uU.heap = h0) (fun _ _ _ _ _ => True) (fun _ uU oO uU' => ∃ vV lL, oO = .returned vV ∧ Q_cchk Z i j h0 n0 vV uU'.heap lL ∧ FrameEnd uU oO uU' lL ({ frames := 0, cells := 0, slots := 0, locals := 0 } : Room).cells ({ frames := 0, cells := 0, slots := 0, locals := 0 } : Room).slots) := by
  refine MetFree.of_bodySF (plainFor_of_name pn_java_util_Arrays) hisR ?_
  intro p e s m args below meth c s₁ Bd hml0 hP hK
  obtain ⟨rfl, hZ, hh⟩ := hP
  have hx := Bd.exec
  have hby := Bd.bytes
  have hml : c.maxLocals = 2 := hml0
  have hown : s.vm.findClass "java/util/Arrays" = some m.cls := findClass_of_methodNamed Bd.named
  have hnm := (name_of_methodNamed Bd.named Bd.method).1
  have X0 : Stand p l e ({ frames := 0, cells := 0, slots := 0, locals := 0 } : Room) s m #[(.int i), (.int j)] below meth c s₁ [] 0 0 := Stand.of_body Bd
  have e0 : s₁.heap = h0 := by rw [← hh, Bd.state]; rfl
  have N0 := Fr.nil n0
  refine Rch.out (Rch.st (fun t k => castTop (ef_cchk m i j) k) ?_)
  show Rch p.tables e below _ (s₁.setTop (mkF m 0 #[.val (.int i), .val (.int j)] []))
  refine Rch.st (fun _ hr => XS.iloadN X0.here hx rfl (hb hby d36_0) rfl hr) ?_
  refine Rch.st (fun _ hr => XS.iloadN X0.here hx rfl (hb hby d36_1) rfl hr) ?_
  refine Rch.st (fun _ hr => XS.icmpYes X0.here hx rfl (pc0 := 2) (pc' := 37) rfl (hb hby d36_2) rfl (flt hij).2.1 (by decide) (by decide) hr) ?_
  obtain ⟨fs, hr, hrun, hended, hW, hsame⟩ := X0.leave (v := none) (fun _ => rfl)
  refine Rch.fin (u := s₁.setFrames fs) (X0.returnOut hx Bd.returns (hb hby d36_37) hr) ⟨_, hrun, hended, _, _, rfl, ?_, ⟨_, rfl⟩, hW, hsame.mono (by decide) (by decide)⟩
  show Q_cchk Z i j h0 n0 _ s₁.heap _
  exact ⟨rfl, N0, e0⟩
theorem d37_0 : decode jdk_29_method_69_code 0 = .ok (.iload_n 0, 1) := by decide +kernel
theorem d37_1 : decode jdk_29_method_69_code 1 = .ok (.iload_n 1, 1) := by decide +kernel
theorem d37_2 : decode jdk_29_method_69_code 2 = .ok (.if_icmp .gt 7, 3) := by decide +kernel
theorem d37_9 : decode jdk_29_method_69_code 9 = .ok (.iload_n 1, 1) := by decide +kernel
theorem d37_10 : decode jdk_29_method_69_code 10 = .ok (.ireturn, 1) := by decide +kernel
def Q_cmin (Z : State) (z : Int32) (h0 : Heap) (n0 : Nat) (v : Option Value) (h : Heap) (L : List Loc) : Prop := v = some (.int z) ∧ Fr n0 L ∧ h = h0
theorem ef_cmin (m : MethodId) (z : Int32) : entryFrame m #[(.int (32 : Int32)), (.int z)] 2 = mkF m 0 #[.val (.int (32 : Int32)), .val (.int z)] [] := by first | (simp [entryFrame, mkF, argsToLocals, Value.category]; done) | rfl
set_option maxRecDepth 65536 in
set_option maxHeartbeats 40000000 in
theorem cmin (l : Launch) (Z : State) (a0 : Array Value) (hw : ∀ d ∈ tables_1, d.before a0 Z = true) (ws : List Jvm.Cond) (z : Int32) (h0 : Heap) (n0 : Nat) (hzl : z < (32 : Int32)) :
    MetFree l (⟨"java/lang/Math", "min", "(II)I"⟩ : MethodName) (head1 (Jvm.Cond.code (⟨"java/lang/Math", "min", "(II)I"⟩ : MethodName) jdk_29_method_69_code 2 (some .int) :: ws) ({ frames := 0, cells := 0, slots := 0, locals := 0 } : Room)) (fun aA uU => aA = #[(.int (32 : Int32)), (.int z)] ∧ Z.Warmed39 uU.vm ∧ uU.heap = h0) (fun _ _ _ _ _ => True) (fun _ uU oO uU' => ∃ vV lL, oO = .returned vV ∧ Q_cmin Z z h0 n0 vV uU'.heap lL ∧ FrameEnd uU oO uU' lL ({ frames := 0, cells := 0, slots := 0, locals := 0 } : Room).cells ({ frames := 0, cells := 0, slots := 0, locals := 0 } : Room).slots) := by
  refine MetFree.of_bodySF (Jvm.Free.JP.mathPlain rfl (by decide +kernel)) hisR ?_
  intro p e s m args below meth c s₁ Bd hml0 hP hK
  obtain ⟨rfl, hZ, hh⟩ := hP
  have hx := Bd.exec
  have hby := Bd.bytes
  have hml : c.maxLocals = 2 := hml0
  have hown : s.vm.findClass "java/lang/Math" = some m.cls := findClass_of_methodNamed Bd.named
  have hnm := (name_of_methodNamed Bd.named Bd.method).1
  have X0 : Stand p l e ({ frames := 0, cells := 0, slots := 0, locals := 0 } : Room) s m #[(.int (32 : Int32)), (.int z)] below meth c s₁ [] 0 0 := Stand.of_body Bd
  have e0 : s₁.heap = h0 := by rw [← hh, Bd.state]; rfl
  have N0 := Fr.nil n0
  refine Rch.out (Rch.st (fun t k => castTop (ef_cmin m z) k) ?_)
  show Rch p.tables e below _ (s₁.setTop (mkF m 0 #[.val (.int (32 : Int32)), .val (.int z)] []))
  refine Rch.st (fun _ hr => XS.iloadN X0.here hx rfl (hb hby d37_0) rfl hr) ?_
  refine Rch.st (fun _ hr => XS.iloadN X0.here hx rfl (hb hby d37_1) rfl hr) ?_
  refine Rch.st (fun _ hr => XS.icmpYes X0.here hx rfl (pc0 := 2) (pc' := 9) rfl (hb hby d37_2) rfl (tlt hzl).2.2.1 (by decide) (by decide) hr) ?_
  refine Rch.st (fun _ hr => XS.iloadN X0.here hx rfl (hb hby d37_9) rfl hr) ?_
  obtain ⟨fs, hr, hrun, hended, hW, hsame⟩ := X0.leave (v := some (.int z)) (fun h => by rw [Bd.returns] at h; cases h)
  refine Rch.fin (u := s₁.setFrames fs) (own_retI X0 hx Bd.returns (hb hby d37_10) hr) ⟨_, hrun, hended, _, _, rfl, ?_, ⟨_, rfl⟩, hW, hsame.mono (by decide) (by decide)⟩
  show Q_cmin Z z h0 n0 _ s₁.heap _
  exact ⟨rfl, N0, e0⟩
theorem d35_0 : decode jdk_65_method_133_code 0 = .ok (.iload_n 1, 1) := by decide +kernel
theorem d35_1 : decode jdk_65_method_133_code 1 = .ok (.iload_n 2, 1) := by decide +kernel
theorem d35_2 : decode jdk_65_method_133_code 2 = .ok (.invokestatic 343, 3) := by decide +kernel
theorem pd_18 : parseMethodDescriptor "(II)V" = some ⟨[.int, .int], none⟩ := by decide +kernel
abbrev Y_22 : MethodName := ⟨"java/util/Arrays", "checkLength", "(II)V"⟩
theorem d35_5 : decode jdk_65_method_133_code 5 = .ok (.iload_n 2, 1) := by decide +kernel
theorem d35_6 : decode jdk_65_method_133_code 6 = .ok (.iload_n 1, 1) := by decide +kernel
theorem d35_7 : decode jdk_65_method_133_code 7 = .ok (.isub, 1) := by decide +kernel
theorem d35_8 : decode jdk_65_method_133_code 8 = .ok (.istore_n 3, 1) := by decide +kernel
theorem d35_9 : decode jdk_65_method_133_code 9 = .ok (.iload_n 3, 1) := by decide +kernel
theorem d35_10 : decode jdk_65_method_133_code 10 = .ok (.newarray .byte, 2) := by decide +kernel
theorem d35_12 : decode jdk_65_method_133_code 12 = .ok (.astore 4, 2) := by decide +kernel
theorem d35_14 : decode jdk_65_method_133_code 14 = .ok (.aload_n 0, 1) := by decide +kernel
theorem d35_15 : decode jdk_65_method_133_code 15 = .ok (.iload_n 1, 1) := by decide +kernel
theorem d35_16 : decode jdk_65_method_133_code 16 = .ok (.aload 4, 2) := by decide +kernel
theorem d35_18 : decode jdk_65_method_133_code 18 = .ok (.iconst 0, 1) := by decide +kernel
theorem d35_19 : decode jdk_65_method_133_code 19 = .ok (.aload_n 0, 1) := by decide +kernel
theorem d35_20 : decode jdk_65_method_133_code 20 = .ok (.arraylength, 1) := by decide +kernel
theorem d35_21 : decode jdk_65_method_133_code 21 = .ok (.iload_n 1, 1) := by decide +kernel
theorem d35_22 : decode jdk_65_method_133_code 22 = .ok (.isub, 1) := by decide +kernel
theorem d35_23 : decode jdk_65_method_133_code 23 = .ok (.iload_n 3, 1) := by decide +kernel
theorem d35_24 : decode jdk_65_method_133_code 24 = .ok (.invokestatic 304, 3) := by decide +kernel
theorem pd_19 : parseMethodDescriptor "(II)I" = some ⟨[.int, .int], some .int⟩ := by decide +kernel
abbrev Y_23 : MethodName := ⟨"java/lang/Math", "min", "(II)I"⟩
theorem d35_27 : decode jdk_65_method_133_code 27 = .ok (.invokestatic 150, 3) := by decide +kernel
theorem d35_30 : decode jdk_65_method_133_code 30 = .ok (.aload 4, 2) := by decide +kernel
theorem d35_32 : decode jdk_65_method_133_code 32 = .ok (.areturn, 1) := by decide +kernel
def Q_ccrb (Z : State) (d : Addr) (kd : ClassId) (vd : List Value) (z : Int32) (h0 : Heap) (n0 : Nat) (v : Option Value) (h : Heap) (L : List Loc) : Prop := ∃ (r : Addr) (kr : ClassId), v = some (.ref r) ∧ Fr n0 L ∧ Keep h0 h [] ∧ Old Z n0 h ∧ h0.size ≤ r ∧ Exa Z h r "[B" ∧ Arv Z h r kr .byte z (own_cp vd (List.replicate 26 (.int (0 : Int32))) ((0 : Int32)).toNatClampNeg (z).toNatClampNeg) (.int (0 : Int32))
theorem ef_ccrb (m : MethodId) (d : Addr) (kd : ClassId) (vd : List Value) (z : Int32) : entryFrame m #[(.ref d), (.int (0 : Int32)), (.int z)] 5 = mkF m 0 #[.val (.ref d), .val (.int (0 : Int32)), .val (.int z), .unset, .unset] [] := by first | (simp [entryFrame, mkF, argsToLocals, Value.category]; done) | rfl
set_option maxRecDepth 65536 in
set_option maxHeartbeats 40000000 in
theorem ccrb (l : Launch) (Z : State) (a0 : Array Value) (hw : ∀ d ∈ tables_1, d.before a0 Z = true) (ws : List Jvm.Cond) (d : Addr) (kd : ClassId) (vd : List Value) (z : Int32) (h0 : Heap) (n0 : Nat) (zP0 : Old Z n0 h0) (zP1 : Arv Z h0 d kd .byte (32 : Int32) vd (.int (0 : Int32))) (hz0 : ¬ z < (0 : Int32)) (hz26 : z.toNatClampNeg ≤ 26) (hz32 : ¬ z = (32 : Int32)) (hzl : z < (32 : Int32)) (hln : vd.length = 32) :
    MetFree l (⟨"java/util/Arrays", "copyOfRangeByte", "([BII)[B"⟩ : MethodName) (head1 (Jvm.Cond.code (⟨"java/util/Arrays", "copyOfRangeByte", "([BII)[B"⟩ : MethodName) jdk_65_method_133_code 5 (some (.array .byte)) :: ws) ({ frames := 1, cells := 1, slots := 26, locals := 40 } : Room)) (fun aA uU => aA = #[(.ref d), (.int (0 : Int32)), (.int z)] ∧ Z.Warmed39 uU.vm ∧ uU.heap = h0) (fun _ _ _ _ _ => True) (fun _ uU oO uU' => ∃ vV lL, oO = .returned vV ∧ Q_ccrb Z d kd vd z h0 n0 vV uU'.heap lL ∧ FrameEnd uU oO uU' lL ({ frames := 1, cells := 1, slots := 26, locals := 40 } : Room).cells ({ frames := 1, cells := 1, slots := 26, locals := 40 } : Room).slots) := by
  refine MetFree.of_bodySF (plainFor_of_name pn_java_util_Arrays) hisR ?_
  intro p e s m args below meth c s₁ Bd hml0 hP hK
  obtain ⟨rfl, hZ, hh⟩ := hP
  have hx := Bd.exec
  have hby := Bd.bytes
  have hml : c.maxLocals = 5 := hml0
  have hown : s.vm.findClass "java/util/Arrays" = some m.cls := findClass_of_methodNamed Bd.named
  have hnm := (name_of_methodNamed Bd.named Bd.method).1
  have X0 : Stand p l e ({ frames := 1, cells := 1, slots := 26, locals := 40 } : Room) s m #[(.ref d), (.int (0 : Int32)), (.int z)] below meth c s₁ [] 0 0 := Stand.of_body Bd
  have e0 : s₁.heap = h0 := by rw [← hh, Bd.state]; rfl
  have N0 := Fr.nil n0
  refine Rch.out (Rch.st (fun t k => castTop (ef_ccrb m d kd vd z) k) ?_)
  show Rch p.tables e below _ (s₁.setTop (mkF m 0 #[.val (.ref d), .val (.int (0 : Int32)), .val (.int z), .unset, .unset] []))
  refine Rch.st (fun _ hr => XS.iloadN X0.here hx rfl (hb hby d35_0) rfl hr) ?_
  refine Rch.st (fun _ hr => XS.iloadN X0.here hx rfl (hb hby d35_1) rfl hr) ?_
  obtain ⟨_, T1, Lc1, X1, hQ1, st1⟩ := own_callS X0 hx hZ (y := Y_22) hown (own_w hw 187 rfl) (own_w hw 188 rfl) (own_w hw 182 rfl) (own_w hw 189 rfl) (by decide) (W := 0) (cchk l Z a0 hw [] (0 : Int32) z h0 n0 hz0) (by decide) (by decide) e0 (by decide) (by decide) (g := (mkF m 2 #[.val (.ref d), .val (.int (0 : Int32)), .val (.int z), .unset, .unset] [(.int z), (.int (0 : Int32))])) rfl (by rw [hml]; rfl) (argsL := [(.int (0 : Int32)), (.int z)]) (rest := []) (lenOf pd_18 rfl) rfl (own_mr rfl rfl) (hb hby d35_2) rfl
  obtain ⟨rfl, N1q, e1⟩ := hQ1
  have N1 := Fr.app N0 N1q
  refine Rch.st st1 ?_
  refine Rch.st (fun _ hr => XS.iloadN X1.here hx rfl (hb hby d35_5) rfl hr) ?_
  refine Rch.st (fun _ hr => XS.iloadN X1.here hx rfl (hb hby d35_6) rfl hr) ?_
  refine Rch.st (fun _ hr => XS.isub X1.here hx rfl (hb hby d35_7) rfl hr) ?_
  refine Rch.st (fun _ hr => XS.istoreN X1.here hx rfl (hb hby d35_8) rfl (l' := #[.val (.ref d), .val (.int (0 : Int32)), .val (.int z), .val (.int (z - (0 : Int32))), .unset]) rfl hr) ?_
  show Rch p.tables e below _ (T1.setTop (mkF m 9 #[.val (.ref d), .val (.int (0 : Int32)), .val (.int z), .val (.int (z - (0 : Int32))), .unset] []))
  rw [own_z0]
  show Rch p.tables e below _ (T1.setTop (mkF m 9 #[.val (.ref d), .val (.int (0 : Int32)), .val (.int z), .val (.int z), .unset] []))
  refine Rch.st (fun _ hr => XS.iloadN X1.here hx rfl (hb hby d35_9) rfl hr) ?_
  obtain ⟨T2, h2, k2, X2, e2, E2, A2, B2, st2⟩ := newPE X1 hx hZ (own_w hw 15 rfl) e1 (g := (mkF m 10 #[.val (.ref d), .val (.int (0 : Int32)), .val (.int z), .val (.int z), .unset] [(.int z)])) rfl (hb hby d35_10) rfl hz0 (cap := 26) hz26 (by decide) (by decide) (by decide) (ad := "[B") rfl
  obtain ⟨b2, g2⟩ : ∃ z, z = h0.size := ⟨_, rfl⟩
  rw [← g2] at A2 B2 st2
  refine Rch.st st2 ?_
  have q2 : h0.size ≤ b2 := Nat.le_of_eq g2.symm
  have ne3 := Nat.ne_of_lt (Nat.lt_of_lt_of_le zP1.lt q2)
  have g_b2 : n0 ≤ b2 := Nat.le_trans (Nat.le_trans (Nat.le_of_eq zP0.1.symm) zP0.2.1) q2
  have sz_b2 : h0.size ≤ b2 := Nat.le_trans (Keep.refl h0 []).1 q2
  have K4 := (Keep.refl h0 []).ext E2
  have V2 : Arv Z h2 b2 k2 .byte z (List.replicate 26 (.int (0 : Int32))) (.int (0 : Int32)) := (Arv.new A2 hz0).pad (pad_rep [] (.int (0 : Int32)) 26)
  refine Rch.st (fun _ hr => XS.astore X2.here hx rfl (hb hby d35_12) rfl rfl (l' := #[.val (.ref d), .val (.int (0 : Int32)), .val (.int z), .val (.int z), .val (.ref b2)]) rfl hr) ?_
  refine Rch.st (fun _ hr => XS.aloadN X2.here hx rfl (hb hby d35_14) rfl rfl hr) ?_
  refine Rch.st (fun _ hr => XS.iloadN X2.here hx rfl (hb hby d35_15) rfl hr) ?_
  refine Rch.st (fun _ hr => XS.aload X2.here hx rfl (hb hby d35_16) rfl rfl hr) ?_
  refine Rch.st (fun _ hr => XS.iconst X2.here hx rfl (hb hby d35_18) hr) ?_
  refine Rch.st (fun _ hr => XS.aloadN X2.here hx rfl (hb hby d35_19) rfl rfl hr) ?_
  show Rch p.tables e below _ (T2.setTop (mkF m 20 #[.val (.ref d), .val (.int (0 : Int32)), .val (.int z), .val (.int z), .val (.ref b2)] [(.ref d), (.int (0 : Int32)), (.ref b2), (.int (0 : Int32)), (.ref d)]))
  have f5 := (zP1.ext E2)
  obtain ⟨cl6, Ar6, -, Sz6, Ng6, -, -⟩ := id f5
  refine Rch.st (fun t hr => X2.arraylength hx (by rw [e2]; exact Ar6.1) (State.isArrayOf_alike hZ.alike Ar6.2.1) (g := (mkF m 20 #[.val (.ref d), .val (.int (0 : Int32)), .val (.int z), .val (.int z), .val (.ref b2)] [(.ref d), (.int (0 : Int32)), (.ref b2), (.int (0 : Int32)), (.ref d)])) rfl rfl (hb hby d35_20) t hr) ?_
  rw [len_of Sz6 Ng6]
  refine Rch.st (fun _ hr => XS.iloadN X2.here hx rfl (hb hby d35_21) rfl hr) ?_
  refine Rch.st (fun _ hr => XS.isub X2.here hx rfl (hb hby d35_22) rfl hr) ?_
  refine Rch.st (fun _ hr => XS.iloadN X2.here hx rfl (hb hby d35_23) rfl hr) ?_
  obtain ⟨_, T7, Lc7, X7, hQ7, st7⟩ := own_callS X2 hx hZ (y := Y_23) hown (own_w hw 190 rfl) (own_w hw 191 rfl) (own_w hw 192 rfl) (own_w hw 193 rfl) (by decide) (W := 4) (cmin l Z a0 hw [] z h2 n0 hzl) (by decide) (by decide) e2 (by decide) (by decide) (g := (mkF m 24 #[.val (.ref d), .val (.int (0 : Int32)), .val (.int z), .val (.int z), .val (.ref b2)] [(.int z), (.int (32 : Int32)), (.int (0 : Int32)), (.ref b2), (.int (0 : Int32)), (.ref d)])) rfl (by rw [hml]; rfl) (argsL := [(.int (32 : Int32)), (.int z)]) (rest := [(.int (0 : Int32)), (.ref b2), (.int (0 : Int32)), (.ref d)]) (lenOf pd_19 rfl) rfl (own_mr rfl rfl) (hb hby d35_24) rfl
  obtain ⟨rfl, N7q, e7⟩ := hQ7
  have N7 := Fr.app N1 N7q
  refine Rch.st st7 ?_
  obtain ⟨T8, h8, Lq8, X8, e8, N8, Kq8, Vq8, st8⟩ := cpA X7 hx hZ hown (own_w hw 194 rfl) (own_w hw 124 rfl) (own_w hw 122 rfl) (own_w hw 123 rfl) e7 f5 V2 (Or.inl ⟨rfl, rfl⟩) (by decide) (by decide) hz0 (by rw [show (0 : Int32).toNatClampNeg = 0 from rfl, show (32 : Int32).toNatClampNeg = 32 from rfl]; omega) (by rw [show (0 : Int32).toNatClampNeg = 0 from rfl, Nat.zero_add]; exact Nat.le_refl _) rfl (by rw [show (0 : Int32).toNatClampNeg = 0 from rfl, List.length_replicate]; omega) N7 g_b2 (g := (mkF m 27 #[.val (.ref d), .val (.int (0 : Int32)), .val (.int z), .val (.int z), .val (.ref b2)] [(.int z), (.int (0 : Int32)), (.ref b2), (.int (0 : Int32)), (.ref d)])) rfl (by rw [hml]; rfl) (rest := []) rfl (hb hby d35_27) (by decide) (W := 0) (own_mr rfl rfl) (by decide)
  refine Rch.st st8 ?_
  have f9 := (zP0.ext E2)
  have K10 := K4.trans Kq8 (allS (Or.inr sz_b2) all0)
  have Vc8 : Arv Z h8 b2 k2 .byte z (own_cp vd (List.replicate 26 (.int (0 : Int32))) ((0 : Int32)).toNatClampNeg (z).toNatClampNeg) (.int (0 : Int32)) := Vq8
  refine Rch.st (fun _ hr => XS.aload X8.here hx rfl (hb hby d35_30) rfl rfl hr) ?_
  obtain ⟨fs, hr, hrun, hended, hW, hsame⟩ := X8.leave (v := some (.ref b2)) (fun h => by rw [Bd.returns] at h; cases h)
  have f11 := (f9.keep Kq8 (allS g_b2 all0))
  have f12 := (B2.keep Kq8)
  refine Rch.fin (u := T8.setFrames fs) (own_retA X8 hx Bd.returns rfl rfl rfl (hb hby d35_32) hr) ⟨_, hrun, hended, _, _, rfl, ?_, ⟨_, rfl⟩, hW, hsame.mono (by decide) (by decide)⟩
  show Q_ccrb Z d kd vd z h0 n0 _ T8.heap _
  rw [e8]
  exact ⟨b2, k2, rfl, N8, K10, f11, sz_b2, f12, Vc8⟩
theorem d34_0 : decode jdk_65_method_132_code 0 = .ok (.iload_n 1, 1) := by decide +kernel
theorem d34_1 : decode jdk_65_method_132_code 1 = .ok (.ifCond .ne 9, 3) := by decide +kernel
theorem d34_4 : decode jdk_65_method_132_code 4 = .ok (.iload_n 2, 1) := by decide +kernel
theorem d34_5 : decode jdk_65_method_132_code 5 = .ok (.aload_n 0, 1) := by decide +kernel
theorem d34_6 : decode jdk_65_method_132_code 6 = .ok (.arraylength, 1) := by decide +kernel
theorem d34_7 : decode jdk_65_method_132_code 7 = .ok (.if_icmp .eq 10, 3) := by decide +kernel
theorem d34_10 : decode jdk_65_method_132_code 10 = .ok (.aload_n 0, 1) := by decide +kernel
theorem d34_11 : decode jdk_65_method_132_code 11 = .ok (.iload_n 1, 1) := by decide +kernel
theorem d34_12 : decode jdk_65_method_132_code 12 = .ok (.iload_n 2, 1) := by decide +kernel
theorem d34_13 : decode jdk_65_method_132_code 13 = .ok (.invokestatic 339, 3) := by decide +kernel
theorem pd_20 : parseMethodDescriptor "([BII)[B" = some ⟨[(.array .byte), .int, .int], some (.array .byte)⟩ := by decide +kernel
abbrev Y_24 : MethodName := ⟨"java/util/Arrays", "copyOfRangeByte", "([BII)[B"⟩
theorem d34_16 : decode jdk_65_method_132_code 16 = .ok (.areturn, 1) := by decide +kernel
def Q_ccor (Z : State) (d : Addr) (kd : ClassId) (vd : List Value) (z : Int32) (h0 : Heap) (n0 : Nat) (v : Option Value) (h : Heap) (L : List Loc) : Prop := ∃ (r : Addr) (kr : ClassId), v = some (.ref r) ∧ Fr n0 L ∧ Keep h0 h [] ∧ Old Z n0 h ∧ h0.size ≤ r ∧ Exa Z h r "[B" ∧ Arv Z h r kr .byte z (own_cp vd (List.replicate 26 (.int (0 : Int32))) ((0 : Int32)).toNatClampNeg (z).toNatClampNeg) (.int (0 : Int32))
theorem ef_ccor (m : MethodId) (d : Addr) (kd : ClassId) (vd : List Value) (z : Int32) : entryFrame m #[(.ref d), (.int (0 : Int32)), (.int z)] 3 = mkF m 0 #[.val (.ref d), .val (.int (0 : Int32)), .val (.int z)] [] := by first | (simp [entryFrame, mkF, argsToLocals, Value.category]; done) | rfl
set_option maxRecDepth 65536 in
set_option maxHeartbeats 40000000 in
theorem ccor (l : Launch) (Z : State) (a0 : Array Value) (hw : ∀ d ∈ tables_1, d.before a0 Z = true) (ws : List Jvm.Cond) (d : Addr) (kd : ClassId) (vd : List Value) (z : Int32) (h0 : Heap) (n0 : Nat) (zP0 : Old Z n0 h0) (zP1 : Arv Z h0 d kd .byte (32 : Int32) vd (.int (0 : Int32))) (hz0 : ¬ z < (0 : Int32)) (hz26 : z.toNatClampNeg ≤ 26) (hz32 : ¬ z = (32 : Int32)) (hzl : z < (32 : Int32)) (hln : vd.length = 32) :
    MetFree l (⟨"java/util/Arrays", "copyOfRange", "([BII)[B"⟩ : MethodName) (head1 (Jvm.Cond.code (⟨"java/util/Arrays", "copyOfRange", "([BII)[B"⟩ : MethodName) jdk_65_method_132_code 3 (some (.array .byte)) :: ws) ({ frames := 2, cells := 1, slots := 26, locals := 56 } : Room)) (fun aA uU => aA = #[(.ref d), (.int (0 : Int32)), (.int z)] ∧ Z.Warmed39 uU.vm ∧ uU.heap = h0) (fun _ _ _ _ _ => True) (fun _ uU oO uU' => ∃ vV lL, oO = .returned vV ∧ Q_ccor Z d kd vd z h0 n0 vV uU'.heap lL ∧ FrameEnd uU oO uU' lL ({ frames := 2, cells := 1, slots := 26, locals := 56 } : Room).cells ({ frames := 2, cells := 1, slots := 26, locals := 56 } : Room).slots) := by
  refine MetFree.of_bodySF (plainFor_of_name pn_java_util_Arrays) hisR ?_
  intro p e s m args below meth c s₁ Bd hml0 hP hK
  obtain ⟨rfl, hZ, hh⟩ := hP
  have hx := Bd.exec
  have hby := Bd.bytes
  have hml : c.maxLocals = 3 := hml0
  have hown : s.vm.findClass "java/util/Arrays" = some m.cls := findClass_of_methodNamed Bd.named
  have hnm := (name_of_methodNamed Bd.named Bd.method).1
  have X0 : Stand p l e ({ frames := 2, cells := 1, slots := 26, locals := 56 } : Room) s m #[(.ref d), (.int (0 : Int32)), (.int z)] below meth c s₁ [] 0 0 := Stand.of_body Bd
  have e0 : s₁.heap = h0 := by rw [← hh, Bd.state]; rfl
  have N0 := Fr.nil n0
  refine Rch.out (Rch.st (fun t k => castTop (ef_ccor m d kd vd z) k) ?_)
  show Rch p.tables e below _ (s₁.setTop (mkF m 0 #[.val (.ref d), .val (.int (0 : Int32)), .val (.int z)] []))
  refine Rch.st (fun _ hr => XS.iloadN X0.here hx rfl (hb hby d34_0) rfl hr) ?_
  refine Rch.st (fun _ hr => XS.ifNo X0.here hx rfl (hb hby d34_1) rfl ((if0 _ _).trans (teq (by decide : (0 : Int32) = (0 : Int32))).2) hr) ?_
  refine Rch.st (fun _ hr => XS.iloadN X0.here hx rfl (hb hby d34_4) rfl hr) ?_
  refine Rch.st (fun _ hr => XS.aloadN X0.here hx rfl (hb hby d34_5) rfl rfl hr) ?_
  obtain ⟨cl1, Ar1, -, Sz1, Ng1, -, -⟩ := id zP1
  refine Rch.st (fun t hr => X0.arraylength hx (by rw [e0]; exact Ar1.1) (State.isArrayOf_alike hZ.alike Ar1.2.1) (g := (mkF m 6 #[.val (.ref d), .val (.int (0 : Int32)), .val (.int z)] [(.ref d), (.int z)])) rfl rfl (hb hby d34_6) t hr) ?_
  rw [len_of Sz1 Ng1]
  refine Rch.st (fun _ hr => XS.icmpNo X0.here hx rfl (hb hby d34_7) rfl (feq hz32).1 hr) ?_
  refine Rch.st (fun _ hr => XS.aloadN X0.here hx rfl (hb hby d34_10) rfl rfl hr) ?_
  refine Rch.st (fun _ hr => XS.iloadN X0.here hx rfl (hb hby d34_11) rfl hr) ?_
  show Rch p.tables e below _ (s₁.setTop (mkF m 12 #[.val (.ref d), .val (.int (0 : Int32)), .val (.int z)] [(.int (0 : Int32)), (.ref d)]))
  refine Rch.st (fun _ hr => XS.iloadN X0.here hx rfl (hb hby d34_12) rfl hr) ?_
  obtain ⟨_, T2, Lc2, X2, hQ2, st2⟩ := own_callS X0 hx hZ (y := Y_24) hown (own_w hw 184 rfl) (own_w hw 185 rfl) (own_w hw 182 rfl) (own_w hw 186 rfl) (by decide) (W := 0) (ccrb l Z a0 hw [] d kd vd z h0 n0 zP0 zP1 hz0 hz26 hz32 hzl hln) (by decide) (by decide) e0 (by decide) (by decide) (g := (mkF m 13 #[.val (.ref d), .val (.int (0 : Int32)), .val (.int z)] [(.int z), (.int (0 : Int32)), (.ref d)])) rfl (by rw [hml]; rfl) (argsL := [(.ref d), (.int (0 : Int32)), (.int z)]) (rest := []) (lenOf pd_20 rfl) rfl (own_mr rfl rfl) (hb hby d34_13) rfl
  obtain ⟨r_2, kr_2, rfl, N2q, Kp2, Op2, R2_0, R2_1, R2_2⟩ := hQ2
  have N2 := Fr.app N0 N2q
  refine Rch.st st2 ?_
  have ne3 := Nat.ne_of_lt (Nat.lt_of_lt_of_le zP1.lt R2_0)
  have g_r_2 : n0 ≤ r_2 := Nat.le_trans (Nat.le_trans (Nat.le_of_eq zP0.1.symm) zP0.2.1) R2_0
  have sz_r_2 : h0.size ≤ r_2 := Nat.le_trans (Keep.refl h0 []).1 R2_0
  have K4 := (Keep.refl h0 []).trans Kp2 all0
  obtain ⟨fs, hr, hrun, hended, hW, hsame⟩ := X2.leave (v := some (.ref r_2)) (fun h => by rw [Bd.returns] at h; cases h)
  refine Rch.fin (u := T2.setFrames fs) (own_retA X2 hx Bd.returns rfl rfl rfl (hb hby d34_16) hr) ⟨_, hrun, hended, _, _, rfl, ?_, ⟨_, rfl⟩, hW, hsame.mono (by decide) (by decide)⟩
  show Q_ccor Z d kd vd z h0 n0 _ T2.heap _
  exact ⟨r_2, kr_2, rfl, N2, K4, Op2, sz_r_2, R2_1, R2_2⟩
theorem d30_0 : decode jdk_42_method_150_code 0 = .ok (.aload_n 0, 1) := by decide +kernel
theorem d30_1 : decode jdk_42_method_150_code 1 = .ok (.invokespecial 1, 3) := by decide +kernel
theorem d30_4 : decode jdk_42_method_150_code 4 = .ok (.aload_n 1, 1) := by decide +kernel
theorem d30_5 : decode jdk_42_method_150_code 5 = .ok (.invokevirtual 552, 3) := by decide +kernel
theorem pd_21 : parseMethodDescriptor "()[B" = some ⟨[], some (.array .byte)⟩ := by decide +kernel
abbrev Y_25 : MethodName := ⟨"java/lang/AbstractStringBuilder", "getValue", "()[B"⟩
theorem d30_8 : decode jdk_42_method_150_code 8 = .ok (.astore_n 3, 1) := by decide +kernel
theorem d30_9 : decode jdk_42_method_150_code 9 = .ok (.aload_n 1, 1) := by decide +kernel
theorem d30_10 : decode jdk_42_method_150_code 10 = .ok (.invokevirtual 549, 3) := by decide +kernel
abbrev Y_26 : MethodName := ⟨"java/lang/StringBuilder", "length", "()I"⟩
theorem d30_13 : decode jdk_42_method_150_code 13 = .ok (.istore 4, 2) := by decide +kernel
theorem d30_15 : decode jdk_42_method_150_code 15 = .ok (.aload_n 1, 1) := by decide +kernel
theorem d30_16 : decode jdk_42_method_150_code 16 = .ok (.invokevirtual 1047, 3) := by decide +kernel
theorem d30_19 : decode jdk_42_method_150_code 19 = .ok (.ifCond .eq 22, 3) := by decide +kernel
theorem d30_22 : decode jdk_42_method_150_code 22 = .ok (.aload_n 0, 1) := by decide +kernel
theorem d30_23 : decode jdk_42_method_150_code 23 = .ok (.iconst 0, 1) := by decide +kernel
theorem d30_24 : decode jdk_42_method_150_code 24 = .ok (.putfield 15, 3) := by decide +kernel
theorem d30_27 : decode jdk_42_method_150_code 27 = .ok (.aload_n 0, 1) := by decide +kernel
theorem d30_28 : decode jdk_42_method_150_code 28 = .ok (.aload_n 3, 1) := by decide +kernel
theorem d30_29 : decode jdk_42_method_150_code 29 = .ok (.iconst 0, 1) := by decide +kernel
theorem d30_30 : decode jdk_42_method_150_code 30 = .ok (.iload 4, 2) := by decide +kernel
theorem d30_32 : decode jdk_42_method_150_code 32 = .ok (.invokestatic 54, 3) := by decide +kernel
abbrev Y_27 : MethodName := ⟨"java/util/Arrays", "copyOfRange", "([BII)[B"⟩
theorem d30_35 : decode jdk_42_method_150_code 35 = .ok (.putfield 9, 3) := by decide +kernel
theorem d30_38 : decode jdk_42_method_150_code 38 = .ok (.goto 59, 3) := by decide +kernel
theorem d30_97 : decode jdk_42_method_150_code 97 = .ok (.return_, 1) := by decide +kernel
def Q_cstrA (Z : State) (a : Addr) (sb : Addr) (d : Addr) (kd : ClassId) (vd : List Value) (z : Int32) (cs : Int32) (h0 : Heap) (n0 : Nat) (v : Option Value) (h : Heap) (L : List Loc) : Prop := ∃ (bx : Addr) (kb : ClassId), v = none ∧ Fr n0 L ∧ Keep h0 h [a] ∧ Old Z n0 h ∧ Exa Z h a "java/lang/String" ∧ Fld Z h a "java/lang/String" "coder" "B" (.int (0 : Int32)) ∧ Fld Z h a "java/lang/String" "value" "[B" (.ref bx) ∧ h0.size ≤ bx ∧ Exa Z h bx "[B" ∧ Arv Z h bx kb .byte z (own_cp vd (List.replicate 26 (.int (0 : Int32))) ((0 : Int32)).toNatClampNeg (z).toNatClampNeg) (.int (0 : Int32))
theorem ef_cstrA (m : MethodId) (a : Addr) (sb : Addr) (d : Addr) (kd : ClassId) (vd : List Value) (z : Int32) (cs : Int32) : entryFrame m #[(.ref a), (.ref sb), .null] 5 = mkF m 0 #[.val (.ref a), .val (.ref sb), .val .null, .unset, .unset] [] := by first | (simp [entryFrame, mkF, argsToLocals, Value.category]; done) | rfl
set_option maxRecDepth 65536 in
set_option maxHeartbeats 40000000 in
theorem cstrA (l : Launch) (Z : State) (a0 : Array Value) (hw : ∀ d ∈ tables_1, d.before a0 Z = true) (ws : List Jvm.Cond) (a : Addr) (sb : Addr) (d : Addr) (kd : ClassId) (vd : List Value) (z : Int32) (cs : Int32) (h0 : Heap) (n0 : Nat) (zD0 : Sta Z Z.heap "java/lang/String" "COMPACT_STRINGS" "Z" (.int cs)) (zP0 : Old Z n0 h0) (zP1 : Exa Z h0 a "java/lang/String") (zP2 : Fld Z h0 a "java/lang/String" "coder" "B" (.int (0 : Int32))) (zP3 : Fld Z h0 a "java/lang/String" "value" "[B" .null) (zP4 : n0 ≤ a) (zP5 : Exa Z h0 sb "java/lang/StringBuilder") (zP6 : Fld Z h0 sb "java/lang/AbstractStringBuilder" "coder" "B" (.int (0 : Int32))) (zP7 : Fld Z h0 sb "java/lang/AbstractStringBuilder" "value" "[B" (.ref d)) (zP8 : Fld Z h0 sb "java/lang/AbstractStringBuilder" "count" "I" (.int z)) (zP9 : Arv Z h0 d kd .byte (32 : Int32) vd (.int (0 : Int32))) (hcs : ¬ cs = (0 : Int32)) (hz0 : ¬ z < (0 : Int32)) (hz26 : z.toNatClampNeg ≤ 26) (hz32 : ¬ z = (32 : Int32)) (hzl : z < (32 : Int32)) (hln : vd.length = 32) :
    MetFree l (⟨"java/lang/String", "<init>", "(Ljava/lang/AbstractStringBuilder;Ljava/lang/Void;)V"⟩ : MethodName) (head1 (Jvm.Cond.code (⟨"java/lang/String", "<init>", "(Ljava/lang/AbstractStringBuilder;Ljava/lang/Void;)V"⟩ : MethodName) jdk_42_method_150_code 5 none :: ws) ({ frames := 3, cells := 1, slots := 26, locals := 71 } : Room)) (fun aA uU => aA = #[(.ref a), (.ref sb), .null] ∧ Z.Warmed39 uU.vm ∧ uU.heap = h0) (fun _ _ _ _ _ => True) (fun _ uU oO uU' => ∃ vV lL, oO = .returned vV ∧ Q_cstrA Z a sb d kd vd z cs h0 n0 vV uU'.heap lL ∧ FrameEnd uU oO uU' lL ({ frames := 3, cells := 1, slots := 26, locals := 71 } : Room).cells ({ frames := 3, cells := 1, slots := 26, locals := 71 } : Room).slots) := by
  refine MetFree.of_bodySF (plainFor_of_name pn_java_lang_String) hisR ?_
  intro p e s m args below meth c s₁ Bd hml0 hP hK
  obtain ⟨rfl, hZ, hh⟩ := hP
  have hx := Bd.exec
  have hby := Bd.bytes
  have hml : c.maxLocals = 5 := hml0
  have hown : s.vm.findClass "java/lang/String" = some m.cls := findClass_of_methodNamed Bd.named
  have hnm := (name_of_methodNamed Bd.named Bd.method).1
  have X0 : Stand p l e ({ frames := 3, cells := 1, slots := 26, locals := 71 } : Room) s m #[(.ref a), (.ref sb), .null] below meth c s₁ [] 0 0 := Stand.of_body Bd
  have e0 : s₁.heap = h0 := by rw [← hh, Bd.state]; rfl
  have N0 := Fr.nil n0
  refine Rch.out (Rch.st (fun t k => castTop (ef_cstrA m a sb d kd vd z cs) k) ?_)
  show Rch p.tables e below _ (s₁.setTop (mkF m 0 #[.val (.ref a), .val (.ref sb), .val .null, .unset, .unset] []))
  refine Rch.st (fun _ hr => XS.aloadN X0.here hx rfl (hb hby d30_0) rfl rfl hr) ?_
  obtain ⟨T1, X1, e1, st1⟩ := initO X0 hx hZ hown (own_w hw 11 rfl) (own_w hw 12 rfl) (own_w hw 13 rfl) e0 (g := (mkF m 1 #[.val (.ref a), .val (.ref sb), .val .null, .unset, .unset] [(.ref a)])) rfl (by rw [hml]; rfl) rfl (hb hby d30_1) (by decide) (W := 0) (own_mr rfl rfl) (by decide)
  refine Rch.st st1 ?_
  refine Rch.st (fun _ hr => XS.aloadN X1.here hx rfl (hb hby d30_4) rfl rfl hr) ?_
  obtain ⟨_, T2, Lc2, X2, hQ2, st2⟩ := own_callV X1 hx hZ (y := Y_25) (z := Y_25) hown (own_w hw 166 rfl) (own_w hw 167 rfl) (notFace_of_selects (args := #[]) (mvT hZ (own_w hw 169 rfl))) (own_w hw 169 rfl) (own_w hw 168 rfl) (own_w hw 65 rfl) (own_w hw 170 rfl) (by decide) (W := 0) (cgval l Z a0 hw [] sb d h0 n0 zP7) (by decide) (by decide) e1 zP5 (by decide) (by decide) (g := (mkF m 5 #[.val (.ref a), .val (.ref sb), .val .null, .unset, .unset] [(.ref sb)])) rfl (by rw [hml]; rfl) (argsL := []) (rest := []) (lenOf pd_21 rfl) rfl (own_mr rfl rfl) (hb hby d30_5) rfl
  obtain ⟨rfl, N2q, e2⟩ := hQ2
  have N2 := Fr.app N0 N2q
  refine Rch.st st2 ?_
  refine Rch.st (fun _ hr => XS.astoreN X2.here hx rfl (hb hby d30_8) rfl rfl (l' := #[.val (.ref a), .val (.ref sb), .val .null, .val (.ref d), .unset]) rfl hr) ?_
  refine Rch.st (fun _ hr => XS.aloadN X2.here hx rfl (hb hby d30_9) rfl rfl hr) ?_
  obtain ⟨_, T3, Lc3, X3, hQ3, st3⟩ := own_callV X2 hx hZ (y := Y_21) (z := Y_26) hown (own_w hw 171 rfl) (own_w hw 172 rfl) (own_nf (y0 := (⟨"java/lang/AbstractStringBuilder", "ensureCapacityInternal", "(I)V"⟩ : MethodName)) (mvT hZ (args := #[]) (own_w hw 103 rfl)) (mvT hZ (args := #[]) (own_w hw 101 rfl)) rfl) (own_w hw 174 rfl) (own_w hw 175 rfl) (own_w hw 56 rfl) (own_w hw 176 rfl) (by decide) (W := 0) (cslen l Z a0 hw [] sb z h0 n0 zP5 zP8) (by decide) (by decide) e2 zP5 (by decide) (by decide) (g := (mkF m 10 #[.val (.ref a), .val (.ref sb), .val .null, .val (.ref d), .unset] [(.ref sb)])) rfl (by rw [hml]; rfl) (argsL := []) (rest := []) (lenOf pd_10 rfl) rfl (own_mr rfl rfl) (hb hby d30_10) rfl
  obtain ⟨rfl, N3q, e3⟩ := hQ3
  have N3 := Fr.app N2 N3q
  refine Rch.st st3 ?_
  refine Rch.st (fun _ hr => XS.istore X3.here hx rfl (hb hby d30_13) rfl (l' := #[.val (.ref a), .val (.ref sb), .val .null, .val (.ref d), .val (.int z)]) rfl hr) ?_
  show Rch p.tables e below _ (T3.setTop (mkF m 15 #[.val (.ref a), .val (.ref sb), .val .null, .val (.ref d), .val (.int z)] []))
  refine Rch.st (fun _ hr => XS.aloadN X3.here hx rfl (hb hby d30_15) rfl rfl hr) ?_
  obtain ⟨_, T4, Lc4, X4, hQ4, st4⟩ := own_callV X3 hx hZ (y := Y_15) (z := Y_15) hown (own_w hw 179 rfl) (own_w hw 144 rfl) (notFace_of_selects (args := #[]) (mvT hZ (own_w hw 146 rfl))) (own_w hw 146 rfl) (own_w hw 145 rfl) (own_w hw 65 rfl) (own_w hw 147 rfl) (by decide) (W := 0) (cisl l Z a0 hw [] sb cs h0 n0 zD0 zP0 zP6 hcs) (by decide) (by decide) e3 zP5 (by decide) (by decide) (g := (mkF m 16 #[.val (.ref a), .val (.ref sb), .val .null, .val (.ref d), .val (.int z)] [(.ref sb)])) rfl (by rw [hml]; rfl) (argsL := []) (rest := []) (lenOf pd_15 rfl) rfl (own_mr rfl rfl) (hb hby d30_16) rfl
  obtain ⟨rfl, N4q, e4⟩ := hQ4
  have N4 := Fr.app N3 N4q
  refine Rch.st st4 ?_
  refine Rch.st (fun _ hr => XS.ifNo X4.here hx rfl (hb hby d30_19) rfl ((if0 _ _).trans (feq (by decide : ¬ ((1 : Int32) = (0 : Int32)))).1) hr) ?_
  refine Rch.st (fun _ hr => XS.aloadN X4.here hx rfl (hb hby d30_22) rfl rfl hr) ?_
  refine Rch.st (fun _ hr => XS.iconst X4.here hx rfl (hb hby d30_23) hr) ?_
  obtain ⟨T5, h5, X5, e5, W5, st5⟩ := putFN X4 hx hZ hown (own_w hw 21 rfl) Via.refl e4 zP2 zP1 (Or.inr ⟨(own_w hw 17 rfl), rfl, hnm⟩) (own_w hw 1 rfl) (ty := .byte) (v' := .int (nar .byte (0 : Int32))) (by decide) rfl (fits_nar_byte _) (g := (mkF m 24 #[.val (.ref a), .val (.ref sb), .val .null, .val (.ref d), .val (.int z)] [(.int (0 : Int32)), (.ref a)])) rfl rfl (hb hby d30_24)
  refine Rch.st st5 ?_
  have N5 := Fr.snoc X5 N4 zP4
  have ne6 := (Exa.ne zP5 zP1 (by decide))
  have ne7 := (Ne.symm (Exa.neArv zP1 zP9 (own_w hw 1 rfl)))
  have K8 := (Keep.refl h0 [a]).wr W5 (Or.inl (List.mem_of_getElem? (i := 0) rfl))
  have Fw5 : Fld Z h5 a "java/lang/String" "coder" "B" (.int (0 : Int32)) := zP2.same W5
  refine Rch.st (fun _ hr => XS.aloadN X5.here hx rfl (hb hby d30_27) rfl rfl hr) ?_
  refine Rch.st (fun _ hr => XS.aloadN X5.here hx rfl (hb hby d30_28) rfl rfl hr) ?_
  show Rch p.tables e below _ (T5.setTop (mkF m 29 #[.val (.ref a), .val (.ref sb), .val .null, .val (.ref d), .val (.int z)] [(.ref d), (.ref a)]))
  refine Rch.st (fun _ hr => XS.iconst X5.here hx rfl (hb hby d30_29) hr) ?_
  refine Rch.st (fun _ hr => XS.iload X5.here hx rfl (hb hby d30_30) rfl hr) ?_
  have f10 := (zP0.wr W5 zP4)
  have f11 := (zP9.other W5 ne7)
  obtain ⟨_, T9, Lc9, X9, hQ9, st9⟩ := own_callS X5 hx hZ (y := Y_27) hown (own_w hw 180 rfl) (own_w hw 181 rfl) (own_w hw 182 rfl) (own_w hw 183 rfl) (by decide) (W := 1) (ccor l Z a0 hw [] d kd vd z h5 n0 f10 f11 hz0 hz26 hz32 hzl hln) (by decide) (by decide) e5 (by decide) (by decide) (g := (mkF m 32 #[.val (.ref a), .val (.ref sb), .val .null, .val (.ref d), .val (.int z)] [(.int z), (.int (0 : Int32)), (.ref d), (.ref a)])) rfl (by rw [hml]; rfl) (argsL := [(.ref d), (.int (0 : Int32)), (.int z)]) (rest := [(.ref a)]) (lenOf pd_20 rfl) rfl (own_mr rfl rfl) (hb hby d30_32) rfl
  obtain ⟨r_9, kr_9, rfl, N9q, Kp9, Op9, R9_0, R9_1, R9_2⟩ := hQ9
  have N9 := Fr.app N5 N9q
  refine Rch.st st9 ?_
  have f12 := (zP3.other W5 (Or.inr (slot_ne (Or.inr (own_w hw 16 rfl)) (Or.inr (own_w hw 17 rfl)) (by decide) (t := (.array .byte)) (t' := .byte) (by decide) (by decide))))
  have ne13 := Nat.ne_of_lt (Nat.lt_of_lt_of_le f12.lt R9_0)
  have f14 := (zP8.other W5 (Or.inl ne6))
  have ne15 := Nat.ne_of_lt (Nat.lt_of_lt_of_le f14.lt R9_0)
  have ne16 := Nat.ne_of_lt (Nat.lt_of_lt_of_le f11.lt R9_0)
  have g_r_9 : n0 ≤ r_9 := Nat.le_trans (Nat.le_trans (Nat.le_of_eq f10.1.symm) f10.2.1) R9_0
  have sz_r_9 : h0.size ≤ r_9 := Nat.le_trans K8.1 R9_0
  have K17 := K8.trans Kp9 all0
  have f18 := (f12.keep Kp9 nin0)
  have f19 := ((zP1.wr W5).keep Kp9)
  obtain ⟨T20, h20, X20, e20, W20, st20⟩ := putF X9 hx hZ hown (host := "") (Or.inl (own_w hw 20 rfl)) Via.refl rfl f18 f19 (Or.inr ⟨(own_w hw 16 rfl), rfl, hnm⟩) (own_w hw 1 rfl) (ty := (.array .byte)) (by decide) rfl rfl (g := (mkF m 35 #[.val (.ref a), .val (.ref sb), .val .null, .val (.ref d), .val (.int z)] [(.ref r_9), (.ref a)])) rfl rfl (hb hby d30_35)
  refine Rch.st st20 ?_
  have N20 := Fr.snoc X20 N9 zP4
  have K21 := K17.wr W20 (Or.inl (List.mem_of_getElem? (i := 0) rfl))
  have Fw20 := f18.same W20
  refine Rch.st (fun _ hr => XS.goto X20.here hx rfl (pc0 := 38) (pc' := 97) rfl (hb hby d30_38) (by decide) (by decide) hr) ?_
  obtain ⟨fs, hr, hrun, hended, hW, hsame⟩ := X20.leave (v := none) (fun _ => rfl)
  have f22 := (Op9.wr W20 zP4)
  have f23 := (f19.wr W20)
  have f24 := ((Fw5.keep Kp9 nin0).other W20 (Or.inr (slot_ne (Or.inr (own_w hw 17 rfl)) (Or.inr (own_w hw 16 rfl)) (by decide) (t := .byte) (t' := (.array .byte)) (by decide) (by decide))))
  have f25 := (R9_1.wr W20)
  have f26 := (R9_2.other W20 (Ne.symm ne13))
  refine Rch.fin (u := T20.setFrames fs) (X20.returnOut hx Bd.returns (hb hby d30_97) hr) ⟨_, hrun, hended, _, _, rfl, ?_, ⟨_, rfl⟩, hW, hsame.mono (by decide) (by decide)⟩
  show Q_cstrA Z a sb d kd vd z cs h0 n0 _ T20.heap _
  rw [e20]
  exact ⟨r_9, kr_9, rfl, N20, K21, f22, f23, f24, Fw20, sz_r_9, f25, f26⟩
theorem d29_0 : decode jdk_42_method_53_code 0 = .ok (.aload_n 0, 1) := by decide +kernel
theorem d29_1 : decode jdk_42_method_53_code 1 = .ok (.aload_n 1, 1) := by decide +kernel
theorem d29_2 : decode jdk_42_method_53_code 2 = .ok (.aconst_null, 1) := by decide +kernel
theorem d29_3 : decode jdk_42_method_53_code 3 = .ok (.invokespecial 489, 3) := by decide +kernel
theorem pd_22 : parseMethodDescriptor "(Ljava/lang/AbstractStringBuilder;Ljava/lang/Void;)V" = some ⟨[(.object "java/lang/AbstractStringBuilder"), (.object "java/lang/Void")], none⟩ := by decide +kernel
abbrev Y_28 : MethodName := ⟨"java/lang/String", "<init>", "(Ljava/lang/AbstractStringBuilder;Ljava/lang/Void;)V"⟩
theorem d29_6 : decode jdk_42_method_53_code 6 = .ok (.return_, 1) := by decide +kernel
def Q_cstrS (Z : State) (a : Addr) (sb : Addr) (d : Addr) (kd : ClassId) (vd : List Value) (z : Int32) (cs : Int32) (h0 : Heap) (n0 : Nat) (v : Option Value) (h : Heap) (L : List Loc) : Prop := ∃ (bx : Addr) (kb : ClassId), v = none ∧ Fr n0 L ∧ Keep h0 h [a] ∧ Old Z n0 h ∧ Exa Z h a "java/lang/String" ∧ Fld Z h a "java/lang/String" "coder" "B" (.int (0 : Int32)) ∧ Fld Z h a "java/lang/String" "value" "[B" (.ref bx) ∧ h0.size ≤ bx ∧ Exa Z h bx "[B" ∧ Arv Z h bx kb .byte z (own_cp vd (List.replicate 26 (.int (0 : Int32))) ((0 : Int32)).toNatClampNeg (z).toNatClampNeg) (.int (0 : Int32))
theorem ef_cstrS (m : MethodId) (a : Addr) (sb : Addr) (d : Addr) (kd : ClassId) (vd : List Value) (z : Int32) (cs : Int32) : entryFrame m #[(.ref a), (.ref sb)] 2 = mkF m 0 #[.val (.ref a), .val (.ref sb)] [] := by first | (simp [entryFrame, mkF, argsToLocals, Value.category]; done) | rfl
set_option maxRecDepth 65536 in
set_option maxHeartbeats 40000000 in
theorem cstrS (l : Launch) (Z : State) (a0 : Array Value) (hw : ∀ d ∈ tables_1, d.before a0 Z = true) (ws : List Jvm.Cond) (a : Addr) (sb : Addr) (d : Addr) (kd : ClassId) (vd : List Value) (z : Int32) (cs : Int32) (h0 : Heap) (n0 : Nat) (zD0 : Sta Z Z.heap "java/lang/String" "COMPACT_STRINGS" "Z" (.int cs)) (zP0 : Old Z n0 h0) (zP1 : Exa Z h0 a "java/lang/String") (zP2 : Fld Z h0 a "java/lang/String" "coder" "B" (.int (0 : Int32))) (zP3 : Fld Z h0 a "java/lang/String" "value" "[B" .null) (zP4 : n0 ≤ a) (zP5 : Exa Z h0 sb "java/lang/StringBuilder") (zP6 : Fld Z h0 sb "java/lang/AbstractStringBuilder" "coder" "B" (.int (0 : Int32))) (zP7 : Fld Z h0 sb "java/lang/AbstractStringBuilder" "value" "[B" (.ref d)) (zP8 : Fld Z h0 sb "java/lang/AbstractStringBuilder" "count" "I" (.int z)) (zP9 : Arv Z h0 d kd .byte (32 : Int32) vd (.int (0 : Int32))) (hcs : ¬ cs = (0 : Int32)) (hz0 : ¬ z < (0 : Int32)) (hz26 : z.toNatClampNeg ≤ 26) (hz32 : ¬ z = (32 : Int32)) (hzl : z < (32 : Int32)) (hln : vd.length = 32) :
    MetFree l (⟨"java/lang/String", "<init>", "(Ljava/lang/StringBuilder;)V"⟩ : MethodName) (head1 (Jvm.Cond.code (⟨"java/lang/String", "<init>", "(Ljava/lang/StringBuilder;)V"⟩ : MethodName) jdk_42_method_53_code 2 none :: ws) ({ frames := 4, cells := 1, slots := 26, locals := 87 } : Room)) (fun aA uU => aA = #[(.ref a), (.ref sb)] ∧ Z.Warmed39 uU.vm ∧ uU.heap = h0) (fun _ _ _ _ _ => True) (fun _ uU oO uU' => ∃ vV lL, oO = .returned vV ∧ Q_cstrS Z a sb d kd vd z cs h0 n0 vV uU'.heap lL ∧ FrameEnd uU oO uU' lL ({ frames := 4, cells := 1, slots := 26, locals := 87 } : Room).cells ({ frames := 4, cells := 1, slots := 26, locals := 87 } : Room).slots) := by
  refine MetFree.of_bodySF (plainFor_of_name pn_java_lang_String) hisR ?_
  intro p e s m args below meth c s₁ Bd hml0 hP hK
  obtain ⟨rfl, hZ, hh⟩ := hP
  have hx := Bd.exec
  have hby := Bd.bytes
  have hml : c.maxLocals = 2 := hml0
  have hown : s.vm.findClass "java/lang/String" = some m.cls := findClass_of_methodNamed Bd.named
  have hnm := (name_of_methodNamed Bd.named Bd.method).1
  have X0 : Stand p l e ({ frames := 4, cells := 1, slots := 26, locals := 87 } : Room) s m #[(.ref a), (.ref sb)] below meth c s₁ [] 0 0 := Stand.of_body Bd
  have e0 : s₁.heap = h0 := by rw [← hh, Bd.state]; rfl
  have N0 := Fr.nil n0
  refine Rch.out (Rch.st (fun t k => castTop (ef_cstrS m a sb d kd vd z cs) k) ?_)
  show Rch p.tables e below _ (s₁.setTop (mkF m 0 #[.val (.ref a), .val (.ref sb)] []))
  refine Rch.st (fun _ hr => XS.aloadN X0.here hx rfl (hb hby d29_0) rfl rfl hr) ?_
  refine Rch.st (fun _ hr => XS.aloadN X0.here hx rfl (hb hby d29_1) rfl rfl hr) ?_
  refine Rch.st (fun _ hr => XS.aconstNull X0.here hx rfl (hb hby d29_2) hr) ?_
  obtain ⟨_, T1, Lc1, X1, hQ1, st1⟩ := own_callI X0 hx hZ (y := Y_28) rfl hown (own_w hw 163 rfl) (own_w hw 164 rfl) (own_w hw 2 rfl) (own_w hw 165 rfl) (by decide) (W := 0) (cstrA l Z a0 hw [] a sb d kd vd z cs h0 n0 zD0 zP0 zP1 zP2 zP3 zP4 zP5 zP6 zP7 zP8 zP9 hcs hz0 hz26 hz32 hzl hln) (by decide) (by decide) e0 (by decide) (by decide) (g := (mkF m 3 #[.val (.ref a), .val (.ref sb)] [.null, (.ref sb), (.ref a)])) rfl (by rw [hml]; rfl) (a := a) (argsL := [(.ref sb), .null]) (rest := []) (lenOf pd_22 rfl) rfl (own_mr rfl rfl) (hb hby d29_3) rfl
  obtain ⟨bx_1, kb_1, rfl, N1q, Kp1, Op1, R1_0, R1_1, R1_2, R1_3, R1_4, R1_5⟩ := hQ1
  have N1 := Fr.app N0 N1q
  refine Rch.st st1 ?_
  have ne2 := Nat.ne_of_lt (Nat.lt_of_lt_of_le zP3.lt R1_3)
  have ne3 := Nat.ne_of_lt (Nat.lt_of_lt_of_le zP8.lt R1_3)
  have ne4 := Nat.ne_of_lt (Nat.lt_of_lt_of_le zP9.lt R1_3)
  have g_bx_1 : n0 ≤ bx_1 := Nat.le_trans (Nat.le_trans (Nat.le_of_eq zP0.1.symm) zP0.2.1) R1_3
  have sz_bx_1 : h0.size ≤ bx_1 := Nat.le_trans (Keep.refl h0 [a]).1 R1_3
  have ne5 := (Exa.ne zP5 zP1 (by decide))
  have ne6 := (Ne.symm (Exa.neArv zP1 zP9 (own_w hw 1 rfl)))
  have K7 := (Keep.refl h0 [a]).trans Kp1 (allS (Or.inl (List.mem_of_getElem? (i := 0) rfl)) all0)
  obtain ⟨fs, hr, hrun, hended, hW, hsame⟩ := X1.leave (v := none) (fun _ => rfl)
  refine Rch.fin (u := T1.setFrames fs) (X1.returnOut hx Bd.returns (hb hby d29_6) hr) ⟨_, hrun, hended, _, _, rfl, ?_, ⟨_, rfl⟩, hW, hsame.mono (by decide) (by decide)⟩
  show Q_cstrS Z a sb d kd vd z cs h0 n0 _ T1.heap _
  exact ⟨bx_1, kb_1, rfl, N1, K7, Op1, R1_0, R1_1, R1_2, sz_bx_1, R1_4, R1_5⟩
theorem d28_0 : decode jdk_67_method_42_code 0 = .ok (.new 18, 3) := by decide +kernel
theorem d28_3 : decode jdk_67_method_42_code 3 = .ok (.dup, 1) := by decide +kernel
theorem d28_4 : decode jdk_67_method_42_code 4 = .ok (.aload_n 0, 1) := by decide +kernel
theorem d28_5 : decode jdk_67_method_42_code 5 = .ok (.invokespecial 137, 3) := by decide +kernel
theorem pd_23 : parseMethodDescriptor "(Ljava/lang/StringBuilder;)V" = some ⟨[(.object "java/lang/StringBuilder")], none⟩ := by decide +kernel
abbrev Y_29 : MethodName := ⟨"java/lang/String", "<init>", "(Ljava/lang/StringBuilder;)V"⟩
theorem d28_8 : decode jdk_67_method_42_code 8 = .ok (.areturn, 1) := by decide +kernel
def Q_ctos (Z : State) (sb : Addr) (d : Addr) (kd : ClassId) (vd : List Value) (z : Int32) (cs : Int32) (h0 : Heap) (n0 : Nat) (v : Option Value) (h : Heap) (L : List Loc) : Prop := ∃ (a : Addr) (bx : Addr) (kb : ClassId), v = some (.ref a) ∧ Fr n0 L ∧ Keep h0 h [] ∧ Old Z n0 h ∧ h0.size ≤ a ∧ Exa Z h a "java/lang/String" ∧ Fld Z h a "java/lang/String" "coder" "B" (.int (0 : Int32)) ∧ Fld Z h a "java/lang/String" "value" "[B" (.ref bx) ∧ h0.size ≤ bx ∧ Exa Z h bx "[B" ∧ Arv Z h bx kb .byte z (own_cp vd (List.replicate 26 (.int (0 : Int32))) ((0 : Int32)).toNatClampNeg (z).toNatClampNeg) (.int (0 : Int32))
theorem ef_ctos (m : MethodId) (sb : Addr) (d : Addr) (kd : ClassId) (vd : List Value) (z : Int32) (cs : Int32) : entryFrame m #[(.ref sb)] 1 = mkF m 0 #[.val (.ref sb)] [] := by first | (simp [entryFrame, mkF, argsToLocals, Value.category]; done) | rfl
set_option maxRecDepth 65536 in
set_option maxHeartbeats 40000000 in
theorem ctos (l : Launch) (Z : State) (a0 : Array Value) (hw : ∀ d ∈ tables_1, d.before a0 Z = true) (ws : List Jvm.Cond) (sb : Addr) (d : Addr) (kd : ClassId) (vd : List Value) (z : Int32) (cs : Int32) (h0 : Heap) (n0 : Nat) (zD0 : Sta Z Z.heap "java/lang/String" "COMPACT_STRINGS" "Z" (.int cs)) (zP0 : Old Z n0 h0) (zP1 : Exa Z h0 sb "java/lang/StringBuilder") (zP2 : Fld Z h0 sb "java/lang/AbstractStringBuilder" "coder" "B" (.int (0 : Int32))) (zP3 : Fld Z h0 sb "java/lang/AbstractStringBuilder" "value" "[B" (.ref d)) (zP4 : Fld Z h0 sb "java/lang/AbstractStringBuilder" "count" "I" (.int z)) (zP5 : Arv Z h0 d kd .byte (32 : Int32) vd (.int (0 : Int32))) (hcs : ¬ cs = (0 : Int32)) (hz0 : ¬ z < (0 : Int32)) (hz26 : z.toNatClampNeg ≤ 26) (hz32 : ¬ z = (32 : Int32)) (hzl : z < (32 : Int32)) (hln : vd.length = 32) :
    MetFree l (⟨"java/lang/StringBuilder", "toString", "()Ljava/lang/String;"⟩ : MethodName) (head1 (Jvm.Cond.code (⟨"java/lang/StringBuilder", "toString", "()Ljava/lang/String;"⟩ : MethodName) jdk_67_method_42_code 1 (some (.object "java/lang/String")) :: ws) ({ frames := 5, cells := 2, slots := 30, locals := 101 } : Room)) (fun aA uU => aA = #[(.ref sb)] ∧ Z.Warmed39 uU.vm ∧ uU.heap = h0) (fun _ _ _ _ _ => True) (fun _ uU oO uU' => ∃ vV lL, oO = .returned vV ∧ Q_ctos Z sb d kd vd z cs h0 n0 vV uU'.heap lL ∧ FrameEnd uU oO uU' lL ({ frames := 5, cells := 2, slots := 30, locals := 101 } : Room).cells ({ frames := 5, cells := 2, slots := 30, locals := 101 } : Room).slots) := by
  refine MetFree.of_bodySF (plainFor_of_name pn_java_lang_StringBuilder) hisR ?_
  intro p e s m args below meth c s₁ Bd hml0 hP hK
  obtain ⟨rfl, hZ, hh⟩ := hP
  have hx := Bd.exec
  have hby := Bd.bytes
  have hml : c.maxLocals = 1 := hml0
  have hown : s.vm.findClass "java/lang/StringBuilder" = some m.cls := findClass_of_methodNamed Bd.named
  have hnm := (name_of_methodNamed Bd.named Bd.method).1
  have X0 : Stand p l e ({ frames := 5, cells := 2, slots := 30, locals := 101 } : Room) s m #[(.ref sb)] below meth c s₁ [] 0 0 := Stand.of_body Bd
  have e0 : s₁.heap = h0 := by rw [← hh, Bd.state]; rfl
  have N0 := Fr.nil n0
  refine Rch.out (Rch.st (fun t k => castTop (ef_ctos m sb d kd vd z cs) k) ?_)
  show Rch p.tables e below _ (s₁.setTop (mkF m 0 #[.val (.ref sb)] []))
  obtain ⟨T1, h1, X1, e1, E1, A1, D1, -, st1⟩ := newO X0 hx hZ hown (own_w hw 159 rfl) (own_w hw 1 rfl) (own_w hw 2 rfl) e0 (g := (mkF m 0 #[.val (.ref sb)] [])) rfl (hb hby d28_0) (by decide) (by decide)
  obtain ⟨b1, g1⟩ : ∃ z, z = h0.size := ⟨_, rfl⟩
  rw [← g1] at A1 D1 st1
  refine Rch.st st1 ?_
  have q1 : h0.size ≤ b1 := Nat.le_of_eq g1.symm
  have ne2 := Nat.ne_of_lt (Nat.lt_of_lt_of_le zP4.lt q1)
  have ne3 := Nat.ne_of_lt (Nat.lt_of_lt_of_le zP5.lt q1)
  have g_b1 : n0 ≤ b1 := Nat.le_trans (Nat.le_trans (Nat.le_of_eq zP0.1.symm) zP0.2.1) q1
  have sz_b1 : h0.size ≤ b1 := Nat.le_trans (Keep.refl h0 []).1 q1
  have K4 := (Keep.refl h0 []).ext E1
  have F1_value : Fld Z h1 b1 "java/lang/String" "value" "[B" .null := D1 (Or.inr (own_w hw 16 rfl)) (ty := (.array .byte)) (by decide)
  have F1_coder : Fld Z h1 b1 "java/lang/String" "coder" "B" (.int (0 : Int32)) := D1 (Or.inr (own_w hw 17 rfl)) (ty := .byte) (by decide)
  refine Rch.st (fun _ hr => XS.dup X1.here hx rfl (hb hby d28_3) rfl rfl hr) ?_
  refine Rch.st (fun _ hr => XS.aloadN X1.here hx rfl (hb hby d28_4) rfl rfl hr) ?_
  have f6 := (zP0.ext E1)
  have f7 := (zP1.ext E1)
  have f8 := (zP2.ext E1)
  have f9 := (zP3.ext E1)
  have f10 := (zP4.ext E1)
  have f11 := (zP5.ext E1)
  obtain ⟨_, T5, Lc5, X5, hQ5, st5⟩ := own_callI X1 hx hZ (y := Y_29) rfl hown (own_w hw 160 rfl) (own_w hw 161 rfl) (own_w hw 2 rfl) (own_w hw 162 rfl) (by decide) (W := 1) (cstrS l Z a0 hw [] b1 sb d kd vd z cs h1 n0 zD0 f6 A1 F1_coder F1_value g_b1 f7 f8 f9 f10 f11 hcs hz0 hz26 hz32 hzl hln) (by decide) (by decide) e1 (by decide) (by decide) (g := (mkF m 5 #[.val (.ref sb)] [(.ref sb), (.ref b1), (.ref b1)])) rfl (by rw [hml]; rfl) (a := b1) (argsL := [(.ref sb)]) (rest := [(.ref b1)]) (lenOf pd_23 rfl) rfl (own_mr rfl rfl) (hb hby d28_5) rfl
  obtain ⟨bx_5, kb_5, rfl, N5q, Kp5, Op5, R5_0, R5_1, R5_2, R5_3, R5_4, R5_5⟩ := hQ5
  have N5 := Fr.app N0 N5q
  refine Rch.st st5 ?_
  have ne12 := Nat.ne_of_lt (Nat.lt_of_lt_of_le f10.lt R5_3)
  have ne13 := Nat.ne_of_lt (Nat.lt_of_lt_of_le f11.lt R5_3)
  have ne14 := Nat.ne_of_lt (Nat.lt_of_lt_of_le F1_coder.lt R5_3)
  have g_bx_5 : n0 ≤ bx_5 := Nat.le_trans (Nat.le_trans (Nat.le_of_eq f6.1.symm) f6.2.1) R5_3
  have sz_bx_5 : h0.size ≤ bx_5 := Nat.le_trans K4.1 R5_3
  have K15 := K4.trans Kp5 (allS (Or.inr sz_b1) all0)
  obtain ⟨fs, hr, hrun, hended, hW, hsame⟩ := X5.leave (v := some (.ref b1)) (fun h => by rw [Bd.returns] at h; cases h)
  refine Rch.fin (u := T5.setFrames fs) (own_retA X5 hx Bd.returns rfl rfl rfl (hb hby d28_8) hr) ⟨_, hrun, hended, _, _, rfl, ?_, ⟨_, rfl⟩, hW, hsame.mono (by decide) (by decide)⟩
  show Q_ctos Z sb d kd vd z cs h0 n0 _ T5.heap _
  exact ⟨b1, bx_5, kb_5, rfl, N5, K15, Op5, sz_b1, R5_0, R5_1, R5_2, sz_bx_5, R5_4, R5_5⟩
theorem own_ilt {i z : Int32} (h0 : ¬ i < (0 : Int32)) (h1 : i < z) : i.toNatClampNeg < z.toNatClampNeg := by
  rw [Int32.lt_iff_toInt_lt] at h0 h1
  have e0 : (0 : Int32).toInt = 0 := rfl
  show i.toInt.toNat < z.toInt.toNat
  omega
theorem d42_0 : decode jdk_123_method_3_code 0 = .ok (.iload_n 1, 1) := by decide +kernel
theorem d42_1 : decode jdk_123_method_3_code 1 = .ok (.iload_n 2, 1) := by decide +kernel
theorem d42_2 : decode jdk_123_method_3_code 2 = .ok (.iadd, 1) := by decide +kernel
theorem d42_3 : decode jdk_123_method_3_code 3 = .ok (.istore_n 3, 1) := by decide +kernel
theorem d42_4 : decode jdk_123_method_3_code 4 = .ok (.iload_n 1, 1) := by decide +kernel
theorem d42_5 : decode jdk_123_method_3_code 5 = .ok (.istore 4, 2) := by decide +kernel
theorem d42_7 : decode jdk_123_method_3_code 7 = .ok (.iload 4, 2) := by decide +kernel
theorem d42_9 : decode jdk_123_method_3_code 9 = .ok (.iload_n 3, 1) := by decide +kernel
theorem d42_10 : decode jdk_123_method_3_code 10 = .ok (.if_icmp .ge 21, 3) := by decide +kernel
theorem d42_13 : decode jdk_123_method_3_code 13 = .ok (.aload_n 0, 1) := by decide +kernel
theorem d42_14 : decode jdk_123_method_3_code 14 = .ok (.iload 4, 2) := by decide +kernel
theorem d42_16 : decode jdk_123_method_3_code 16 = .ok (.baload, 1) := by decide +kernel
theorem d42_17 : decode jdk_123_method_3_code 17 = .ok (.ifCond .ge 8, 3) := by decide +kernel
theorem d42_25 : decode jdk_123_method_3_code 25 = .ok (.iinc 4 1, 3) := by decide +kernel
theorem d42_28 : decode jdk_123_method_3_code 28 = .ok (.goto (-21), 3) := by decide +kernel
theorem d42_31 : decode jdk_123_method_3_code 31 = .ok (.iload_n 2, 1) := by decide +kernel
theorem d42_32 : decode jdk_123_method_3_code 32 = .ok (.ireturn, 1) := by decide +kernel
def Q_ccp (Z : State) (b : Addr) (kb : ClassId) (z : Int32) (vs : List Value) (h0 : Heap) (n0 : Nat) (v : Option Value) (h : Heap) (L : List Loc) : Prop := v = some (.int z) ∧ Fr n0 L ∧ h = h0
theorem pn_java_lang_StringCoding : plainName "java/lang/StringCoding" = true := by first | (simp [plainName, overriddenIn]; done) | decide +kernel
theorem ef_ccp (m : MethodId) (b : Addr) (kb : ClassId) (z : Int32) (vs : List Value) : entryFrame m #[(.ref b), (.int (0 : Int32)), (.int z)] 5 = mkF m 0 #[.val (.ref b), .val (.int (0 : Int32)), .val (.int z), .unset, .unset] [] := by first | (simp [entryFrame, mkF, argsToLocals, Value.category]; done) | rfl
set_option maxRecDepth 65536 in
set_option maxHeartbeats 40000000 in
theorem ccp (l : Launch) (Z : State) (a0 : Array Value) (hw : ∀ d ∈ tables_1, d.before a0 Z = true) (ws : List Jvm.Cond) (b : Addr) (kb : ClassId) (z : Int32) (vs : List Value) (h0 : Heap) (n0 : Nat) (zP0 : Arv Z h0 b kb .byte z vs (.int (0 : Int32))) (hz0 : ¬ z < (0 : Int32)) (hps : own_pos vs z.toNatClampNeg) :
    MetFree l (⟨"java/lang/StringCoding", "countPositives", "([BII)I"⟩ : MethodName) (head1 (Jvm.Cond.code (⟨"java/lang/StringCoding", "countPositives", "([BII)I"⟩ : MethodName) jdk_123_method_3_code 5 (some .int) :: ws) ({ frames := 0, cells := 0, slots := 0, locals := 0 } : Room)) (fun aA uU => aA = #[(.ref b), (.int (0 : Int32)), (.int z)] ∧ Z.Warmed39 uU.vm ∧ uU.heap = h0) (fun _ _ _ _ _ => True) (fun _ uU oO uU' => ∃ vV lL, oO = .returned vV ∧ Q_ccp Z b kb z vs h0 n0 vV uU'.heap lL ∧ FrameEnd uU oO uU' lL ({ frames := 0, cells := 0, slots := 0, locals := 0 } : Room).cells ({ frames := 0, cells := 0, slots := 0, locals := 0 } : Room).slots) := by
  refine MetFree.of_bodySF (plainFor_of_name pn_java_lang_StringCoding) hisR ?_
  intro p e s m args below meth c s₁ Bd hml0 hP hK
  obtain ⟨rfl, hZ, hh⟩ := hP
  have hx := Bd.exec
  have hby := Bd.bytes
  have hml : c.maxLocals = 5 := hml0
  have hown : s.vm.findClass "java/lang/StringCoding" = some m.cls := findClass_of_methodNamed Bd.named
  have hnm := (name_of_methodNamed Bd.named Bd.method).1
  have X0 : Stand p l e ({ frames := 0, cells := 0, slots := 0, locals := 0 } : Room) s m #[(.ref b), (.int (0 : Int32)), (.int z)] below meth c s₁ [] 0 0 := Stand.of_body Bd
  have e0 : s₁.heap = h0 := by rw [← hh, Bd.state]; rfl
  have N0 := Fr.nil n0
  refine Rch.out (Rch.st (fun t k => castTop (ef_ccp m b kb z vs) k) ?_)
  show Rch p.tables e below _ (s₁.setTop (mkF m 0 #[.val (.ref b), .val (.int (0 : Int32)), .val (.int z), .unset, .unset] []))
  refine Rch.st (fun _ hr => XS.iloadN X0.here hx rfl (hb hby d42_0) rfl hr) ?_
  refine Rch.st (fun _ hr => XS.iloadN X0.here hx rfl (hb hby d42_1) rfl hr) ?_
  refine Rch.st (fun _ hr => XS.iadd X0.here hx rfl (hb hby d42_2) rfl hr) ?_
  refine Rch.st (fun _ hr => XS.istoreN X0.here hx rfl (hb hby d42_3) rfl (l' := #[.val (.ref b), .val (.int (0 : Int32)), .val (.int z), .val (.int ((0 : Int32) + z)), .unset]) rfl hr) ?_
  show Rch p.tables e below _ (s₁.setTop (mkF m 4 #[.val (.ref b), .val (.int (0 : Int32)), .val (.int z), .val (.int ((0 : Int32) + z)), .unset] []))
  rw [own_0z]
  show Rch p.tables e below _ (s₁.setTop (mkF m 4 #[.val (.ref b), .val (.int (0 : Int32)), .val (.int z), .val (.int z), .unset] []))
  refine Rch.st (fun _ hr => XS.iloadN X0.here hx rfl (hb hby d42_4) rfl hr) ?_
  refine Rch.st (fun _ hr => XS.istore X0.here hx rfl (hb hby d42_5) rfl (l' := #[.val (.ref b), .val (.int (0 : Int32)), .val (.int z), .val (.int z), .val (.int (0 : Int32))]) rfl hr) ?_
  show Rch p.tables e below _ (s₁.setTop (mkF m 7 #[.val (.ref b), .val (.int (0 : Int32)), .val (.int z), .val (.int z), .val (.int (0 : Int32))] []))
  refine own_ind (z := z) (f := fun iq => s₁.setTop (mkF m 7 #[.val (.ref b), .val (.int (0 : Int32)), .val (.int z), .val (.int z), .val (.int iq)] [])) hz0 (fun iq hi0 hi1 ih => ?_) (fun iq hi0 hi1 => ?_)
  · show Rch p.tables e below _ (s₁.setTop (mkF m 7 #[.val (.ref b), .val (.int (0 : Int32)), .val (.int z), .val (.int z), .val (.int iq)] []))
    refine Rch.st (fun _ hr => XS.iload X0.here hx rfl (hb hby d42_7) rfl hr) ?_
    refine Rch.st (fun _ hr => XS.iloadN X0.here hx rfl (hb hby d42_9) rfl hr) ?_
    refine Rch.st (fun _ hr => XS.icmpNo X0.here hx rfl (hb hby d42_10) rfl (tlt hi1).2.1 hr) ?_
    refine Rch.st (fun _ hr => XS.aloadN X0.here hx rfl (hb hby d42_13) rfl rfl hr) ?_
    refine Rch.st (fun _ hr => XS.iload X0.here hx rfl (hb hby d42_14) rfl hr) ?_
    obtain ⟨y, hy1, hy2⟩ := hps iq.toNatClampNeg (own_ilt hi0 hi1)
    refine Rch.st (fun _ hr => own_bal X0 hx hZ e0 zP0 hy1 hi0 hi1 (hb hby d42_16) hr) ?_
    refine Rch.st (fun _ hr => XS.ifYes X0.here hx rfl (pc0 := 17) (pc' := 25) rfl (hb hby d42_17) rfl ((if0 _ _).trans (flt hy2).2.1) (by decide) (by decide) hr) ?_
    refine Rch.st (fun _ hr => XS.iinc X0.here hx rfl (hb hby d42_25) rfl (l' := #[.val (.ref b), .val (.int (0 : Int32)), .val (.int z), .val (.int z), .val (.int (iq + (1 : Int32)))]) rfl hr) ?_
    show Rch p.tables e below _ (s₁.setTop (mkF m 28 #[.val (.ref b), .val (.int (0 : Int32)), .val (.int z), .val (.int z), .val (.int (iq + (1 : Int32)))] []))
    refine Rch.st (fun _ hr => XS.goto X0.here hx rfl (pc0 := 28) (pc' := 7) rfl (hb hby d42_28) (by decide) (by decide) hr) ?_
    exact ih
  · show Rch p.tables e below _ (s₁.setTop (mkF m 7 #[.val (.ref b), .val (.int (0 : Int32)), .val (.int z), .val (.int z), .val (.int iq)] []))
    refine Rch.st (fun _ hr => XS.iload X0.here hx rfl (hb hby d42_7) rfl hr) ?_
    refine Rch.st (fun _ hr => XS.iloadN X0.here hx rfl (hb hby d42_9) rfl hr) ?_
    refine Rch.st (fun _ hr => XS.icmpYes X0.here hx rfl (pc0 := 10) (pc' := 31) rfl (hb hby d42_10) rfl (flt hi1).2.1 (by decide) (by decide) hr) ?_
    refine Rch.st (fun _ hr => XS.iloadN X0.here hx rfl (hb hby d42_31) rfl hr) ?_
    obtain ⟨fs, hr, hrun, hended, hW, hsame⟩ := X0.leave (v := some (.int z)) (fun h => by rw [Bd.returns] at h; cases h)
    refine Rch.fin (u := s₁.setFrames fs) (own_retI X0 hx Bd.returns (hb hby d42_32) hr) ⟨_, hrun, hended, _, _, rfl, ?_, ⟨_, rfl⟩, hW, hsame.mono (by decide) (by decide)⟩
    show Q_ccp Z b kb z vs h0 n0 _ s₁.heap _
    exact ⟨rfl, N0, e0⟩
theorem d41_0 : decode jdk_123_method_2_code 0 = .ok (.aload_n 0, 1) := by decide +kernel
theorem d41_1 : decode jdk_123_method_2_code 1 = .ok (.iload_n 1, 1) := by decide +kernel
theorem d41_2 : decode jdk_123_method_2_code 2 = .ok (.iload_n 2, 1) := by decide +kernel
theorem d41_3 : decode jdk_123_method_2_code 3 = .ok (.invokestatic 7, 3) := by decide +kernel
theorem pd_24 : parseMethodDescriptor "([BII)I" = some ⟨[(.array .byte), .int, .int], some .int⟩ := by decide +kernel
abbrev Y_30 : MethodName := ⟨"java/lang/StringCoding", "countPositives", "([BII)I"⟩
theorem d41_6 : decode jdk_123_method_2_code 6 = .ok (.iload_n 2, 1) := by decide +kernel
theorem d41_7 : decode jdk_123_method_2_code 7 = .ok (.if_icmp .eq 7, 3) := by decide +kernel
theorem d41_14 : decode jdk_123_method_2_code 14 = .ok (.iconst 0, 1) := by decide +kernel
theorem d41_15 : decode jdk_123_method_2_code 15 = .ok (.ireturn, 1) := by decide +kernel
def Q_chn (Z : State) (b : Addr) (kb : ClassId) (z : Int32) (vs : List Value) (h0 : Heap) (n0 : Nat) (v : Option Value) (h : Heap) (L : List Loc) : Prop := v = some (.int (0 : Int32)) ∧ Fr n0 L ∧ h = h0
theorem ef_chn (m : MethodId) (b : Addr) (kb : ClassId) (z : Int32) (vs : List Value) : entryFrame m #[(.ref b), (.int (0 : Int32)), (.int z)] 3 = mkF m 0 #[.val (.ref b), .val (.int (0 : Int32)), .val (.int z)] [] := by first | (simp [entryFrame, mkF, argsToLocals, Value.category]; done) | rfl
set_option maxRecDepth 65536 in
set_option maxHeartbeats 40000000 in
theorem chn (l : Launch) (Z : State) (a0 : Array Value) (hw : ∀ d ∈ tables_1, d.before a0 Z = true) (ws : List Jvm.Cond) (b : Addr) (kb : ClassId) (z : Int32) (vs : List Value) (h0 : Heap) (n0 : Nat) (zP0 : Arv Z h0 b kb .byte z vs (.int (0 : Int32))) (hz0 : ¬ z < (0 : Int32)) (hps : own_pos vs z.toNatClampNeg) :
    MetFree l (⟨"java/lang/StringCoding", "hasNegatives", "([BII)Z"⟩ : MethodName) (head1 (Jvm.Cond.code (⟨"java/lang/StringCoding", "hasNegatives", "([BII)Z"⟩ : MethodName) jdk_123_method_2_code 3 (some .boolean) :: ws) ({ frames := 1, cells := 0, slots := 0, locals := 16 } : Room)) (fun aA uU => aA = #[(.ref b), (.int (0 : Int32)), (.int z)] ∧ Z.Warmed39 uU.vm ∧ uU.heap = h0) (fun _ _ _ _ _ => True) (fun _ uU oO uU' => ∃ vV lL, oO = .returned vV ∧ Q_chn Z b kb z vs h0 n0 vV uU'.heap lL ∧ FrameEnd uU oO uU' lL ({ frames := 1, cells := 0, slots := 0, locals := 16 } : Room).cells ({ frames := 1, cells := 0, slots := 0, locals := 16 } : Room).slots) := by
  refine MetFree.of_bodySF (plainFor_of_name pn_java_lang_StringCoding) hisR ?_
  intro p e s m args below meth c s₁ Bd hml0 hP hK
  obtain ⟨rfl, hZ, hh⟩ := hP
  have hx := Bd.exec
  have hby := Bd.bytes
  have hml : c.maxLocals = 3 := hml0
  have hown : s.vm.findClass "java/lang/StringCoding" = some m.cls := findClass_of_methodNamed Bd.named
  have hnm := (name_of_methodNamed Bd.named Bd.method).1
  have X0 : Stand p l e ({ frames := 1, cells := 0, slots := 0, locals := 16 } : Room) s m #[(.ref b), (.int (0 : Int32)), (.int z)] below meth c s₁ [] 0 0 := Stand.of_body Bd
  have e0 : s₁.heap = h0 := by rw [← hh, Bd.state]; rfl
  have N0 := Fr.nil n0
  refine Rch.out (Rch.st (fun t k => castTop (ef_chn m b kb z vs) k) ?_)
  show Rch p.tables e below _ (s₁.setTop (mkF m 0 #[.val (.ref b), .val (.int (0 : Int32)), .val (.int z)] []))
  refine Rch.st (fun _ hr => XS.aloadN X0.here hx rfl (hb hby d41_0) rfl rfl hr) ?_
  refine Rch.st (fun _ hr => XS.iloadN X0.here hx rfl (hb hby d41_1) rfl hr) ?_
  refine Rch.st (fun _ hr => XS.iloadN X0.here hx rfl (hb hby d41_2) rfl hr) ?_
  obtain ⟨_, T1, Lc1, X1, hQ1, st1⟩ := own_callS X0 hx hZ (y := Y_30) hown (own_w hw 214 rfl) (own_w hw 215 rfl) (own_w hw 212 rfl) (own_w hw 216 rfl) (by decide) (W := 0) (ccp l Z a0 hw [] b kb z vs h0 n0 zP0 hz0 hps) (by decide) (by decide) e0 (by decide) (by decide) (g := (mkF m 3 #[.val (.ref b), .val (.int (0 : Int32)), .val (.int z)] [(.int z), (.int (0 : Int32)), (.ref b)])) rfl (by rw [hml]; rfl) (argsL := [(.ref b), (.int (0 : Int32)), (.int z)]) (rest := []) (lenOf pd_24 rfl) rfl (own_mr rfl rfl) (hb hby d41_3) rfl
  obtain ⟨rfl, N1q, e1⟩ := hQ1
  have N1 := Fr.app N0 N1q
  refine Rch.st st1 ?_
  refine Rch.st (fun _ hr => XS.iloadN X1.here hx rfl (hb hby d41_6) rfl hr) ?_
  refine Rch.st (fun _ hr => XS.icmpYes X1.here hx rfl (pc0 := 7) (pc' := 14) rfl (hb hby d41_7) rfl (teq rfl).1 (by decide) (by decide) hr) ?_
  refine Rch.st (fun _ hr => XS.iconst X1.here hx rfl (hb hby d41_14) hr) ?_
  obtain ⟨fs, hr, hrun, hended, hW, hsame⟩ := X1.leave (v := some (.int (0 : Int32))) (fun h => by rw [Bd.returns] at h; cases h)
  refine Rch.fin (u := T1.setFrames fs) (retN X1 hx (t := .boolean) Bd.returns (by simp) (hb hby d41_15) hr) ⟨_, hrun, hended, _, _, rfl, ?_, ⟨_, rfl⟩, hW, hsame.mono (by decide) (by decide)⟩
  show Q_chn Z b kb z vs h0 n0 _ T1.heap _
  exact ⟨rfl, N1, e1⟩
theorem d40_0 : decode jdk_42_method_46_code 0 = .ok (.iload_n 0, 1) := by decide +kernel
theorem d40_1 : decode jdk_42_method_46_code 1 = .ok (.iconst 1, 1) := by decide +kernel
theorem d40_2 : decode jdk_42_method_46_code 2 = .ok (.if_icmp .ne 9, 3) := by decide +kernel
theorem d40_11 : decode jdk_42_method_46_code 11 = .ok (.aload_n 1, 1) := by decide +kernel
theorem d40_12 : decode jdk_42_method_46_code 12 = .ok (.iconst 0, 1) := by decide +kernel
theorem d40_13 : decode jdk_42_method_46_code 13 = .ok (.aload_n 1, 1) := by decide +kernel
theorem d40_14 : decode jdk_42_method_46_code 14 = .ok (.arraylength, 1) := by decide +kernel
theorem d40_15 : decode jdk_42_method_46_code 15 = .ok (.invokestatic 128, 3) := by decide +kernel
theorem pd_25 : parseMethodDescriptor "([BII)Z" = some ⟨[(.array .byte), .int, .int], some .boolean⟩ := by decide +kernel
abbrev Y_31 : MethodName := ⟨"java/lang/StringCoding", "hasNegatives", "([BII)Z"⟩
theorem d40_18 : decode jdk_42_method_46_code 18 = .ok (.ifCond .ne 11, 3) := by decide +kernel
theorem d40_21 : decode jdk_42_method_46_code 21 = .ok (.aload_n 1, 1) := by decide +kernel
theorem d40_22 : decode jdk_42_method_46_code 22 = .ok (.invokevirtual 279, 3) := by decide +kernel
theorem d40_25 : decode jdk_42_method_46_code 25 = .ok (.checkcast 280, 3) := by decide +kernel
theorem d40_28 : decode jdk_42_method_46_code 28 = .ok (.areturn, 1) := by decide +kernel
def Q_cutf (Z : State) (b : Addr) (kb : ClassId) (z : Int32) (vs : List Value) (h0 : Heap) (n0 : Nat) (v : Option Value) (h : Heap) (L : List Loc) : Prop := ∃ (r : Addr) (kr : ClassId), v = some (.ref r) ∧ Fr n0 L ∧ Keep h0 h [] ∧ Old Z n0 h ∧ h0.size ≤ r ∧ Arv Z h r kr .byte z vs (.int (0 : Int32))
theorem ef_cutf (m : MethodId) (b : Addr) (kb : ClassId) (z : Int32) (vs : List Value) : entryFrame m #[(.int (0 : Int32)), (.ref b), (.int (1 : Int32))] 9 = mkF m 0 #[.val (.int (0 : Int32)), .val (.ref b), .val (.int (1 : Int32)), .unset, .unset, .unset, .unset, .unset, .unset] [] := by first | (simp [entryFrame, mkF, argsToLocals, Value.category]; done) | rfl
set_option maxRecDepth 65536 in
set_option maxHeartbeats 40000000 in
theorem cutf (l : Launch) (Z : State) (a0 : Array Value) (hw : ∀ d ∈ tables_1, d.before a0 Z = true) (ws : List Jvm.Cond) (b : Addr) (kb : ClassId) (z : Int32) (vs : List Value) (h0 : Heap) (n0 : Nat) (zP0 : Old Z n0 h0) (zP1 : Arv Z h0 b kb .byte z vs (.int (0 : Int32))) (zP2 : Exa Z h0 b "[B") (hz0 : ¬ z < (0 : Int32)) (hps : own_pos vs z.toNatClampNeg) (hz26 : z.toNatClampNeg ≤ 26) :
    MetFree l (⟨"java/lang/String", "encodeUTF8", "(B[BZ)[B"⟩ : MethodName) (head1 (Jvm.Cond.code (⟨"java/lang/String", "encodeUTF8", "(B[BZ)[B"⟩ : MethodName) jdk_42_method_46_code 9 (some (.array .byte)) :: ws) ({ frames := 2, cells := 1, slots := 26, locals := 30 } : Room)) (fun aA uU => aA = #[(.int (0 : Int32)), (.ref b), (.int (1 : Int32))] ∧ Z.Warmed39 uU.vm ∧ uU.heap = h0) (fun _ _ _ _ _ => True) (fun _ uU oO uU' => ∃ vV lL, oO = .returned vV ∧ Q_cutf Z b kb z vs h0 n0 vV uU'.heap lL ∧ FrameEnd uU oO uU' lL ({ frames := 2, cells := 1, slots := 26, locals := 30 } : Room).cells ({ frames := 2, cells := 1, slots := 26, locals := 30 } : Room).slots) := by
  refine MetFree.of_bodySF (plainFor_of_name pn_java_lang_String) hisR ?_
  intro p e s m args below meth c s₁ Bd hml0 hP hK
  obtain ⟨rfl, hZ, hh⟩ := hP
  have hx := Bd.exec
  have hby := Bd.bytes
  have hml : c.maxLocals = 9 := hml0
  have hown : s.vm.findClass "java/lang/String" = some m.cls := findClass_of_methodNamed Bd.named
  have hnm := (name_of_methodNamed Bd.named Bd.method).1
  have X0 : Stand p l e ({ frames := 2, cells := 1, slots := 26, locals := 30 } : Room) s m #[(.int (0 : Int32)), (.ref b), (.int (1 : Int32))] below meth c s₁ [] 0 0 := Stand.of_body Bd
  have e0 : s₁.heap = h0 := by rw [← hh, Bd.state]; rfl
  have N0 := Fr.nil n0
  refine Rch.out (Rch.st (fun t k => castTop (ef_cutf m b kb z vs) k) ?_)
  show Rch p.tables e below _ (s₁.setTop (mkF m 0 #[.val (.int (0 : Int32)), .val (.ref b), .val (.int (1 : Int32)), .unset, .unset, .unset, .unset, .unset, .unset] []))
  refine Rch.st (fun _ hr => XS.iloadN X0.here hx rfl (hb hby d40_0) rfl hr) ?_
  refine Rch.st (fun _ hr => XS.iconst X0.here hx rfl (hb hby d40_1) hr) ?_
  refine Rch.st (fun _ hr => XS.icmpYes X0.here hx rfl (pc0 := 2) (pc' := 11) rfl (hb hby d40_2) rfl (feq (by decide : ¬ ((0 : Int32) = (1 : Int32)))).2 (by decide) (by decide) hr) ?_
  refine Rch.st (fun _ hr => XS.aloadN X0.here hx rfl (hb hby d40_11) rfl rfl hr) ?_
  refine Rch.st (fun _ hr => XS.iconst X0.here hx rfl (hb hby d40_12) hr) ?_
  refine Rch.st (fun _ hr => XS.aloadN X0.here hx rfl (hb hby d40_13) rfl rfl hr) ?_
  obtain ⟨cl1, Ar1, -, Sz1, Ng1, -, -⟩ := id zP1
  refine Rch.st (fun t hr => X0.arraylength hx (by rw [e0]; exact Ar1.1) (State.isArrayOf_alike hZ.alike Ar1.2.1) (g := (mkF m 14 #[.val (.int (0 : Int32)), .val (.ref b), .val (.int (1 : Int32)), .unset, .unset, .unset, .unset, .unset, .unset] [(.ref b), (.int (0 : Int32)), (.ref b)])) rfl rfl (hb hby d40_14) t hr) ?_
  rw [len_of Sz1 Ng1]
  obtain ⟨_, T2, Lc2, X2, hQ2, st2⟩ := own_callS X0 hx hZ (y := Y_31) hown (own_w hw 210 rfl) (own_w hw 211 rfl) (own_w hw 212 rfl) (own_w hw 213 rfl) (by decide) (W := 0) (chn l Z a0 hw [] b kb z vs h0 n0 zP1 hz0 hps) (by decide) (by decide) e0 (by decide) (by decide) (g := (mkF m 15 #[.val (.int (0 : Int32)), .val (.ref b), .val (.int (1 : Int32)), .unset, .unset, .unset, .unset, .unset, .unset] [(.int z), (.int (0 : Int32)), (.ref b)])) rfl (by rw [hml]; rfl) (argsL := [(.ref b), (.int (0 : Int32)), (.int z)]) (rest := []) (lenOf pd_25 rfl) rfl (own_mr rfl rfl) (hb hby d40_15) rfl
  obtain ⟨rfl, N2q, e2⟩ := hQ2
  have N2 := Fr.app N0 N2q
  refine Rch.st st2 ?_
  show Rch p.tables e below _ (T2.setTop (mkF m 18 #[.val (.int (0 : Int32)), .val (.ref b), .val (.int (1 : Int32)), .unset, .unset, .unset, .unset, .unset, .unset] [(.int (0 : Int32))]))
  refine Rch.st (fun _ hr => XS.ifNo X2.here hx rfl (hb hby d40_18) rfl ((if0 _ _).trans (teq (by decide : (0 : Int32) = (0 : Int32))).2) hr) ?_
  refine Rch.st (fun _ hr => XS.aloadN X2.here hx rfl (hb hby d40_21) rfl rfl hr) ?_
  obtain ⟨T3, h3, X3, e3, E3, A3, B3, st3⟩ := cloneH X2 hx hZ hown (own_w hw 217 rfl) (own_w hw 218 rfl) (own_w hw 222 rfl) (own_w hw 220 rfl) (own_w hw 221 rfl) (own_w hw 223 rfl) e2 (hs := []) zP1 zP2 (g := (mkF m 22 #[.val (.int (0 : Int32)), .val (.ref b), .val (.int (1 : Int32)), .unset, .unset, .unset, .unset, .unset, .unset] [(.ref b)])) rfl (by rw [hml]; rfl) rfl (hb hby d40_22) (by decide) (W := 0) (cap := 26) (own_mr rfl rfl) (by decide) hz26 (by decide) (by decide)
  obtain ⟨b3, g3⟩ : ∃ z, z = h0.size := ⟨_, rfl⟩
  rw [← g3] at A3 B3 st3
  refine Rch.st st3 ?_
  have q3 : h0.size ≤ b3 := Nat.le_of_eq g3.symm
  have ne4 := Nat.ne_of_lt (Nat.lt_of_lt_of_le zP2.lt q3)
  have g_b3 : n0 ≤ b3 := Nat.le_trans (Nat.le_trans (Nat.le_of_eq zP0.1.symm) zP0.2.1) q3
  have sz_b3 : h0.size ≤ b3 := Nat.le_trans (Keep.refl h0 []).1 q3
  have K5 := (Keep.refl h0 []).ext E3
  have V3 : Arv Z h3 b3 kb .byte z vs (.int (0 : Int32)) := A3
  obtain ⟨T6, X6, e6, st6⟩ := castY X3 hx hZ hown (own_w hw 224 rfl) e3 (Ins.self B3) (g := (mkF m 25 #[.val (.int (0 : Int32)), .val (.ref b), .val (.int (1 : Int32)), .unset, .unset, .unset, .unset, .unset, .unset] [(.ref b3)])) rfl rfl (hb hby d40_25)
  refine Rch.st st6 ?_
  obtain ⟨fs, hr, hrun, hended, hW, hsame⟩ := X6.leave (v := some (.ref b3)) (fun h => by rw [Bd.returns] at h; cases h)
  have f7 := (zP0.ext E3)
  refine Rch.fin (u := T6.setFrames fs) (own_retA X6 hx Bd.returns rfl rfl rfl (hb hby d40_28) hr) ⟨_, hrun, hended, _, _, rfl, ?_, ⟨_, rfl⟩, hW, hsame.mono (by decide) (by decide)⟩
  show Q_cutf Z b kb z vs h0 n0 _ T6.heap _
  rw [e6]
  exact ⟨b3, kb, rfl, N2, K5, f7, sz_b3, V3⟩
theorem d39_0 : decode jdk_42_method_18_code 0 = .ok (.aload_n 0, 1) := by decide +kernel
theorem d39_1 : decode jdk_42_method_18_code 1 = .ok (.getstatic 86, 3) := by decide +kernel
theorem d39_4 : decode jdk_42_method_18_code 4 = .ok (.if_acmp .ne 10, 3) := by decide +kernel
theorem d39_7 : decode jdk_42_method_18_code 7 = .ok (.iload_n 1, 1) := by decide +kernel
theorem d39_8 : decode jdk_42_method_18_code 8 = .ok (.aload_n 2, 1) := by decide +kernel
theorem d39_9 : decode jdk_42_method_18_code 9 = .ok (.iconst 1, 1) := by decide +kernel
theorem d39_10 : decode jdk_42_method_18_code 10 = .ok (.invokestatic 252, 3) := by decide +kernel
theorem pd_26 : parseMethodDescriptor "(B[BZ)[B" = some ⟨[.byte, (.array .byte), .boolean], some (.array .byte)⟩ := by decide +kernel
abbrev Y_32 : MethodName := ⟨"java/lang/String", "encodeUTF8", "(B[BZ)[B"⟩
theorem d39_13 : decode jdk_42_method_18_code 13 = .ok (.areturn, 1) := by decide +kernel
def Q_cenc (Z : State) (b : Addr) (kb : ClassId) (z : Int32) (vs : List Value) (u : Addr) (h0 : Heap) (n0 : Nat) (v : Option Value) (h : Heap) (L : List Loc) : Prop := ∃ (r : Addr) (kr : ClassId), v = some (.ref r) ∧ Fr n0 L ∧ Keep h0 h [] ∧ Old Z n0 h ∧ h0.size ≤ r ∧ Arv Z h r kr .byte z vs (.int (0 : Int32))
theorem ef_cenc (m : MethodId) (b : Addr) (kb : ClassId) (z : Int32) (vs : List Value) (u : Addr) : entryFrame m #[(.ref u), (.int (0 : Int32)), (.ref b)] 3 = mkF m 0 #[.val (.ref u), .val (.int (0 : Int32)), .val (.ref b)] [] := by first | (simp [entryFrame, mkF, argsToLocals, Value.category]; done) | rfl
set_option maxRecDepth 65536 in
set_option maxHeartbeats 40000000 in
theorem cenc (l : Launch) (Z : State) (a0 : Array Value) (hw : ∀ d ∈ tables_1, d.before a0 Z = true) (ws : List Jvm.Cond) (b : Addr) (kb : ClassId) (z : Int32) (vs : List Value) (u : Addr) (h0 : Heap) (n0 : Nat) (zD0 : Sta Z Z.heap "sun/nio/cs/UTF_8" "INSTANCE" "Lsun/nio/cs/UTF_8;" (.ref u)) (zP0 : Old Z n0 h0) (zP1 : Arv Z h0 b kb .byte z vs (.int (0 : Int32))) (zP2 : Exa Z h0 b "[B") (hz0 : ¬ z < (0 : Int32)) (hps : own_pos vs z.toNatClampNeg) (hz26 : z.toNatClampNeg ≤ 26) :
    MetFree l (⟨"java/lang/String", "encode", "(Ljava/nio/charset/Charset;B[B)[B"⟩ : MethodName) (head1 (Jvm.Cond.code (⟨"java/lang/String", "encode", "(Ljava/nio/charset/Charset;B[B)[B"⟩ : MethodName) jdk_42_method_18_code 3 (some (.array .byte)) :: ws) ({ frames := 3, cells := 1, slots := 26, locals := 50 } : Room)) (fun aA uU => aA = #[(.ref u), (.int (0 : Int32)), (.ref b)] ∧ Z.Warmed39 uU.vm ∧ uU.heap = h0) (fun _ _ _ _ _ => True) (fun _ uU oO uU' => ∃ vV lL, oO = .returned vV ∧ Q_cenc Z b kb z vs u h0 n0 vV uU'.heap lL ∧ FrameEnd uU oO uU' lL ({ frames := 3, cells := 1, slots := 26, locals := 50 } : Room).cells ({ frames := 3, cells := 1, slots := 26, locals := 50 } : Room).slots) := by
  refine MetFree.of_bodySF (plainFor_of_name pn_java_lang_String) hisR ?_
  intro p e s m args below meth c s₁ Bd hml0 hP hK
  obtain ⟨rfl, hZ, hh⟩ := hP
  have hx := Bd.exec
  have hby := Bd.bytes
  have hml : c.maxLocals = 3 := hml0
  have hown : s.vm.findClass "java/lang/String" = some m.cls := findClass_of_methodNamed Bd.named
  have hnm := (name_of_methodNamed Bd.named Bd.method).1
  have X0 : Stand p l e ({ frames := 3, cells := 1, slots := 26, locals := 50 } : Room) s m #[(.ref u), (.int (0 : Int32)), (.ref b)] below meth c s₁ [] 0 0 := Stand.of_body Bd
  have e0 : s₁.heap = h0 := by rw [← hh, Bd.state]; rfl
  have N0 := Fr.nil n0
  refine Rch.out (Rch.st (fun t k => castTop (ef_cenc m b kb z vs u) k) ?_)
  show Rch p.tables e below _ (s₁.setTop (mkF m 0 #[.val (.ref u), .val (.int (0 : Int32)), .val (.ref b)] []))
  refine Rch.st (fun _ hr => XS.aloadN X0.here hx rfl (hb hby d39_0) rfl rfl hr) ?_
  obtain ⟨T1, X1, e1, st1⟩ := getS2 X0 hx hZ hown (host := "") (Or.inl (own_w hw 205 rfl)) Via.refl e0 (zD0.ext zP0.2) (g := (mkF m 1 #[.val (.ref u), .val (.int (0 : Int32)), .val (.ref b)] [(.ref u)])) rfl (hb hby d39_1)
  refine Rch.st st1 ?_
  refine Rch.st (fun _ hr => Jvm.RoadKit.acmp (g := (mkF m 4 #[.val (.ref u), .val (.int (0 : Int32)), .val (.ref b)] [(.ref u), (.ref u)])) X1 hx rfl rfl rfl (pc0 := 4) (pc' := 7) (same := true) rfl (hb hby d39_4) rfl (decide_eq_true rfl) (by decide) (by decide) hr) ?_
  refine Rch.st (fun _ hr => XS.iloadN X1.here hx rfl (hb hby d39_7) rfl hr) ?_
  refine Rch.st (fun _ hr => XS.aloadN X1.here hx rfl (hb hby d39_8) rfl rfl hr) ?_
  refine Rch.st (fun _ hr => XS.iconst X1.here hx rfl (hb hby d39_9) hr) ?_
  obtain ⟨_, T2, Lc2, X2, hQ2, st2⟩ := own_callS X1 hx hZ (y := Y_32) hown (own_w hw 207 rfl) (own_w hw 208 rfl) (own_w hw 2 rfl) (own_w hw 209 rfl) (by decide) (W := 0) (cutf l Z a0 hw [] b kb z vs h0 n0 zP0 zP1 zP2 hz0 hps hz26) (by decide) (by decide) e1 (by decide) (by decide) (g := (mkF m 10 #[.val (.ref u), .val (.int (0 : Int32)), .val (.ref b)] [(.int (1 : Int32)), (.ref b), (.int (0 : Int32))])) rfl (by rw [hml]; rfl) (argsL := [(.int (0 : Int32)), (.ref b), (.int (1 : Int32))]) (rest := []) (lenOf pd_26 rfl) rfl (own_mr rfl rfl) (hb hby d39_10) rfl
  obtain ⟨r_2, kr_2, rfl, N2q, Kp2, Op2, R2_0, R2_1⟩ := hQ2
  have N2 := Fr.app N0 N2q
  refine Rch.st st2 ?_
  have ne3 := Nat.ne_of_lt (Nat.lt_of_lt_of_le zP2.lt R2_0)
  have g_r_2 : n0 ≤ r_2 := Nat.le_trans (Nat.le_trans (Nat.le_of_eq zP0.1.symm) zP0.2.1) R2_0
  have sz_r_2 : h0.size ≤ r_2 := Nat.le_trans (Keep.refl h0 []).1 R2_0
  have K4 := (Keep.refl h0 []).trans Kp2 all0
  obtain ⟨fs, hr, hrun, hended, hW, hsame⟩ := X2.leave (v := some (.ref r_2)) (fun h => by rw [Bd.returns] at h; cases h)
  refine Rch.fin (u := T2.setFrames fs) (own_retA X2 hx Bd.returns rfl rfl rfl (hb hby d39_13) hr) ⟨_, hrun, hended, _, _, rfl, ?_, ⟨_, rfl⟩, hW, hsame.mono (by decide) (by decide)⟩
  show Q_cenc Z b kb z vs u h0 n0 _ T2.heap _
  exact ⟨r_2, kr_2, rfl, N2, K4, Op2, sz_r_2, R2_1⟩
theorem d38_0 : decode jdk_42_method_64_code 0 = .ok (.aload_n 1, 1) := by decide +kernel
theorem d38_1 : decode jdk_42_method_64_code 1 = .ok (.ifnonnull 11, 3) := by decide +kernel
theorem d38_12 : decode jdk_42_method_64_code 12 = .ok (.aload_n 1, 1) := by decide +kernel
theorem d38_13 : decode jdk_42_method_64_code 13 = .ok (.aload_n 0, 1) := by decide +kernel
theorem d38_14 : decode jdk_42_method_64_code 14 = .ok (.invokevirtual 335, 3) := by decide +kernel
theorem d38_17 : decode jdk_42_method_64_code 17 = .ok (.aload_n 0, 1) := by decide +kernel
theorem d38_18 : decode jdk_42_method_64_code 18 = .ok (.getfield 9, 3) := by decide +kernel
theorem d38_21 : decode jdk_42_method_64_code 21 = .ok (.invokestatic 535, 3) := by decide +kernel
theorem pd_27 : parseMethodDescriptor "(Ljava/nio/charset/Charset;B[B)[B" = some ⟨[(.object "java/nio/charset/Charset"), .byte, (.array .byte)], some (.array .byte)⟩ := by decide +kernel
abbrev Y_33 : MethodName := ⟨"java/lang/String", "encode", "(Ljava/nio/charset/Charset;B[B)[B"⟩
theorem d38_24 : decode jdk_42_method_64_code 24 = .ok (.areturn, 1) := by decide +kernel
def Q_cgbc (Z : State) (a : Addr) (b : Addr) (kb : ClassId) (z : Int32) (vs : List Value) (u : Addr) (cs : Int32) (h0 : Heap) (n0 : Nat) (v : Option Value) (h : Heap) (L : List Loc) : Prop := ∃ (r : Addr) (kr : ClassId), v = some (.ref r) ∧ Fr n0 L ∧ Keep h0 h [] ∧ Old Z n0 h ∧ h0.size ≤ r ∧ Arv Z h r kr .byte z vs (.int (0 : Int32))
theorem ef_cgbc (m : MethodId) (a : Addr) (b : Addr) (kb : ClassId) (z : Int32) (vs : List Value) (u : Addr) (cs : Int32) : entryFrame m #[(.ref a), (.ref u)] 2 = mkF m 0 #[.val (.ref a), .val (.ref u)] [] := by first | (simp [entryFrame, mkF, argsToLocals, Value.category]; done) | rfl
set_option maxRecDepth 65536 in
set_option maxHeartbeats 40000000 in
theorem cgbc (l : Launch) (Z : State) (a0 : Array Value) (hw : ∀ d ∈ tables_1, d.before a0 Z = true) (ws : List Jvm.Cond) (a : Addr) (b : Addr) (kb : ClassId) (z : Int32) (vs : List Value) (u : Addr) (cs : Int32) (h0 : Heap) (n0 : Nat) (zD0 : Sta Z Z.heap "java/lang/String" "COMPACT_STRINGS" "Z" (.int cs)) (zD1 : Sta Z Z.heap "sun/nio/cs/UTF_8" "INSTANCE" "Lsun/nio/cs/UTF_8;" (.ref u)) (zP0 : Old Z n0 h0) (zP1 : Exa Z h0 a "java/lang/String") (zP2 : Fld Z h0 a "java/lang/String" "coder" "B" (.int (0 : Int32))) (zP3 : Fld Z h0 a "java/lang/String" "value" "[B" (.ref b)) (zP4 : Arv Z h0 b kb .byte z vs (.int (0 : Int32))) (zP5 : Exa Z h0 b "[B") (hz0 : ¬ z < (0 : Int32)) (hps : own_pos vs z.toNatClampNeg) (hz26 : z.toNatClampNeg ≤ 26) (hcs : ¬ cs = (0 : Int32)) :
    MetFree l (⟨"java/lang/String", "getBytes", "(Ljava/nio/charset/Charset;)[B"⟩ : MethodName) (head1 (Jvm.Cond.code (⟨"java/lang/String", "getBytes", "(Ljava/nio/charset/Charset;)[B"⟩ : MethodName) jdk_42_method_64_code 2 (some (.array .byte)) :: ws) ({ frames := 4, cells := 1, slots := 26, locals := 64 } : Room)) (fun aA uU => aA = #[(.ref a), (.ref u)] ∧ Z.Warmed39 uU.vm ∧ uU.heap = h0) (fun _ _ _ _ _ => True) (fun _ uU oO uU' => ∃ vV lL, oO = .returned vV ∧ Q_cgbc Z a b kb z vs u cs h0 n0 vV uU'.heap lL ∧ FrameEnd uU oO uU' lL ({ frames := 4, cells := 1, slots := 26, locals := 64 } : Room).cells ({ frames := 4, cells := 1, slots := 26, locals := 64 } : Room).slots) := by
  refine MetFree.of_bodySF (plainFor_of_name pn_java_lang_String) hisR ?_
  intro p e s m args below meth c s₁ Bd hml0 hP hK
  obtain ⟨rfl, hZ, hh⟩ := hP
  have hx := Bd.exec
  have hby := Bd.bytes
  have hml : c.maxLocals = 2 := hml0
  have hown : s.vm.findClass "java/lang/String" = some m.cls := findClass_of_methodNamed Bd.named
  have hnm := (name_of_methodNamed Bd.named Bd.method).1
  have X0 : Stand p l e ({ frames := 4, cells := 1, slots := 26, locals := 64 } : Room) s m #[(.ref a), (.ref u)] below meth c s₁ [] 0 0 := Stand.of_body Bd
  have e0 : s₁.heap = h0 := by rw [← hh, Bd.state]; rfl
  have N0 := Fr.nil n0
  refine Rch.out (Rch.st (fun t k => castTop (ef_cgbc m a b kb z vs u cs) k) ?_)
  show Rch p.tables e below _ (s₁.setTop (mkF m 0 #[.val (.ref a), .val (.ref u)] []))
  refine Rch.st (fun _ hr => XS.aloadN X0.here hx rfl (hb hby d38_0) rfl rfl hr) ?_
  refine Rch.st (fun _ hr => XS.ifnonnullYes X0.here hx rfl (pc0 := 1) (pc' := 12) rfl (hb hby d38_1) rfl (by decide) (by decide) hr) ?_
  refine Rch.st (fun _ hr => XS.aloadN X0.here hx rfl (hb hby d38_12) rfl rfl hr) ?_
  refine Rch.st (fun _ hr => XS.aloadN X0.here hx rfl (hb hby d38_13) rfl rfl hr) ?_
  obtain ⟨_, T1, Lc1, X1, hQ1, st1⟩ := own_callV X0 hx hZ (y := Y_7) (z := Y_7) hown (own_w hw 73 rfl) (own_w hw 74 rfl) (notFace_of_selects (args := #[]) (mvT hZ (own_w hw 76 rfl))) (own_w hw 76 rfl) (own_w hw 75 rfl) (own_w hw 2 rfl) (own_w hw 77 rfl) (by decide) (W := 1) (ccoder l Z a0 hw [] a cs h0 n0 zD0 zP0 zP2 hcs) (by decide) (by decide) e0 zP1 (by decide) (by decide) (g := (mkF m 14 #[.val (.ref a), .val (.ref u)] [(.ref a), (.ref u)])) rfl (by rw [hml]; rfl) (argsL := []) (rest := [(.ref u)]) (lenOf pd_7 rfl) rfl (own_mr rfl rfl) (hb hby d38_14) rfl
  obtain ⟨rfl, N1q, e1⟩ := hQ1
  have N1 := Fr.app N0 N1q
  refine Rch.st st1 ?_
  refine Rch.st (fun _ hr => XS.aloadN X1.here hx rfl (hb hby d38_17) rfl rfl hr) ?_
  obtain ⟨T2, X2, e2, st2⟩ := getF X1 hx hZ hown (host := "") (Or.inl (own_w hw 20 rfl)) Via.refl e1 zP3 (g := (mkF m 18 #[.val (.ref a), .val (.ref u)] [(.ref a), (.int (0 : Int32)), (.ref u)])) rfl rfl (hb hby d38_18)
  refine Rch.st st2 ?_
  obtain ⟨_, T3, Lc3, X3, hQ3, st3⟩ := own_callS X2 hx hZ (y := Y_33) hown (own_w hw 202 rfl) (own_w hw 203 rfl) (own_w hw 2 rfl) (own_w hw 204 rfl) (by decide) (W := 0) (cenc l Z a0 hw [] b kb z vs u h0 n0 zD1 zP0 zP4 zP5 hz0 hps hz26) (by decide) (by decide) e2 (by decide) (by decide) (g := (mkF m 21 #[.val (.ref a), .val (.ref u)] [(.ref b), (.int (0 : Int32)), (.ref u)])) rfl (by rw [hml]; rfl) (argsL := [(.ref u), (.int (0 : Int32)), (.ref b)]) (rest := []) (lenOf pd_27 rfl) rfl (own_mr rfl rfl) (hb hby d38_21) rfl
  obtain ⟨r_3, kr_3, rfl, N3q, Kp3, Op3, R3_0, R3_1⟩ := hQ3
  have N3 := Fr.app N1 N3q
  refine Rch.st st3 ?_
  have ne4 := Nat.ne_of_lt (Nat.lt_of_lt_of_le zP3.lt R3_0)
  have ne5 := Nat.ne_of_lt (Nat.lt_of_lt_of_le zP5.lt R3_0)
  have g_r_3 : n0 ≤ r_3 := Nat.le_trans (Nat.le_trans (Nat.le_of_eq zP0.1.symm) zP0.2.1) R3_0
  have sz_r_3 : h0.size ≤ r_3 := Nat.le_trans (Keep.refl h0 []).1 R3_0
  have K6 := (Keep.refl h0 []).trans Kp3 all0
  show Rch p.tables e below _ (T3.setTop (mkF m 24 #[.val (.ref a), .val (.ref u)] [(.ref r_3)]))
  obtain ⟨fs, hr, hrun, hended, hW, hsame⟩ := X3.leave (v := some (.ref r_3)) (fun h => by rw [Bd.returns] at h; cases h)
  refine Rch.fin (u := T3.setFrames fs) (own_retA X3 hx Bd.returns rfl rfl rfl (hb hby d38_24) hr) ⟨_, hrun, hended, _, _, rfl, ?_, ⟨_, rfl⟩, hW, hsame.mono (by decide) (by decide)⟩
  show Q_cgbc Z a b kb z vs u cs h0 n0 _ T3.heap _
  exact ⟨r_3, kr_3, rfl, N3, K6, Op3, sz_r_3, R3_1⟩
theorem d27_0 : decode prog_17_method_6_code 0 = .ok (.aload_n 0, 1) := by decide +kernel
theorem d27_1 : decode prog_17_method_6_code 1 = .ok (.getfield 14, 3) := by decide +kernel
theorem d27_4 : decode prog_17_method_6_code 4 = .ok (.invokevirtual 45, 3) := by decide +kernel
theorem pd_28 : parseMethodDescriptor "()Ljava/lang/String;" = some ⟨[], some (.object "java/lang/String")⟩ := by decide +kernel
abbrev Y_34 : MethodName := ⟨"java/lang/StringBuilder", "toString", "()Ljava/lang/String;"⟩
theorem d27_7 : decode prog_17_method_6_code 7 = .ok (.getstatic 49, 3) := by decide +kernel
theorem d27_10 : decode prog_17_method_6_code 10 = .ok (.invokevirtual 55, 3) := by decide +kernel
theorem pd_29 : parseMethodDescriptor "(Ljava/nio/charset/Charset;)[B" = some ⟨[(.object "java/nio/charset/Charset")], some (.array .byte)⟩ := by decide +kernel
abbrev Y_35 : MethodName := ⟨"java/lang/String", "getBytes", "(Ljava/nio/charset/Charset;)[B"⟩
theorem d27_13 : decode prog_17_method_6_code 13 = .ok (.areturn, 1) := by decide +kernel
def Q_cbytes (Z : State) (hm : Addr) (sb : Addr) (d : Addr) (kd : ClassId) (vd : List Value) (z : Int32) (u : Addr) (cs : Int32) (h0 : Heap) (n0 : Nat) (v : Option Value) (h : Heap) (L : List Loc) : Prop := ∃ (r : Addr) (kr : ClassId), v = some (.ref r) ∧ Fr n0 L ∧ Keep h0 h [] ∧ Old Z n0 h ∧ h0.size ≤ r ∧ Arv Z h r kr .byte z (own_cp vd (List.replicate 26 (.int (0 : Int32))) ((0 : Int32)).toNatClampNeg (z).toNatClampNeg) (.int (0 : Int32))
theorem ef_cbytes (m : MethodId) (hm : Addr) (sb : Addr) (d : Addr) (kd : ClassId) (vd : List Value) (z : Int32) (u : Addr) (cs : Int32) : entryFrame m #[(.ref hm)] 1 = mkF m 0 #[.val (.ref hm)] [] := by first | (simp [entryFrame, mkF, argsToLocals, Value.category]; done) | rfl
set_option maxRecDepth 65536 in
set_option maxHeartbeats 40000000 in
theorem cbytes (l : Launch) (Z : State) (a0 : Array Value) (hw : ∀ d ∈ tables_1, d.before a0 Z = true) (ws : List Jvm.Cond) (hm : Addr) (sb : Addr) (d : Addr) (kd : ClassId) (vd : List Value) (z : Int32) (u : Addr) (cs : Int32) (h0 : Heap) (n0 : Nat) (zD0 : Sta Z Z.heap "java/lang/String" "COMPACT_STRINGS" "Z" (.int cs)) (zD1 : Sta Z Z.heap "sun/nio/cs/UTF_8" "INSTANCE" "Lsun/nio/cs/UTF_8;" (.ref u)) (zD2 : Sta Z Z.heap "java/nio/charset/StandardCharsets" "UTF_8" "Ljava/nio/charset/Charset;" (.ref u)) (zP0 : Old Z n0 h0) (zP1 : Exa Z h0 hm "com/example/orrery/orrery/server/Html") (zP2 : Fld Z h0 hm "com/example/orrery/orrery/server/Html" "out" "Ljava/lang/StringBuilder;" (.ref sb)) (zP3 : Exa Z h0 sb "java/lang/StringBuilder") (zP4 : Fld Z h0 sb "java/lang/AbstractStringBuilder" "coder" "B" (.int (0 : Int32))) (zP5 : Fld Z h0 sb "java/lang/AbstractStringBuilder" "value" "[B" (.ref d)) (zP6 : Fld Z h0 sb "java/lang/AbstractStringBuilder" "count" "I" (.int z)) (zP7 : Arv Z h0 d kd .byte (32 : Int32) vd (.int (0 : Int32))) (hz0 : ¬ z < (0 : Int32)) (hz26 : z.toNatClampNeg ≤ 26) (hz32 : ¬ z = (32 : Int32)) (hzl : z < (32 : Int32)) (hln : vd.length = 32) (hcs : ¬ cs = (0 : Int32)) (hps : own_pos vd z.toNatClampNeg) :
    MetFree l (⟨"com/example/orrery/orrery/server/Html", "bytes", "()[B"⟩ : MethodName) (head1 (Jvm.Cond.code (⟨"com/example/orrery/orrery/server/Html", "bytes", "()[B"⟩ : MethodName) prog_17_method_6_code 1 (some (.array .byte)) :: ws) ({ frames := 6, cells := 3, slots := 56, locals := 113 } : Room)) (fun aA uU => aA = #[(.ref hm)] ∧ Z.Warmed39 uU.vm ∧ uU.heap = h0) (fun _ _ _ _ _ => True) (fun _ uU oO uU' => ∃ vV lL, oO = .returned vV ∧ Q_cbytes Z hm sb d kd vd z u cs h0 n0 vV uU'.heap lL ∧ FrameEnd uU oO uU' lL ({ frames := 6, cells := 3, slots := 56, locals := 113 } : Room).cells ({ frames := 6, cells := 3, slots := 56, locals := 113 } : Room).slots) := by
  refine MetFree.of_bodySF (plainFor_of_name pn_com_example_orrery_orrery_server_Html) hisR ?_
  intro p e s m args below meth c s₁ Bd hml0 hP hK
  obtain ⟨rfl, hZ, hh⟩ := hP
  have hx := Bd.exec
  have hby := Bd.bytes
  have hml : c.maxLocals = 1 := hml0
  have hown : s.vm.findClass "com/example/orrery/orrery/server/Html" = some m.cls := findClass_of_methodNamed Bd.named
  have hnm := (name_of_methodNamed Bd.named Bd.method).1
  have X0 : Stand p l e ({ frames := 6, cells := 3, slots := 56, locals := 113 } : Room) s m #[(.ref hm)] below meth c s₁ [] 0 0 := Stand.of_body Bd
  have e0 : s₁.heap = h0 := by rw [← hh, Bd.state]; rfl
  have N0 := Fr.nil n0
  refine Rch.out (Rch.st (fun t k => castTop (ef_cbytes m hm sb d kd vd z u cs) k) ?_)
  show Rch p.tables e below _ (s₁.setTop (mkF m 0 #[.val (.ref hm)] []))
  refine Rch.st (fun _ hr => XS.aloadN X0.here hx rfl (hb hby d27_0) rfl rfl hr) ?_
  obtain ⟨T1, X1, e1, st1⟩ := getF X0 hx hZ hown (host := "") (Or.inl (own_w hw 125 rfl)) Via.refl e0 zP2 (g := (mkF m 1 #[.val (.ref hm)] [(.ref hm)])) rfl rfl (hb hby d27_1)
  refine Rch.st st1 ?_
  obtain ⟨_, T2, Lc2, X2, hQ2, st2⟩ := own_callV X1 hx hZ (y := Y_34) (z := Y_34) hown (own_w hw 154 rfl) (own_w hw 155 rfl) (notFace_of_selects (args := #[]) (mvT hZ (own_w hw 157 rfl))) (own_w hw 157 rfl) (own_w hw 156 rfl) (own_w hw 56 rfl) (own_w hw 158 rfl) (by decide) (W := 0) (ctos l Z a0 hw [] sb d kd vd z cs h0 n0 zD0 zP0 zP3 zP4 zP5 zP6 zP7 hcs hz0 hz26 hz32 hzl hln) (by decide) (by decide) e1 zP3 (by decide) (by decide) (g := (mkF m 4 #[.val (.ref hm)] [(.ref sb)])) rfl (by rw [hml]; rfl) (argsL := []) (rest := []) (lenOf pd_28 rfl) rfl (own_mr rfl rfl) (hb hby d27_4) rfl
  obtain ⟨a_2, bx_2, kb_2, rfl, N2q, Kp2, Op2, R2_0, R2_1, R2_2, R2_3, R2_4, R2_5, R2_6⟩ := hQ2
  have N2 := Fr.app N0 N2q
  refine Rch.st st2 ?_
  have ne3 := Nat.ne_of_lt (Nat.lt_of_lt_of_le zP2.lt R2_0)
  have ne4 := Nat.ne_of_lt (Nat.lt_of_lt_of_le zP6.lt R2_0)
  have ne5 := Nat.ne_of_lt (Nat.lt_of_lt_of_le zP7.lt R2_0)
  have g_a_2 : n0 ≤ a_2 := Nat.le_trans (Nat.le_trans (Nat.le_of_eq zP0.1.symm) zP0.2.1) R2_0
  have sz_a_2 : h0.size ≤ a_2 := Nat.le_trans (Keep.refl h0 []).1 R2_0
  have ne6 := Nat.ne_of_lt (Nat.lt_of_lt_of_le zP2.lt R2_4)
  have ne7 := Nat.ne_of_lt (Nat.lt_of_lt_of_le zP6.lt R2_4)
  have ne8 := Nat.ne_of_lt (Nat.lt_of_lt_of_le zP7.lt R2_4)
  have g_bx_2 : n0 ≤ bx_2 := Nat.le_trans (Nat.le_trans (Nat.le_of_eq zP0.1.symm) zP0.2.1) R2_4
  have sz_bx_2 : h0.size ≤ bx_2 := Nat.le_trans (Keep.refl h0 []).1 R2_4
  have K9 := (Keep.refl h0 []).trans Kp2 all0
  obtain ⟨T10, X10, e10, st10⟩ := getS2 X2 hx hZ hown (host := "") (Or.inl (own_w hw 195 rfl)) Via.refl rfl (zD2.ext Op2.2) (g := (mkF m 7 #[.val (.ref hm)] [(.ref a_2)])) rfl (hb hby d27_7)
  refine Rch.st st10 ?_
  obtain ⟨_, T11, Lc11, X11, hQ11, st11⟩ := own_callV X10 hx hZ (y := Y_35) (z := Y_35) hown (own_w hw 197 rfl) (own_w hw 198 rfl) (notFace_of_selects (args := #[]) (mvT hZ (own_w hw 200 rfl))) (own_w hw 200 rfl) (own_w hw 199 rfl) (own_w hw 2 rfl) (own_w hw 201 rfl) (by decide) (W := 0) (cgbc l Z a0 hw [] a_2 bx_2 kb_2 z (own_cp vd (List.replicate 26 (.int (0 : Int32))) ((0 : Int32)).toNatClampNeg (z).toNatClampNeg) u cs T2.heap n0 zD0 zD1 Op2 R2_1 R2_2 R2_3 R2_6 R2_5 hz0 (own_pos_cp hps) hz26 hcs) (by decide) (by decide) e10 R2_1 (by decide) (by decide) (g := (mkF m 10 #[.val (.ref hm)] [(.ref u), (.ref a_2)])) rfl (by rw [hml]; rfl) (argsL := [(.ref u)]) (rest := []) (lenOf pd_29 rfl) rfl (own_mr rfl rfl) (hb hby d27_10) rfl
  obtain ⟨r_11, kr_11, rfl, N11q, Kp11, Op11, R11_0, R11_1⟩ := hQ11
  have N11 := Fr.app N2 N11q
  refine Rch.st st11 ?_
  have f12 := (zP2.keep Kp2 nin0)
  have ne13 := Nat.ne_of_lt (Nat.lt_of_lt_of_le f12.lt R11_0)
  have f14 := (zP6.keep Kp2 nin0)
  have ne15 := Nat.ne_of_lt (Nat.lt_of_lt_of_le f14.lt R11_0)
  have f16 := (zP7.keep Kp2 nin0)
  have ne17 := Nat.ne_of_lt (Nat.lt_of_lt_of_le f16.lt R11_0)
  have ne18 := Nat.ne_of_lt (Nat.lt_of_lt_of_le R2_3.lt R11_0)
  have ne19 := Nat.ne_of_lt (Nat.lt_of_lt_of_le R2_6.lt R11_0)
  have g_r_11 : n0 ≤ r_11 := Nat.le_trans (Nat.le_trans (Nat.le_of_eq Op2.1.symm) Op2.2.1) R11_0
  have sz_r_11 : h0.size ≤ r_11 := Nat.le_trans K9.1 R11_0
  have K20 := K9.trans Kp11 all0
  obtain ⟨fs, hr, hrun, hended, hW, hsame⟩ := X11.leave (v := some (.ref r_11)) (fun h => by rw [Bd.returns] at h; cases h)
  refine Rch.fin (u := T11.setFrames fs) (own_retA X11 hx Bd.returns rfl rfl rfl (hb hby d27_13) hr) ⟨_, hrun, hended, _, _, rfl, ?_, ⟨_, rfl⟩, hW, hsame.mono (by decide) (by decide)⟩
  show Q_cbytes Z hm sb d kd vd z u cs h0 n0 _ T11.heap _
  exact ⟨r_11, kr_11, rfl, N11, K20, Op11, sz_r_11, R11_1⟩
theorem pd_30 : parseMethodDescriptor "([C)V" = some ⟨[(.array .char)], none⟩ := by decide +kernel
abbrev Y_36 : MethodName := ⟨"java/lang/String", "<init>", "([C)V"⟩
theorem pd_31 : parseMethodDescriptor "(C)Ljava/lang/String;" = some ⟨[.char], some (.object "java/lang/String")⟩ := by decide +kernel
abbrev Y_37 : MethodName := ⟨"java/lang/String", "valueOf", "(C)Ljava/lang/String;"⟩
theorem pd_32 : parseMethodDescriptor "()V" = some ⟨[], none⟩ := by decide +kernel
abbrev Y_38 : MethodName := ⟨"com/example/orrery/orrery/server/Html", "<init>", "()V"⟩
theorem pd_33 : parseMethodDescriptor "(Ljava/lang/String;)Lcom/example/orrery/orrery/server/Html;" = some ⟨[(.object "java/lang/String")], some (.object "com/example/orrery/orrery/server/Html")⟩ := by decide +kernel
abbrev Y_39 : MethodName := ⟨"com/example/orrery/orrery/server/Html", "close", "(Ljava/lang/String;)Lcom/example/orrery/orrery/server/Html;"⟩
abbrev Y_40 : MethodName := ⟨"com/example/orrery/orrery/server/Html", "bytes", "()[B"⟩
def Q_claw (Z : State) (p0 : Int32) (p1 : Int32) (p2 : Int32) (p3 : Int32) (p4 : Int32) (cs : Int32) (u : Addr) (h0 : Heap) (n0 : Nat) (v : Option Value) (h : Heap) (L : List Loc) (vm : Vm) : Prop := v = some (.int (1 : Int32)) ∧ Fr n0 L ∧ Keep h0 h [] ∧ Old Z n0 h
theorem pn_com_example_orrery_orrery_server_HtmlClosePinLaw : plainName "com/example/orrery/orrery/server/HtmlClosePinLaw" = true := by first | (simp [plainName, overriddenIn]; done) | decide +kernel
theorem ef_claw (m : MethodId) (p0 : Int32) (p1 : Int32) (p2 : Int32) (p3 : Int32) (p4 : Int32) (cs : Int32) (u : Addr) : entryFrame m #[(.int p0), (.int p1), (.int p2), (.int p3), (.int p4)] maxLocals = mkF m 0 #[.val (.int p0), .val (.int p1), .val (.int p2), .val (.int p3), .val (.int p4), .unset, .unset, .unset, .unset, .unset, .unset, .unset, .unset, .unset, .unset, .unset, .unset, .unset, .unset, .unset] [] := by first | (simp [entryFrame, mkF, argsToLocals, Value.category, maxLocals]; done) | rfl
set_option maxRecDepth 65536 in
set_option maxHeartbeats 40000000 in
theorem claw (l : Launch) (Z : State) (a0 : Array Value) (hw : ∀ d ∈ tables_1, d.before a0 Z = true) (ws : List Jvm.Cond) (p0 : Int32) (p1 : Int32) (p2 : Int32) (p3 : Int32) (p4 : Int32) (cs : Int32) (u : Addr) (h0 : Heap) (n0 : Nat) (zD0 : Sta Z Z.heap "java/lang/String" "COMPACT_STRINGS" "Z" (.int cs)) (zD1 : Sta Z Z.heap "sun/nio/cs/UTF_8" "INSTANCE" "Lsun/nio/cs/UTF_8;" (.ref u)) (zD2 : Sta Z Z.heap "java/nio/charset/StandardCharsets" "UTF_8" "Ljava/nio/charset/Charset;" (.ref u)) (zP0 : Old Z n0 h0) (hcs : ¬ cs = (0 : Int32)) :
    MetFree l x (head1 (Jvm.Cond.code x code maxLocals ret :: ws) room_1) (fun aA uU => aA = #[(.int p0), (.int p1), (.int p2), (.int p3), (.int p4)] ∧ Z.Warmed39 uU.vm ∧ uU.heap = h0 ∧ CHv Z consts_1 uU.vm h0 ∧ ∀ x ∈ ([] : List Addr), Safe Z consts_1 uU.vm h0 x) (fun _ _ _ _ _ => True) (fun _ uU oO uU' => ∃ vV lL, oO = .returned vV ∧ Q_claw Z p0 p1 p2 p3 p4 cs u h0 n0 vV uU'.heap lL uU'.vm ∧ CHr Z consts_1 uU.vm uU.heap uU'.vm uU'.heap ∧ ReturnedEndW uU oO uU' lL room_1.cells room_1.slots) := by
  refine MetFree.of_bodySF (plainFor_of_name pn_com_example_orrery_orrery_server_HtmlClosePinLaw) hisR ?_
  intro p e s m args below meth c s₁ Bd hml0 hP hK
  obtain ⟨rfl, hZ, hh, hCH, hSF⟩ := hP
  have hx := Bd.exec
  have hby := Bd.bytes
  have hml : c.maxLocals = 20 := hml0
  have hown : s.vm.findClass "com/example/orrery/orrery/server/HtmlClosePinLaw" = some m.cls := findClass_of_methodNamed Bd.named
  have hnm := (name_of_methodNamed Bd.named Bd.method).1
  have X0 : Stand p l e room_1 s m #[(.int p0), (.int p1), (.int p2), (.int p3), (.int p4)] below meth c s₁ [] 0 0 := Stand.of_body Bd
  have e0 : s₁.heap = h0 := by rw [← hh, Bd.state]; rfl
  have N0 := Fr.nil n0
  have hwS : ∀ a ∈ Bundle.stringAtoms, a.before a0 Z = true := fun d hd => hw d ((by decide +kernel : ∀ d ∈ Bundle.stringAtoms, d ∈ tables_1) d hd)
  have CR0 : CHr Z consts_1 s.vm h0 s.vm h0 := CHr.refl hCH
  refine Rch.out (Rch.st (fun t k => castTop (ef_claw m p0 p1 p2 p3 p4 cs u) k) ?_)
  show Rch p.tables e below _ (s₁.setTop (mkF m 0 #[.val (.int p0), .val (.int p1), .val (.int p2), .val (.int p3), .val (.int p4), .unset, .unset, .unset, .unset, .unset, .unset, .unset, .unset, .unset, .unset, .unset, .unset, .unset, .unset, .unset] []))
  refine Rch.st (fun _ hr => XS.iloadN X0.here hx rfl (hb hby at_0) rfl hr) ?_
  refine Rch.st (fun _ hr => XS.iconst X0.here hx rfl (hb hby at_1) hr) ?_
  refine Rch.st (fun _ hr => XS.iand X0.here hx rfl (hb hby at_2) rfl hr) ?_
  refine Rch.st (fun _ hr => XS.istore X0.here hx rfl (hb hby at_3) rfl (l' := #[.val (.int p0), .val (.int p1), .val (.int p2), .val (.int p3), .val (.int p4), .val (.int (p0 &&& (3 : Int32))), .unset, .unset, .unset, .unset, .unset, .unset, .unset, .unset, .unset, .unset, .unset, .unset, .unset, .unset]) rfl hr) ?_
  refine Rch.st (fun _ hr => XS.iloadN X0.here hx rfl (hb hby at_5) rfl hr) ?_
  refine Rch.st (fun _ hr => XS.bipush X0.here hx rfl (hb hby at_6) hr) ?_
  refine Rch.st (fun _ hr => XS.iand X0.here hx rfl (hb hby at_8) rfl hr) ?_
  refine Rch.st (fun _ hr => XS.i2c X0.here hx rfl (hb hby at_9) rfl hr) ?_
  show Rch p.tables e below _ (s₁.setTop (mkF m 10 #[.val (.int p0), .val (.int p1), .val (.int p2), .val (.int p3), .val (.int p4), .val (.int (p0 &&& (3 : Int32))), .unset, .unset, .unset, .unset, .unset, .unset, .unset, .unset, .unset, .unset, .unset, .unset, .unset, .unset] [(.int ((p1 &&& (127 : Int32)).toUInt32.toUInt16.toUInt32.toInt32))]))
  refine Rch.st (fun _ hr => XS.istore X0.here hx rfl (hb hby at_10) rfl (l' := #[.val (.int p0), .val (.int p1), .val (.int p2), .val (.int p3), .val (.int p4), .val (.int (p0 &&& (3 : Int32))), .val (.int ((p1 &&& (127 : Int32)).toUInt32.toUInt16.toUInt32.toInt32)), .unset, .unset, .unset, .unset, .unset, .unset, .unset, .unset, .unset, .unset, .unset, .unset, .unset]) rfl hr) ?_
  show Rch p.tables e below _ (s₁.setTop (mkF m 12 #[.val (.int p0), .val (.int p1), .val (.int p2), .val (.int p3), .val (.int p4), .val (.int (p0 &&& (3 : Int32))), .val (.int ((p1 &&& (127 : Int32)).toUInt32.toUInt16.toUInt32.toInt32)), .unset, .unset, .unset, .unset, .unset, .unset, .unset, .unset, .unset, .unset, .unset, .unset, .unset] []))
  obtain ⟨ch1, hch1⟩ : ∃ z, z = ((p1 &&& (127 : Int32)).toUInt32.toUInt16.toUInt32.toInt32) ∧ own_A z := ⟨_, rfl, own_asc _⟩
  rw [← hch1.1]
  show Rch p.tables e below _ (s₁.setTop (mkF m 12 #[.val (.int p0), .val (.int p1), .val (.int p2), .val (.int p3), .val (.int p4), .val (.int (p0 &&& (3 : Int32))), .val (.int ch1), .unset, .unset, .unset, .unset, .unset, .unset, .unset, .unset, .unset, .unset, .unset, .unset, .unset] []))
  refine Rch.st (fun _ hr => XS.iloadN X0.here hx rfl (hb hby at_12) rfl hr) ?_
  refine Rch.st (fun _ hr => XS.bipush X0.here hx rfl (hb hby at_13) hr) ?_
  refine Rch.st (fun _ hr => XS.iand X0.here hx rfl (hb hby at_15) rfl hr) ?_
  refine Rch.st (fun _ hr => XS.i2c X0.here hx rfl (hb hby at_16) rfl hr) ?_
  refine Rch.st (fun _ hr => XS.istore X0.here hx rfl (hb hby at_17) rfl (l' := #[.val (.int p0), .val (.int p1), .val (.int p2), .val (.int p3), .val (.int p4), .val (.int (p0 &&& (3 : Int32))), .val (.int ch1), .val (.int ((p2 &&& (127 : Int32)).toUInt32.toUInt16.toUInt32.toInt32)), .unset, .unset, .unset, .unset, .unset, .unset, .unset, .unset, .unset, .unset, .unset, .unset]) rfl hr) ?_
  show Rch p.tables e below _ (s₁.setTop (mkF m 19 #[.val (.int p0), .val (.int p1), .val (.int p2), .val (.int p3), .val (.int p4), .val (.int (p0 &&& (3 : Int32))), .val (.int ch1), .val (.int ((p2 &&& (127 : Int32)).toUInt32.toUInt16.toUInt32.toInt32)), .unset, .unset, .unset, .unset, .unset, .unset, .unset, .unset, .unset, .unset, .unset, .unset] []))
  obtain ⟨ch2, hch2⟩ : ∃ z, z = ((p2 &&& (127 : Int32)).toUInt32.toUInt16.toUInt32.toInt32) ∧ own_A z := ⟨_, rfl, own_asc _⟩
  rw [← hch2.1]
  show Rch p.tables e below _ (s₁.setTop (mkF m 19 #[.val (.int p0), .val (.int p1), .val (.int p2), .val (.int p3), .val (.int p4), .val (.int (p0 &&& (3 : Int32))), .val (.int ch1), .val (.int ch2), .unset, .unset, .unset, .unset, .unset, .unset, .unset, .unset, .unset, .unset, .unset, .unset] []))
  refine Rch.st (fun _ hr => XS.iloadN X0.here hx rfl (hb hby at_19) rfl hr) ?_
  refine Rch.st (fun _ hr => XS.bipush X0.here hx rfl (hb hby at_20) hr) ?_
  refine Rch.st (fun _ hr => XS.iand X0.here hx rfl (hb hby at_22) rfl hr) ?_
  refine Rch.st (fun _ hr => XS.i2c X0.here hx rfl (hb hby at_23) rfl hr) ?_
  refine Rch.st (fun _ hr => XS.istore X0.here hx rfl (hb hby at_24) rfl (l' := #[.val (.int p0), .val (.int p1), .val (.int p2), .val (.int p3), .val (.int p4), .val (.int (p0 &&& (3 : Int32))), .val (.int ch1), .val (.int ch2), .val (.int ((p3 &&& (127 : Int32)).toUInt32.toUInt16.toUInt32.toInt32)), .unset, .unset, .unset, .unset, .unset, .unset, .unset, .unset, .unset, .unset, .unset]) rfl hr) ?_
  show Rch p.tables e below _ (s₁.setTop (mkF m 26 #[.val (.int p0), .val (.int p1), .val (.int p2), .val (.int p3), .val (.int p4), .val (.int (p0 &&& (3 : Int32))), .val (.int ch1), .val (.int ch2), .val (.int ((p3 &&& (127 : Int32)).toUInt32.toUInt16.toUInt32.toInt32)), .unset, .unset, .unset, .unset, .unset, .unset, .unset, .unset, .unset, .unset, .unset] []))
  obtain ⟨ch3, hch3⟩ : ∃ z, z = ((p3 &&& (127 : Int32)).toUInt32.toUInt16.toUInt32.toInt32) ∧ own_A z := ⟨_, rfl, own_asc _⟩
  rw [← hch3.1]
  show Rch p.tables e below _ (s₁.setTop (mkF m 26 #[.val (.int p0), .val (.int p1), .val (.int p2), .val (.int p3), .val (.int p4), .val (.int (p0 &&& (3 : Int32))), .val (.int ch1), .val (.int ch2), .val (.int ch3), .unset, .unset, .unset, .unset, .unset, .unset, .unset, .unset, .unset, .unset, .unset] []))
  refine Rch.st (fun _ hr => XS.iload X0.here hx rfl (hb hby at_26) rfl hr) ?_
  refine Rch.st (fun _ hr => XS.bipush X0.here hx rfl (hb hby at_28) hr) ?_
  refine Rch.st (fun _ hr => XS.iand X0.here hx rfl (hb hby at_30) rfl hr) ?_
  refine Rch.st (fun _ hr => XS.i2c X0.here hx rfl (hb hby at_31) rfl hr) ?_
  refine Rch.st (fun _ hr => XS.istore X0.here hx rfl (hb hby at_32) rfl (l' := #[.val (.int p0), .val (.int p1), .val (.int p2), .val (.int p3), .val (.int p4), .val (.int (p0 &&& (3 : Int32))), .val (.int ch1), .val (.int ch2), .val (.int ch3), .val (.int ((p4 &&& (127 : Int32)).toUInt32.toUInt16.toUInt32.toInt32)), .unset, .unset, .unset, .unset, .unset, .unset, .unset, .unset, .unset, .unset]) rfl hr) ?_
  show Rch p.tables e below _ (s₁.setTop (mkF m 34 #[.val (.int p0), .val (.int p1), .val (.int p2), .val (.int p3), .val (.int p4), .val (.int (p0 &&& (3 : Int32))), .val (.int ch1), .val (.int ch2), .val (.int ch3), .val (.int ((p4 &&& (127 : Int32)).toUInt32.toUInt16.toUInt32.toInt32)), .unset, .unset, .unset, .unset, .unset, .unset, .unset, .unset, .unset, .unset] []))
  obtain ⟨ch4, hch4⟩ : ∃ z, z = ((p4 &&& (127 : Int32)).toUInt32.toUInt16.toUInt32.toInt32) ∧ own_A z := ⟨_, rfl, own_asc _⟩
  rw [← hch4.1]
  show Rch p.tables e below _ (s₁.setTop (mkF m 34 #[.val (.int p0), .val (.int p1), .val (.int p2), .val (.int p3), .val (.int p4), .val (.int (p0 &&& (3 : Int32))), .val (.int ch1), .val (.int ch2), .val (.int ch3), .val (.int ch4), .unset, .unset, .unset, .unset, .unset, .unset, .unset, .unset, .unset, .unset] []))
  obtain ⟨T1, h1, X1, e1, E1, A1, D1, -, st1⟩ := newO X0 hx hZ hown (own_w hw 0 rfl) (own_w hw 1 rfl) (own_w hw 2 rfl) e0 (g := (mkF m 34 #[.val (.int p0), .val (.int p1), .val (.int p2), .val (.int p3), .val (.int p4), .val (.int (p0 &&& (3 : Int32))), .val (.int ch1), .val (.int ch2), .val (.int ch3), .val (.int ch4), .unset, .unset, .unset, .unset, .unset, .unset, .unset, .unset, .unset, .unset] [])) rfl (hb hby at_34) (by decide) (by decide)
  obtain ⟨b1, g1⟩ : ∃ z, z = h0.size := ⟨_, rfl⟩
  rw [← g1] at A1 D1 st1
  refine Rch.st st1 ?_
  have q1 : h0.size ≤ b1 := Nat.le_of_eq g1.symm
  have g_b1 : n0 ≤ b1 := Nat.le_trans (Nat.le_trans (Nat.le_of_eq zP0.1.symm) zP0.2.1) q1
  have sz_b1 : h0.size ≤ b1 := Nat.le_trans (Keep.refl h0 []).1 q1
  have cs2 := CHr.ext E1 CR0.1
  have CR2 := CR0.trans cs2
  have K3 := (Keep.refl h0 []).ext E1
  have F1_value : Fld Z h1 b1 "java/lang/String" "value" "[B" .null := D1 (Or.inr (own_w hw 16 rfl)) (ty := (.array .byte)) (by decide)
  have F1_coder : Fld Z h1 b1 "java/lang/String" "coder" "B" (.int (0 : Int32)) := D1 (Or.inr (own_w hw 17 rfl)) (ty := .byte) (by decide)
  refine Rch.st (fun _ hr => XS.dup X1.here hx rfl (hb hby at_37) rfl rfl hr) ?_
  refine Rch.st (fun _ hr => XS.iconst X1.here hx rfl (hb hby at_38) hr) ?_
  obtain ⟨T4, h4, k4, X4, e4, E4, A4, st4⟩ := newP X1 hx hZ (own_w hw 3 rfl) e1 (g := (mkF m 39 #[.val (.int p0), .val (.int p1), .val (.int p2), .val (.int p3), .val (.int p4), .val (.int (p0 &&& (3 : Int32))), .val (.int ch1), .val (.int ch2), .val (.int ch3), .val (.int ch4), .unset, .unset, .unset, .unset, .unset, .unset, .unset, .unset, .unset, .unset] [(.int (0 : Int32)), (.ref b1), (.ref b1)])) rfl (hb hby at_39) rfl (by decide) (cap := 0) (by decide) (by decide) (by decide) (by decide)
  obtain ⟨b4, g4⟩ : ∃ z, z = h1.size := ⟨_, rfl⟩
  rw [← g4] at A4 st4
  refine Rch.st st4 ?_
  have q4 : h1.size ≤ b4 := Nat.le_of_eq g4.symm
  have ne5 := Nat.ne_of_lt (Nat.lt_of_lt_of_le F1_coder.lt q4)
  have f6 := (zP0.ext E1)
  have g_b4 : n0 ≤ b4 := Nat.le_trans (Nat.le_trans (Nat.le_of_eq f6.1.symm) f6.2.1) q4
  have sz_b4 : h0.size ≤ b4 := Nat.le_trans K3.1 q4
  have cs7 := CHr.ext E4 CR2.1
  have CR7 := CR2.trans cs7
  have K8 := K3.ext E4
  have V4 : Arv Z h4 b4 k4 .char (0 : Int32) [] (.int (0 : Int32)) := Arv.new A4 (by decide)
  have f10 := (f6.ext E4)
  have f11 := (A1.ext E4)
  have f12 := (F1_coder.ext E4)
  have f13 := (F1_value.ext E4)
  have hS0 : s.Since s.vm h4.size := (State.WarmedH.refl s).since _
  have hcs14 := cs7
  have sf14 := hcs14.safe A1.lt (Safe.ext E1 CR0.1 (Safe.new q1))
  obtain ⟨_, T9, Lc9, X9, hQ9, hC9, hS9, hZ9, hown9, st9⟩ := own_callIH (s := s) (vm0 := s.vm) X4 hx hZ hS0 (Nat.le_refl _) (own_EW hw) CR7.1 (xs := [b1]) (allS ⟨(Nat.lt_of_lt_of_le A1.lt hcs14.2.1), sf14⟩ all0) (y := Y_36) rfl hown (own_w hw 4 rfl) (own_w hw 5 rfl) (own_w hw 2 rfl) (own_w hw 6 rfl) (by decide) (W := 1) (cinitC0 l Z a0 hw [] b1 b4 k4 cs h4 n0 zD0 f10 f11 f12 f13 g_b1 V4) (by decide) (by decide) e4 (by decide) (by decide) (g := (mkF m 41 #[.val (.int p0), .val (.int p1), .val (.int p2), .val (.int p3), .val (.int p4), .val (.int (p0 &&& (3 : Int32))), .val (.int ch1), .val (.int ch2), .val (.int ch3), .val (.int ch4), .unset, .unset, .unset, .unset, .unset, .unset, .unset, .unset, .unset, .unset] [(.ref b4), (.ref b1), (.ref b1)])) rfl (by rw [hml]; rfl) (a := b1) (argsL := [(.ref b4)]) (rest := [(.ref b1)]) (lenOf pd_30 rfl) rfl (own_mr rfl rfl) (hb hby at_41) rfl
  obtain ⟨bx_9, kb_9, rfl, N9q, Kp9, Op9, R9_0, R9_1, R9_2, R9_3⟩ := hQ9
  have N9 := Fr.app N0 N9q
  refine Rch.st st9 ?_
  have CR15 := CR7.trans hC9
  have K16 := K8.trans Kp9 (allS (Or.inr sz_b1) all0)
  refine Rch.st (fun _ hr => XS.astore X9.here hx rfl (hb hby at_44) rfl rfl (l' := #[.val (.int p0), .val (.int p1), .val (.int p2), .val (.int p3), .val (.int p4), .val (.int (p0 &&& (3 : Int32))), .val (.int ch1), .val (.int ch2), .val (.int ch3), .val (.int ch4), .val (.ref b1), .unset, .unset, .unset, .unset, .unset, .unset, .unset, .unset, .unset]) rfl hr) ?_
  refine Rch.st (fun _ hr => XS.iload X9.here hx rfl (hb hby at_46) rfl hr) ?_
  obtain ⟨_, T17, Lc17, X17, hQ17, st17⟩ := own_callS X9 hx hZ9 (y := Y_37) hown9 (own_w hw 22 rfl) (own_w hw 23 rfl) (own_w hw 2 rfl) (own_w hw 24 rfl) (by decide) (W := 0) (cvof l Z a0 hw [] ch1 cs T9.heap n0 zD0 Op9 hch1.2 hcs) (by decide) (by decide) rfl (by decide) (by decide) (g := (mkF m 48 #[.val (.int p0), .val (.int p1), .val (.int p2), .val (.int p3), .val (.int p4), .val (.int (p0 &&& (3 : Int32))), .val (.int ch1), .val (.int ch2), .val (.int ch3), .val (.int ch4), .val (.ref b1), .unset, .unset, .unset, .unset, .unset, .unset, .unset, .unset, .unset] [(.int ch1)])) rfl (by rw [hml]; rfl) (argsL := [(.int ch1)]) (rest := []) (lenOf pd_31 rfl) rfl (own_mr rfl rfl) (hb hby at_48) rfl
  obtain ⟨r_17, bx_17, kb_17, rfl, N17q, Kp17, Op17, R17_0, R17_1, R17_2, R17_3, R17_4, R17_5, R17_6⟩ := hQ17
  have N17 := Fr.app N9 N17q
  refine Rch.st st17 ?_
  have ne18 := Nat.ne_of_lt (Nat.lt_of_lt_of_le R9_2.lt R17_0)
  have f19 := (V4.keep Kp9 (ninS (Ne.symm ne5) nin0))
  have ne20 := Nat.ne_of_lt (Nat.lt_of_lt_of_le f19.lt R17_0)
  have ne21 := Nat.ne_of_lt (Nat.lt_of_lt_of_le R9_3.lt R17_0)
  have g_r_17 : n0 ≤ r_17 := Nat.le_trans (Nat.le_trans (Nat.le_of_eq Op9.1.symm) Op9.2.1) R17_0
  have sz_r_17 : h0.size ≤ r_17 := Nat.le_trans K16.1 R17_0
  have ne22 := Nat.ne_of_lt (Nat.lt_of_lt_of_le R9_2.lt R17_4)
  have ne23 := Nat.ne_of_lt (Nat.lt_of_lt_of_le f19.lt R17_4)
  have ne24 := Nat.ne_of_lt (Nat.lt_of_lt_of_le R9_3.lt R17_4)
  have g_bx_17 : n0 ≤ bx_17 := Nat.le_trans (Nat.le_trans (Nat.le_of_eq Op9.1.symm) Op9.2.1) R17_4
  have sz_bx_17 : h0.size ≤ bx_17 := Nat.le_trans K16.1 R17_4
  have cs25 := CHr.keep Kp17 sf0 CR15.1
  have CR25 := CR15.trans cs25
  have K26 := K16.trans Kp17 all0
  show Rch p.tables e below _ (T17.setTop (mkF m 51 #[.val (.int p0), .val (.int p1), .val (.int p2), .val (.int p3), .val (.int p4), .val (.int (p0 &&& (3 : Int32))), .val (.int ch1), .val (.int ch2), .val (.int ch3), .val (.int ch4), .val (.ref b1), .unset, .unset, .unset, .unset, .unset, .unset, .unset, .unset, .unset] [(.ref r_17)]))
  refine Rch.st (fun _ hr => XS.astore X17.here hx rfl (hb hby at_51) rfl rfl (l' := #[.val (.int p0), .val (.int p1), .val (.int p2), .val (.int p3), .val (.int p4), .val (.int (p0 &&& (3 : Int32))), .val (.int ch1), .val (.int ch2), .val (.int ch3), .val (.int ch4), .val (.ref b1), .val (.ref r_17), .unset, .unset, .unset, .unset, .unset, .unset, .unset, .unset]) rfl hr) ?_
  obtain ⟨T27, h27, X27, e27, E27, A27, D27, -, st27⟩ := newO X17 hx hZ9 hown9 (own_w hw 0 rfl) (own_w hw 1 rfl) (own_w hw 2 rfl) rfl (g := (mkF m 53 #[.val (.int p0), .val (.int p1), .val (.int p2), .val (.int p3), .val (.int p4), .val (.int (p0 &&& (3 : Int32))), .val (.int ch1), .val (.int ch2), .val (.int ch3), .val (.int ch4), .val (.ref b1), .val (.ref r_17), .unset, .unset, .unset, .unset, .unset, .unset, .unset, .unset] [])) rfl (hb hby at_53) (by decide) (by decide)
  obtain ⟨b27, g27⟩ : ∃ z, z = T17.heap.size := ⟨_, rfl⟩
  rw [← g27] at A27 D27 st27
  refine Rch.st st27 ?_
  have q27 : T17.heap.size ≤ b27 := Nat.le_of_eq g27.symm
  have f28 := (R9_2.keep Kp17 nin0)
  have ne29 := Nat.ne_of_lt (Nat.lt_of_lt_of_le f28.lt q27)
  have f30 := (f19.keep Kp17 nin0)
  have ne31 := Nat.ne_of_lt (Nat.lt_of_lt_of_le f30.lt q27)
  have f32 := (R9_3.keep Kp17 nin0)
  have ne33 := Nat.ne_of_lt (Nat.lt_of_lt_of_le f32.lt q27)
  have ne34 := Nat.ne_of_lt (Nat.lt_of_lt_of_le R17_3.lt q27)
  have ne35 := Nat.ne_of_lt (Nat.lt_of_lt_of_le R17_5.lt q27)
  have g_b27 : n0 ≤ b27 := Nat.le_trans (Nat.le_trans (Nat.le_of_eq Op17.1.symm) Op17.2.1) q27
  have sz_b27 : h0.size ≤ b27 := Nat.le_trans K26.1 q27
  have cs36 := CHr.ext E27 CR25.1
  have CR36 := CR25.trans cs36
  have K37 := K26.ext E27
  have F27_value : Fld Z h27 b27 "java/lang/String" "value" "[B" .null := D27 (Or.inr (own_w hw 16 rfl)) (ty := (.array .byte)) (by decide)
  have F27_coder : Fld Z h27 b27 "java/lang/String" "coder" "B" (.int (0 : Int32)) := D27 (Or.inr (own_w hw 17 rfl)) (ty := .byte) (by decide)
  refine Rch.st (fun _ hr => XS.dup X27.here hx rfl (hb hby at_56) rfl rfl hr) ?_
  refine Rch.st (fun _ hr => XS.iconst X27.here hx rfl (hb hby at_57) hr) ?_
  obtain ⟨T38, h38, k38, X38, e38, E38, A38, st38⟩ := newP X27 hx hZ9 (own_w hw 3 rfl) e27 (g := (mkF m 58 #[.val (.int p0), .val (.int p1), .val (.int p2), .val (.int p3), .val (.int p4), .val (.int (p0 &&& (3 : Int32))), .val (.int ch1), .val (.int ch2), .val (.int ch3), .val (.int ch4), .val (.ref b1), .val (.ref r_17), .unset, .unset, .unset, .unset, .unset, .unset, .unset, .unset] [(.int (2 : Int32)), (.ref b27), (.ref b27)])) rfl (hb hby at_58) rfl (by decide) (cap := 2) (by decide) (by decide) (by decide) (by decide)
  obtain ⟨b38, g38⟩ : ∃ z, z = h27.size := ⟨_, rfl⟩
  rw [← g38] at A38 st38
  refine Rch.st st38 ?_
  have q38 : h27.size ≤ b38 := Nat.le_of_eq g38.symm
  have f39 := (f28.ext E27)
  have ne40 := Nat.ne_of_lt (Nat.lt_of_lt_of_le f39.lt q38)
  have f41 := (f30.ext E27)
  have ne42 := Nat.ne_of_lt (Nat.lt_of_lt_of_le f41.lt q38)
  have f43 := (f32.ext E27)
  have ne44 := Nat.ne_of_lt (Nat.lt_of_lt_of_le f43.lt q38)
  have f45 := (R17_3.ext E27)
  have ne46 := Nat.ne_of_lt (Nat.lt_of_lt_of_le f45.lt q38)
  have f47 := (R17_5.ext E27)
  have ne48 := Nat.ne_of_lt (Nat.lt_of_lt_of_le f47.lt q38)
  have ne49 := Nat.ne_of_lt (Nat.lt_of_lt_of_le F27_coder.lt q38)
  have f50 := (Op17.ext E27)
  have g_b38 : n0 ≤ b38 := Nat.le_trans (Nat.le_trans (Nat.le_of_eq f50.1.symm) f50.2.1) q38
  have sz_b38 : h0.size ≤ b38 := Nat.le_trans K37.1 q38
  have cs51 := CHr.ext E38 CR36.1
  have CR51 := CR36.trans cs51
  have K52 := K37.ext E38
  have V38 : Arv Z h38 b38 k38 .char (2 : Int32) [(.int (0 : Int32)), (.int (0 : Int32))] (.int (0 : Int32)) := (Arv.new A38 (by decide)).pad (pad_rep [] (.int (0 : Int32)) 2)
  refine Rch.st (fun _ hr => XS.dup X38.here hx rfl (hb hby at_60) rfl rfl hr) ?_
  refine Rch.st (fun _ hr => XS.iconst X38.here hx rfl (hb hby at_61) hr) ?_
  refine Rch.st (fun _ hr => XS.iload X38.here hx rfl (hb hby at_62) rfl hr) ?_
  show Rch p.tables e below _ (T38.setTop (mkF m 64 #[.val (.int p0), .val (.int p1), .val (.int p2), .val (.int p3), .val (.int p4), .val (.int (p0 &&& (3 : Int32))), .val (.int ch1), .val (.int ch2), .val (.int ch3), .val (.int ch4), .val (.ref b1), .val (.ref r_17), .unset, .unset, .unset, .unset, .unset, .unset, .unset, .unset] [(.int ch1), (.int (0 : Int32)), (.ref b38), (.ref b38), (.ref b27), (.ref b27)]))
  obtain ⟨cl53, Ar53, qk53, Sz53, Ng53, Ha53, Gf53⟩ := id V38
  have hin53 := inb_of (j := (0 : Int32)) Sz53 ⟨by decide, by decide⟩
  obtain ⟨T54, h54, X54, e54, W54, st54⟩ := stC X38 hx hZ9 e38 Ar53 (j := (0 : Int32)) hin53 (g := (mkF m 64 #[.val (.int p0), .val (.int p1), .val (.int p2), .val (.int p3), .val (.int p4), .val (.int (p0 &&& (3 : Int32))), .val (.int ch1), .val (.int ch2), .val (.int ch3), .val (.int ch4), .val (.ref b1), .val (.ref r_17), .unset, .unset, .unset, .unset, .unset, .unset, .unset, .unset] [(.int ch1), (.int (0 : Int32)), (.ref b38), (.ref b38), (.ref b27), (.ref b27)])) rfl rfl (hb hby at_64)
  rw [own_nar_char hch1.2] at W54
  refine Rch.st st54 ?_
  have N54 := Fr.snoc X54 N17 g_b38
  have f55 := (f50.ext E38)
  have cs56 := CHr.wr W54 (Safe.arv hZ9.alike V38 (by decide)) CR51.1
  have CR56 := CR51.trans cs56
  have K57 := K52.wr W54 (Or.inr sz_b38)
  have V54 : Arv Z h54 b38 k38 .char (2 : Int32) [(.int ch1), (.int (0 : Int32))] (.int (0 : Int32)) := Arv.set Ar53 qk53 Sz53 Ng53 Ha53 Gf53 (own_fit_char hch1.2) W54 0 rfl (Nat.le_of_ble_eq_true rfl)
  refine Rch.st (fun _ hr => XS.dup X54.here hx rfl (hb hby at_65) rfl rfl hr) ?_
  refine Rch.st (fun _ hr => XS.iconst X54.here hx rfl (hb hby at_66) hr) ?_
  refine Rch.st (fun _ hr => XS.iload X54.here hx rfl (hb hby at_67) rfl hr) ?_
  obtain ⟨cl58, Ar58, qk58, Sz58, Ng58, Ha58, Gf58⟩ := id V54
  have hin58 := inb_of (j := (1 : Int32)) Sz58 ⟨by decide, by decide⟩
  obtain ⟨T59, h59, X59, e59, W59, st59⟩ := stC X54 hx hZ9 e54 Ar58 (j := (1 : Int32)) hin58 (g := (mkF m 69 #[.val (.int p0), .val (.int p1), .val (.int p2), .val (.int p3), .val (.int p4), .val (.int (p0 &&& (3 : Int32))), .val (.int ch1), .val (.int ch2), .val (.int ch3), .val (.int ch4), .val (.ref b1), .val (.ref r_17), .unset, .unset, .unset, .unset, .unset, .unset, .unset, .unset] [(.int ch2), (.int (1 : Int32)), (.ref b38), (.ref b38), (.ref b27), (.ref b27)])) rfl rfl (hb hby at_69)
  rw [own_nar_char hch2.2] at W59
  refine Rch.st st59 ?_
  have N59 := Fr.snoc X59 N54 g_b38
  have f60 := (f55.wr W54 g_b38)
  have cs61 := CHr.wr W59 (Safe.arv hZ9.alike V54 (by decide)) CR56.1
  have CR61 := CR56.trans cs61
  have K62 := K57.wr W59 (Or.inr sz_b38)
  have V59 : Arv Z h59 b38 k38 .char (2 : Int32) [(.int ch1), (.int ch2)] (.int (0 : Int32)) := Arv.set Ar58 qk58 Sz58 Ng58 Ha58 Gf58 (own_fit_char hch2.2) W59 1 rfl (Nat.le_of_ble_eq_true rfl)
  have f64 := (f60.wr W59 g_b38)
  have f65 := (((A27.ext E38).wr W54).wr W59)
  have f66 := (((F27_coder.ext E38).other W54 (Or.inl ne49)).other W59 (Or.inl ne49))
  have f67 := (((F27_value.ext E38).other W54 (Or.inl ne49)).other W59 (Or.inl ne49))
  obtain ⟨_, T63, Lc63, X63, hQ63, st63⟩ := own_callI X59 hx hZ9 (y := Y_36) rfl hown9 (own_w hw 4 rfl) (own_w hw 5 rfl) (own_w hw 2 rfl) (own_w hw 6 rfl) (by decide) (W := 1) (cinitC2 l Z a0 hw [] b27 b38 k38 ch1 ch2 cs h59 n0 zD0 f64 f65 f66 f67 g_b27 V59 hch1.2 hch2.2 hcs) (by decide) (by decide) e59 (by decide) (by decide) (g := (mkF m 70 #[.val (.int p0), .val (.int p1), .val (.int p2), .val (.int p3), .val (.int p4), .val (.int (p0 &&& (3 : Int32))), .val (.int ch1), .val (.int ch2), .val (.int ch3), .val (.int ch4), .val (.ref b1), .val (.ref r_17), .unset, .unset, .unset, .unset, .unset, .unset, .unset, .unset] [(.ref b38), (.ref b27), (.ref b27)])) rfl (by rw [hml]; rfl) (a := b27) (argsL := [(.ref b38)]) (rest := [(.ref b27)]) (lenOf pd_30 rfl) rfl (own_mr rfl rfl) (hb hby at_70) rfl
  obtain ⟨bx_63, kb_63, rfl, N63q, Kp63, Op63, R63_0, R63_1, R63_2, R63_3, R63_4⟩ := hQ63
  have N63 := Fr.app N59 N63q
  refine Rch.st st63 ?_
  have f68 := (((f39.ext E38).other W54 (Or.inl ne40)).other W59 (Or.inl ne40))
  have ne69 := Nat.ne_of_lt (Nat.lt_of_lt_of_le f68.lt R63_3)
  have f70 := (((f41.ext E38).other W54 ne42).other W59 ne42)
  have ne71 := Nat.ne_of_lt (Nat.lt_of_lt_of_le f70.lt R63_3)
  have f72 := (((f43.ext E38).other W54 ne44).other W59 ne44)
  have ne73 := Nat.ne_of_lt (Nat.lt_of_lt_of_le f72.lt R63_3)
  have f74 := (((f45.ext E38).other W54 (Or.inl ne46)).other W59 (Or.inl ne46))
  have ne75 := Nat.ne_of_lt (Nat.lt_of_lt_of_le f74.lt R63_3)
  have f76 := (((f47.ext E38).other W54 ne48).other W59 ne48)
  have ne77 := Nat.ne_of_lt (Nat.lt_of_lt_of_le f76.lt R63_3)
  have ne78 := Nat.ne_of_lt (Nat.lt_of_lt_of_le f66.lt R63_3)
  have ne79 := Nat.ne_of_lt (Nat.lt_of_lt_of_le V59.lt R63_3)
  have g_bx_63 : n0 ≤ bx_63 := Nat.le_trans (Nat.le_trans (Nat.le_of_eq f64.1.symm) f64.2.1) R63_3
  have sz_bx_63 : h0.size ≤ bx_63 := Nat.le_trans K62.1 R63_3
  have hcs80 := ((cs51.trans cs56).trans cs61)
  have sf80 := hcs80.safe A27.lt (Safe.ext E27 CR25.1 (Safe.new q27))
  have cs81 := CHr.keep Kp63 (sfS sf80 sf0) CR61.1
  have CR81 := CR61.trans cs81
  have K82 := K62.trans Kp63 (allS (Or.inr sz_b27) all0)
  refine Rch.st (fun _ hr => XS.astore X63.here hx rfl (hb hby at_73) rfl rfl (l' := #[.val (.int p0), .val (.int p1), .val (.int p2), .val (.int p3), .val (.int p4), .val (.int (p0 &&& (3 : Int32))), .val (.int ch1), .val (.int ch2), .val (.int ch3), .val (.int ch4), .val (.ref b1), .val (.ref r_17), .val (.ref b27), .unset, .unset, .unset, .unset, .unset, .unset, .unset]) rfl hr) ?_
  obtain ⟨T83, h83, X83, e83, E83, A83, D83, -, st83⟩ := newO X63 hx hZ9 hown9 (own_w hw 0 rfl) (own_w hw 1 rfl) (own_w hw 2 rfl) rfl (g := (mkF m 75 #[.val (.int p0), .val (.int p1), .val (.int p2), .val (.int p3), .val (.int p4), .val (.int (p0 &&& (3 : Int32))), .val (.int ch1), .val (.int ch2), .val (.int ch3), .val (.int ch4), .val (.ref b1), .val (.ref r_17), .val (.ref b27), .unset, .unset, .unset, .unset, .unset, .unset, .unset] [])) rfl (hb hby at_75) (by decide) (by decide)
  obtain ⟨b83, g83⟩ : ∃ z, z = T63.heap.size := ⟨_, rfl⟩
  rw [← g83] at A83 D83 st83
  refine Rch.st st83 ?_
  have q83 : T63.heap.size ≤ b83 := Nat.le_of_eq g83.symm
  have f84 := (f68.keep Kp63 (ninS ne29 nin0))
  have ne85 := Nat.ne_of_lt (Nat.lt_of_lt_of_le f84.lt q83)
  have f86 := (f72.keep Kp63 (ninS ne33 nin0))
  have ne87 := Nat.ne_of_lt (Nat.lt_of_lt_of_le f86.lt q83)
  have f88 := (f74.keep Kp63 (ninS ne34 nin0))
  have ne89 := Nat.ne_of_lt (Nat.lt_of_lt_of_le f88.lt q83)
  have f90 := (f76.keep Kp63 (ninS ne35 nin0))
  have ne91 := Nat.ne_of_lt (Nat.lt_of_lt_of_le f90.lt q83)
  have ne92 := Nat.ne_of_lt (Nat.lt_of_lt_of_le R63_2.lt q83)
  have ne93 := Nat.ne_of_lt (Nat.lt_of_lt_of_le R63_4.lt q83)
  have g_b83 : n0 ≤ b83 := Nat.le_trans (Nat.le_trans (Nat.le_of_eq Op63.1.symm) Op63.2.1) q83
  have sz_b83 : h0.size ≤ b83 := Nat.le_trans K82.1 q83
  have cs94 := CHr.ext E83 CR81.1
  have CR94 := CR81.trans cs94
  have K95 := K82.ext E83
  have F83_value : Fld Z h83 b83 "java/lang/String" "value" "[B" .null := D83 (Or.inr (own_w hw 16 rfl)) (ty := (.array .byte)) (by decide)
  have F83_coder : Fld Z h83 b83 "java/lang/String" "coder" "B" (.int (0 : Int32)) := D83 (Or.inr (own_w hw 17 rfl)) (ty := .byte) (by decide)
  show Rch p.tables e below _ (T83.setTop (mkF m 78 #[.val (.int p0), .val (.int p1), .val (.int p2), .val (.int p3), .val (.int p4), .val (.int (p0 &&& (3 : Int32))), .val (.int ch1), .val (.int ch2), .val (.int ch3), .val (.int ch4), .val (.ref b1), .val (.ref r_17), .val (.ref b27), .unset, .unset, .unset, .unset, .unset, .unset, .unset] [(.ref b83)]))
  refine Rch.st (fun _ hr => XS.dup X83.here hx rfl (hb hby at_78) rfl rfl hr) ?_
  refine Rch.st (fun _ hr => XS.iconst X83.here hx rfl (hb hby at_79) hr) ?_
  obtain ⟨T96, h96, k96, X96, e96, E96, A96, st96⟩ := newP X83 hx hZ9 (own_w hw 3 rfl) e83 (g := (mkF m 80 #[.val (.int p0), .val (.int p1), .val (.int p2), .val (.int p3), .val (.int p4), .val (.int (p0 &&& (3 : Int32))), .val (.int ch1), .val (.int ch2), .val (.int ch3), .val (.int ch4), .val (.ref b1), .val (.ref r_17), .val (.ref b27), .unset, .unset, .unset, .unset, .unset, .unset, .unset] [(.int (3 : Int32)), (.ref b83), (.ref b83)])) rfl (hb hby at_80) rfl (by decide) (cap := 3) (by decide) (by decide) (by decide) (by decide)
  obtain ⟨b96, g96⟩ : ∃ z, z = h83.size := ⟨_, rfl⟩
  rw [← g96] at A96 st96
  refine Rch.st st96 ?_
  have q96 : h83.size ≤ b96 := Nat.le_of_eq g96.symm
  have f97 := (f84.ext E83)
  have ne98 := Nat.ne_of_lt (Nat.lt_of_lt_of_le f97.lt q96)
  have f99 := (f86.ext E83)
  have ne100 := Nat.ne_of_lt (Nat.lt_of_lt_of_le f99.lt q96)
  have f101 := (f88.ext E83)
  have ne102 := Nat.ne_of_lt (Nat.lt_of_lt_of_le f101.lt q96)
  have f103 := (f90.ext E83)
  have ne104 := Nat.ne_of_lt (Nat.lt_of_lt_of_le f103.lt q96)
  have f105 := (R63_2.ext E83)
  have ne106 := Nat.ne_of_lt (Nat.lt_of_lt_of_le f105.lt q96)
  have f107 := (R63_4.ext E83)
  have ne108 := Nat.ne_of_lt (Nat.lt_of_lt_of_le f107.lt q96)
  have ne109 := Nat.ne_of_lt (Nat.lt_of_lt_of_le F83_coder.lt q96)
  have f110 := (Op63.ext E83)
  have g_b96 : n0 ≤ b96 := Nat.le_trans (Nat.le_trans (Nat.le_of_eq f110.1.symm) f110.2.1) q96
  have sz_b96 : h0.size ≤ b96 := Nat.le_trans K95.1 q96
  have cs111 := CHr.ext E96 CR94.1
  have CR111 := CR94.trans cs111
  have K112 := K95.ext E96
  have V96 : Arv Z h96 b96 k96 .char (3 : Int32) [(.int (0 : Int32)), (.int (0 : Int32)), (.int (0 : Int32))] (.int (0 : Int32)) := (Arv.new A96 (by decide)).pad (pad_rep [] (.int (0 : Int32)) 3)
  refine Rch.st (fun _ hr => XS.dup X96.here hx rfl (hb hby at_82) rfl rfl hr) ?_
  refine Rch.st (fun _ hr => XS.iconst X96.here hx rfl (hb hby at_83) hr) ?_
  refine Rch.st (fun _ hr => XS.iload X96.here hx rfl (hb hby at_84) rfl hr) ?_
  obtain ⟨cl113, Ar113, qk113, Sz113, Ng113, Ha113, Gf113⟩ := id V96
  have hin113 := inb_of (j := (0 : Int32)) Sz113 ⟨by decide, by decide⟩
  obtain ⟨T114, h114, X114, e114, W114, st114⟩ := stC X96 hx hZ9 e96 Ar113 (j := (0 : Int32)) hin113 (g := (mkF m 86 #[.val (.int p0), .val (.int p1), .val (.int p2), .val (.int p3), .val (.int p4), .val (.int (p0 &&& (3 : Int32))), .val (.int ch1), .val (.int ch2), .val (.int ch3), .val (.int ch4), .val (.ref b1), .val (.ref r_17), .val (.ref b27), .unset, .unset, .unset, .unset, .unset, .unset, .unset] [(.int ch1), (.int (0 : Int32)), (.ref b96), (.ref b96), (.ref b83), (.ref b83)])) rfl rfl (hb hby at_86)
  rw [own_nar_char hch1.2] at W114
  refine Rch.st st114 ?_
  have N114 := Fr.snoc X114 N63 g_b96
  have f115 := (f110.ext E96)
  have cs116 := CHr.wr W114 (Safe.arv hZ9.alike V96 (by decide)) CR111.1
  have CR116 := CR111.trans cs116
  have K117 := K112.wr W114 (Or.inr sz_b96)
  have V114 : Arv Z h114 b96 k96 .char (3 : Int32) [(.int ch1), (.int (0 : Int32)), (.int (0 : Int32))] (.int (0 : Int32)) := Arv.set Ar113 qk113 Sz113 Ng113 Ha113 Gf113 (own_fit_char hch1.2) W114 0 rfl (Nat.le_of_ble_eq_true rfl)
  refine Rch.st (fun _ hr => XS.dup X114.here hx rfl (hb hby at_87) rfl rfl hr) ?_
  show Rch p.tables e below _ (T114.setTop (mkF m 88 #[.val (.int p0), .val (.int p1), .val (.int p2), .val (.int p3), .val (.int p4), .val (.int (p0 &&& (3 : Int32))), .val (.int ch1), .val (.int ch2), .val (.int ch3), .val (.int ch4), .val (.ref b1), .val (.ref r_17), .val (.ref b27), .unset, .unset, .unset, .unset, .unset, .unset, .unset] [(.ref b96), (.ref b96), (.ref b83), (.ref b83)]))
  refine Rch.st (fun _ hr => XS.iconst X114.here hx rfl (hb hby at_88) hr) ?_
  refine Rch.st (fun _ hr => XS.iload X114.here hx rfl (hb hby at_89) rfl hr) ?_
  obtain ⟨cl118, Ar118, qk118, Sz118, Ng118, Ha118, Gf118⟩ := id V114
  have hin118 := inb_of (j := (1 : Int32)) Sz118 ⟨by decide, by decide⟩
  obtain ⟨T119, h119, X119, e119, W119, st119⟩ := stC X114 hx hZ9 e114 Ar118 (j := (1 : Int32)) hin118 (g := (mkF m 91 #[.val (.int p0), .val (.int p1), .val (.int p2), .val (.int p3), .val (.int p4), .val (.int (p0 &&& (3 : Int32))), .val (.int ch1), .val (.int ch2), .val (.int ch3), .val (.int ch4), .val (.ref b1), .val (.ref r_17), .val (.ref b27), .unset, .unset, .unset, .unset, .unset, .unset, .unset] [(.int ch2), (.int (1 : Int32)), (.ref b96), (.ref b96), (.ref b83), (.ref b83)])) rfl rfl (hb hby at_91)
  rw [own_nar_char hch2.2] at W119
  refine Rch.st st119 ?_
  have N119 := Fr.snoc X119 N114 g_b96
  have f120 := (f115.wr W114 g_b96)
  have cs121 := CHr.wr W119 (Safe.arv hZ9.alike V114 (by decide)) CR116.1
  have CR121 := CR116.trans cs121
  have K122 := K117.wr W119 (Or.inr sz_b96)
  have V119 : Arv Z h119 b96 k96 .char (3 : Int32) [(.int ch1), (.int ch2), (.int (0 : Int32))] (.int (0 : Int32)) := Arv.set Ar118 qk118 Sz118 Ng118 Ha118 Gf118 (own_fit_char hch2.2) W119 1 rfl (Nat.le_of_ble_eq_true rfl)
  refine Rch.st (fun _ hr => XS.dup X119.here hx rfl (hb hby at_92) rfl rfl hr) ?_
  refine Rch.st (fun _ hr => XS.iconst X119.here hx rfl (hb hby at_93) hr) ?_
  refine Rch.st (fun _ hr => XS.iload X119.here hx rfl (hb hby at_94) rfl hr) ?_
  obtain ⟨cl123, Ar123, qk123, Sz123, Ng123, Ha123, Gf123⟩ := id V119
  have hin123 := inb_of (j := (2 : Int32)) Sz123 ⟨by decide, by decide⟩
  obtain ⟨T124, h124, X124, e124, W124, st124⟩ := stC X119 hx hZ9 e119 Ar123 (j := (2 : Int32)) hin123 (g := (mkF m 96 #[.val (.int p0), .val (.int p1), .val (.int p2), .val (.int p3), .val (.int p4), .val (.int (p0 &&& (3 : Int32))), .val (.int ch1), .val (.int ch2), .val (.int ch3), .val (.int ch4), .val (.ref b1), .val (.ref r_17), .val (.ref b27), .unset, .unset, .unset, .unset, .unset, .unset, .unset] [(.int ch3), (.int (2 : Int32)), (.ref b96), (.ref b96), (.ref b83), (.ref b83)])) rfl rfl (hb hby at_96)
  rw [own_nar_char hch3.2] at W124
  refine Rch.st st124 ?_
  have N124 := Fr.snoc X124 N119 g_b96
  have f125 := (f120.wr W119 g_b96)
  have cs126 := CHr.wr W124 (Safe.arv hZ9.alike V119 (by decide)) CR121.1
  have CR126 := CR121.trans cs126
  have K127 := K122.wr W124 (Or.inr sz_b96)
  have V124 : Arv Z h124 b96 k96 .char (3 : Int32) [(.int ch1), (.int ch2), (.int ch3)] (.int (0 : Int32)) := Arv.set Ar123 qk123 Sz123 Ng123 Ha123 Gf123 (own_fit_char hch3.2) W124 2 rfl (Nat.le_of_ble_eq_true rfl)
  have f129 := (f125.wr W124 g_b96)
  have f130 := ((((A83.ext E96).wr W114).wr W119).wr W124)
  have f131 := ((((F83_coder.ext E96).other W114 (Or.inl ne109)).other W119 (Or.inl ne109)).other W124 (Or.inl ne109))
  have f132 := ((((F83_value.ext E96).other W114 (Or.inl ne109)).other W119 (Or.inl ne109)).other W124 (Or.inl ne109))
  obtain ⟨_, T128, Lc128, X128, hQ128, st128⟩ := own_callI X124 hx hZ9 (y := Y_36) rfl hown9 (own_w hw 4 rfl) (own_w hw 5 rfl) (own_w hw 2 rfl) (own_w hw 6 rfl) (by decide) (W := 1) (cinitC3 l Z a0 hw [] b83 b96 k96 ch1 ch2 ch3 cs h124 n0 zD0 f129 f130 f131 f132 g_b83 V124 hch1.2 hch2.2 hch3.2 hcs) (by decide) (by decide) e124 (by decide) (by decide) (g := (mkF m 97 #[.val (.int p0), .val (.int p1), .val (.int p2), .val (.int p3), .val (.int p4), .val (.int (p0 &&& (3 : Int32))), .val (.int ch1), .val (.int ch2), .val (.int ch3), .val (.int ch4), .val (.ref b1), .val (.ref r_17), .val (.ref b27), .unset, .unset, .unset, .unset, .unset, .unset, .unset] [(.ref b96), (.ref b83), (.ref b83)])) rfl (by rw [hml]; rfl) (a := b83) (argsL := [(.ref b96)]) (rest := [(.ref b83)]) (lenOf pd_30 rfl) rfl (own_mr rfl rfl) (hb hby at_97) rfl
  obtain ⟨bx_128, kb_128, rfl, N128q, Kp128, Op128, R128_0, R128_1, R128_2, R128_3, R128_4⟩ := hQ128
  have N128 := Fr.app N124 N128q
  refine Rch.st st128 ?_
  have f133 := ((((f97.ext E96).other W114 (Or.inl ne98)).other W119 (Or.inl ne98)).other W124 (Or.inl ne98))
  have ne134 := Nat.ne_of_lt (Nat.lt_of_lt_of_le f133.lt R128_3)
  have f135 := ((((f99.ext E96).other W114 ne100).other W119 ne100).other W124 ne100)
  have ne136 := Nat.ne_of_lt (Nat.lt_of_lt_of_le f135.lt R128_3)
  have f137 := ((((f101.ext E96).other W114 (Or.inl ne102)).other W119 (Or.inl ne102)).other W124 (Or.inl ne102))
  have ne138 := Nat.ne_of_lt (Nat.lt_of_lt_of_le f137.lt R128_3)
  have f139 := ((((f103.ext E96).other W114 ne104).other W119 ne104).other W124 ne104)
  have ne140 := Nat.ne_of_lt (Nat.lt_of_lt_of_le f139.lt R128_3)
  have f141 := ((((f105.ext E96).other W114 (Or.inl ne106)).other W119 (Or.inl ne106)).other W124 (Or.inl ne106))
  have ne142 := Nat.ne_of_lt (Nat.lt_of_lt_of_le f141.lt R128_3)
  have f143 := ((((f107.ext E96).other W114 ne108).other W119 ne108).other W124 ne108)
  have ne144 := Nat.ne_of_lt (Nat.lt_of_lt_of_le f143.lt R128_3)
  have ne145 := Nat.ne_of_lt (Nat.lt_of_lt_of_le f131.lt R128_3)
  have ne146 := Nat.ne_of_lt (Nat.lt_of_lt_of_le V124.lt R128_3)
  have g_bx_128 : n0 ≤ bx_128 := Nat.le_trans (Nat.le_trans (Nat.le_of_eq f129.1.symm) f129.2.1) R128_3
  have sz_bx_128 : h0.size ≤ bx_128 := Nat.le_trans K127.1 R128_3
  have hcs147 := (((cs111.trans cs116).trans cs121).trans cs126)
  have sf147 := hcs147.safe A83.lt (Safe.ext E83 CR81.1 (Safe.new q83))
  have cs148 := CHr.keep Kp128 (sfS sf147 sf0) CR126.1
  have CR148 := CR126.trans cs148
  have K149 := K127.trans Kp128 (allS (Or.inr sz_b83) all0)
  show Rch p.tables e below _ (T128.setTop (mkF m 100 #[.val (.int p0), .val (.int p1), .val (.int p2), .val (.int p3), .val (.int p4), .val (.int (p0 &&& (3 : Int32))), .val (.int ch1), .val (.int ch2), .val (.int ch3), .val (.int ch4), .val (.ref b1), .val (.ref r_17), .val (.ref b27), .unset, .unset, .unset, .unset, .unset, .unset, .unset] [(.ref b83)]))
  refine Rch.st (fun _ hr => XS.astore X128.here hx rfl (hb hby at_100) rfl rfl (l' := #[.val (.int p0), .val (.int p1), .val (.int p2), .val (.int p3), .val (.int p4), .val (.int (p0 &&& (3 : Int32))), .val (.int ch1), .val (.int ch2), .val (.int ch3), .val (.int ch4), .val (.ref b1), .val (.ref r_17), .val (.ref b27), .val (.ref b83), .unset, .unset, .unset, .unset, .unset, .unset]) rfl hr) ?_
  show Rch p.tables e below _ (T128.setTop (mkF m 102 #[.val (.int p0), .val (.int p1), .val (.int p2), .val (.int p3), .val (.int p4), .val (.int (p0 &&& (3 : Int32))), .val (.int ch1), .val (.int ch2), .val (.int ch3), .val (.int ch4), .val (.ref b1), .val (.ref r_17), .val (.ref b27), .val (.ref b83), .unset, .unset, .unset, .unset, .unset, .unset] []))
  rcases own_and3 p0 with hn | hn | hn | hn
  · rw [hn]
    show Rch p.tables e below _ (T128.setTop (mkF m 102 #[.val (.int p0), .val (.int p1), .val (.int p2), .val (.int p3), .val (.int p4), .val (.int (0 : Int32)), .val (.int ch1), .val (.int ch2), .val (.int ch3), .val (.int ch4), .val (.ref b1), .val (.ref r_17), .val (.ref b27), .val (.ref b83), .unset, .unset, .unset, .unset, .unset, .unset] []))
    refine Rch.st (fun _ hr => XS.iload X128.here hx rfl (hb hby at_102) rfl hr) ?_
    refine Rch.st (fun _ hr => XS.ifNo X128.here hx rfl (hb hby at_104) rfl ((if0 _ _).trans (teq (by decide : (0 : Int32) = (0 : Int32))).2) hr) ?_
    refine Rch.st (fun _ hr => XS.aload X128.here hx rfl (hb hby at_107) rfl rfl hr) ?_
    refine Rch.st (fun _ hr => XS.goto X128.here hx rfl (pc0 := 109) (pc' := 136) rfl (hb hby at_109) (by decide) (by decide) hr) ?_
    refine Rch.st (fun _ hr => XS.astore X128.here hx rfl (hb hby at_136) rfl rfl (l' := #[.val (.int p0), .val (.int p1), .val (.int p2), .val (.int p3), .val (.int p4), .val (.int (0 : Int32)), .val (.int ch1), .val (.int ch2), .val (.int ch3), .val (.int ch4), .val (.ref b1), .val (.ref r_17), .val (.ref b27), .val (.ref b83), .val (.ref b1), .unset, .unset, .unset, .unset, .unset]) rfl hr) ?_
    refine Rch.st (fun _ hr => XS.iload X128.here hx rfl (hb hby at_138) rfl hr) ?_
    obtain ⟨_, T150, Lc150, X150, hQ150, st150⟩ := own_callS X128 hx hZ9 (y := Y_37) hown9 (own_w hw 22 rfl) (own_w hw 23 rfl) (own_w hw 2 rfl) (own_w hw 24 rfl) (by decide) (W := 0) (cvof l Z a0 hw [] ch4 cs T128.heap n0 zD0 Op128 hch4.2 hcs) (by decide) (by decide) rfl (by decide) (by decide) (g := (mkF m 140 #[.val (.int p0), .val (.int p1), .val (.int p2), .val (.int p3), .val (.int p4), .val (.int (0 : Int32)), .val (.int ch1), .val (.int ch2), .val (.int ch3), .val (.int ch4), .val (.ref b1), .val (.ref r_17), .val (.ref b27), .val (.ref b83), .val (.ref b1), .unset, .unset, .unset, .unset, .unset] [(.int ch4)])) rfl (by rw [hml]; rfl) (argsL := [(.int ch4)]) (rest := []) (lenOf pd_31 rfl) rfl (own_mr rfl rfl) (hb hby at_140) rfl
    obtain ⟨r_150, bx_150, kb_150, rfl, N150q, Kp150, Op150, R150_0, R150_1, R150_2, R150_3, R150_4, R150_5, R150_6⟩ := hQ150
    have N150 := Fr.app N128 N150q
    refine Rch.st st150 ?_
    have f151 := (f133.keep Kp128 (ninS ne85 nin0))
    have ne152 := Nat.ne_of_lt (Nat.lt_of_lt_of_le f151.lt R150_0)
    have f153 := (f135.keep Kp128 (ninS ne87 nin0))
    have ne154 := Nat.ne_of_lt (Nat.lt_of_lt_of_le f153.lt R150_0)
    have g_r_150 : n0 ≤ r_150 := Nat.le_trans (Nat.le_trans (Nat.le_of_eq Op128.1.symm) Op128.2.1) R150_0
    have sz_r_150 : h0.size ≤ r_150 := Nat.le_trans K149.1 R150_0
    have ne155 := Nat.ne_of_lt (Nat.lt_of_lt_of_le f151.lt R150_4)
    have ne156 := Nat.ne_of_lt (Nat.lt_of_lt_of_le f153.lt R150_4)
    have g_bx_150 : n0 ≤ bx_150 := Nat.le_trans (Nat.le_trans (Nat.le_of_eq Op128.1.symm) Op128.2.1) R150_4
    have sz_bx_150 : h0.size ≤ bx_150 := Nat.le_trans K149.1 R150_4
    have cs157 := CHr.keep Kp150 sf0 CR148.1
    have CR157 := CR148.trans cs157
    have K158 := K149.trans Kp150 all0
    refine Rch.st (fun _ hr => XS.astore X150.here hx rfl (hb hby at_143) rfl rfl (l' := #[.val (.int p0), .val (.int p1), .val (.int p2), .val (.int p3), .val (.int p4), .val (.int (0 : Int32)), .val (.int ch1), .val (.int ch2), .val (.int ch3), .val (.int ch4), .val (.ref b1), .val (.ref r_17), .val (.ref b27), .val (.ref b83), .val (.ref b1), .val (.ref r_150), .unset, .unset, .unset, .unset]) rfl hr) ?_
    show Rch p.tables e below _ (T150.setTop (mkF m 145 #[.val (.int p0), .val (.int p1), .val (.int p2), .val (.int p3), .val (.int p4), .val (.int (0 : Int32)), .val (.int ch1), .val (.int ch2), .val (.int ch3), .val (.int ch4), .val (.ref b1), .val (.ref r_17), .val (.ref b27), .val (.ref b83), .val (.ref b1), .val (.ref r_150), .unset, .unset, .unset, .unset] []))
    obtain ⟨T159, h159, X159, e159, E159, A159, D159, -, st159⟩ := newO X150 hx hZ9 hown9 (own_w hw 47 rfl) (own_w hw 48 rfl) (own_w hw 49 rfl) rfl (g := (mkF m 145 #[.val (.int p0), .val (.int p1), .val (.int p2), .val (.int p3), .val (.int p4), .val (.int (0 : Int32)), .val (.int ch1), .val (.int ch2), .val (.int ch3), .val (.int ch4), .val (.ref b1), .val (.ref r_17), .val (.ref b27), .val (.ref b83), .val (.ref b1), .val (.ref r_150), .unset, .unset, .unset, .unset] [])) rfl (hb hby at_145) (by decide) (by decide)
    obtain ⟨b159, g159⟩ : ∃ z, z = T150.heap.size := ⟨_, rfl⟩
    rw [← g159] at A159 D159 st159
    refine Rch.st st159 ?_
    have q159 : T150.heap.size ≤ b159 := Nat.le_of_eq g159.symm
    have f160 := (f151.keep Kp150 nin0)
    have ne161 := Nat.ne_of_lt (Nat.lt_of_lt_of_le f160.lt q159)
    have f162 := (f153.keep Kp150 nin0)
    have ne163 := Nat.ne_of_lt (Nat.lt_of_lt_of_le f162.lt q159)
    have ne164 := Nat.ne_of_lt (Nat.lt_of_lt_of_le R150_3.lt q159)
    have ne165 := Nat.ne_of_lt (Nat.lt_of_lt_of_le R150_5.lt q159)
    have g_b159 : n0 ≤ b159 := Nat.le_trans (Nat.le_trans (Nat.le_of_eq Op150.1.symm) Op150.2.1) q159
    have sz_b159 : h0.size ≤ b159 := Nat.le_trans K158.1 q159
    have cs166 := CHr.ext E159 CR157.1
    have CR166 := CR157.trans cs166
    have K167 := K158.ext E159
    have F159_out : Fld Z h159 b159 "com/example/orrery/orrery/server/Html" "out" "Ljava/lang/StringBuilder;" .null := D159 (Or.inr (own_w hw 126 rfl)) (ty := (.object "java/lang/StringBuilder")) (by decide)
    refine Rch.st (fun _ hr => XS.dup X159.here hx rfl (hb hby at_148) rfl rfl hr) ?_
    have f169 := (Op150.ext E159)
    obtain ⟨_, T168, Lc168, X168, hQ168, hC168, hS168, hZ168, hown168, st168⟩ := own_callIH (s := s) (vm0 := T9.vm) X159 hx hZ9 hS9 (Nat.le_trans (Nat.le_trans (Nat.le_trans (Nat.le_trans (Nat.le_trans (Nat.le_trans (Nat.le_trans (Nat.le_trans (Nat.le_trans (Nat.le_trans (Nat.le_trans (Nat.le_trans (Nat.le_trans (Nat.le_trans (Nat.le_refl _) Kp17.1) E27.1) E38.1) (Keep.of_wr W54).1) (Keep.of_wr W59).1) Kp63.1) E83.1) E96.1) (Keep.of_wr W114).1) (Keep.of_wr W119).1) (Keep.of_wr W124).1) Kp128.1) Kp150.1) E159.1) (own_EW hw) CR166.1 (xs := []) all0 (y := Y_38) rfl hown9 (own_w hw 50 rfl) (own_w hw 51 rfl) (own_w hw 49 rfl) (own_w hw 52 rfl) (by decide) (W := 1) (chtml l Z a0 hw [] b159 cs h159 n0 zD0 f169 A159 F159_out g_b159 hcs) (by decide) (by decide) e159 (by decide) (by decide) (g := (mkF m 149 #[.val (.int p0), .val (.int p1), .val (.int p2), .val (.int p3), .val (.int p4), .val (.int (0 : Int32)), .val (.int ch1), .val (.int ch2), .val (.int ch3), .val (.int ch4), .val (.ref b1), .val (.ref r_17), .val (.ref b27), .val (.ref b83), .val (.ref b1), .val (.ref r_150), .unset, .unset, .unset, .unset] [(.ref b159), (.ref b159)])) rfl (by rw [hml]; rfl) (a := b159) (argsL := []) (rest := [(.ref b159)]) (lenOf pd_32 rfl) rfl (own_mr rfl rfl) (hb hby at_149) rfl
    obtain ⟨sb_168, d_168, kd_168, rfl, N168q, Kp168, Op168, R168_0, R168_1, R168_2, R168_3, R168_4, R168_5, R168_6, R168_7, R168_8, R168_9, R168_10⟩ := hQ168
    have N168 := Fr.app N150 N168q
    refine Rch.st st168 ?_
    have f170 := (f160.ext E159)
    have ne171 := Nat.ne_of_lt (Nat.lt_of_lt_of_le f170.lt R168_2)
    have f172 := (f162.ext E159)
    have ne173 := Nat.ne_of_lt (Nat.lt_of_lt_of_le f172.lt R168_2)
    have f174 := (R150_3.ext E159)
    have ne175 := Nat.ne_of_lt (Nat.lt_of_lt_of_le f174.lt R168_2)
    have f176 := (R150_5.ext E159)
    have ne177 := Nat.ne_of_lt (Nat.lt_of_lt_of_le f176.lt R168_2)
    have ne178 := Nat.ne_of_lt (Nat.lt_of_lt_of_le F159_out.lt R168_2)
    have g_sb_168 : n0 ≤ sb_168 := Nat.le_trans (Nat.le_trans (Nat.le_of_eq f169.1.symm) f169.2.1) R168_2
    have sz_sb_168 : h0.size ≤ sb_168 := Nat.le_trans K167.1 R168_2
    have ne179 := Nat.ne_of_lt (Nat.lt_of_lt_of_le f170.lt R168_7)
    have ne180 := Nat.ne_of_lt (Nat.lt_of_lt_of_le f172.lt R168_7)
    have ne181 := Nat.ne_of_lt (Nat.lt_of_lt_of_le f174.lt R168_7)
    have ne182 := Nat.ne_of_lt (Nat.lt_of_lt_of_le f176.lt R168_7)
    have ne183 := Nat.ne_of_lt (Nat.lt_of_lt_of_le F159_out.lt R168_7)
    have g_d_168 : n0 ≤ d_168 := Nat.le_trans (Nat.le_trans (Nat.le_of_eq f169.1.symm) f169.2.1) R168_7
    have sz_d_168 : h0.size ≤ d_168 := Nat.le_trans K167.1 R168_7
    have CR184 := CR166.trans hC168
    have K185 := K167.trans Kp168 (allS (Or.inr sz_b159) all0)
    refine Rch.st (fun _ hr => XS.astore X168.here hx rfl (hb hby at_152) rfl rfl (l' := #[.val (.int p0), .val (.int p1), .val (.int p2), .val (.int p3), .val (.int p4), .val (.int (0 : Int32)), .val (.int ch1), .val (.int ch2), .val (.int ch3), .val (.int ch4), .val (.ref b1), .val (.ref r_17), .val (.ref b27), .val (.ref b83), .val (.ref b1), .val (.ref r_150), .val (.ref b159), .unset, .unset, .unset]) rfl hr) ?_
    refine Rch.st (fun _ hr => XS.aload X168.here hx rfl (hb hby at_154) rfl rfl hr) ?_
    refine Rch.st (fun _ hr => XS.aload X168.here hx rfl (hb hby at_156) rfl rfl hr) ?_
    have f187 := (((((((((((((((R9_0.keep Kp17).ext E27).ext E38).wr W54).wr W59).keep Kp63).ext E83).ext E96).wr W114).wr W119).wr W124).keep Kp128).keep Kp150).ext E159).keep Kp168)
    have f188 := (((((((((((((((R9_1.keep Kp17 nin0).ext E27).ext E38).other W54 (Or.inl ne40)).other W59 (Or.inl ne40)).keep Kp63 (ninS ne29 nin0)).ext E83).ext E96).other W114 (Or.inl ne98)).other W119 (Or.inl ne98)).other W124 (Or.inl ne98)).keep Kp128 (ninS ne85 nin0)).keep Kp150 nin0).ext E159).keep Kp168 (ninS ne161 nin0))
    have f189 := (f170.keep Kp168 (ninS ne161 nin0))
    have f190 := (f172.keep Kp168 (ninS ne163 nin0))
    obtain ⟨_, T186, Lc186, X186, hQ186, hC186, hS186, hZ186, hown186, st186⟩ := own_callVH (s := s) (vm0 := T168.vm) X168 hx hZ168 hS168 (Nat.le_refl _) (own_EW hw) CR184.1 (xs := [d_168]) (allS ⟨R168_8.lt, R168_9⟩ all0) (y := Y_39) (z := Y_39) hown168 (own_w hw 127 rfl) (own_w hw 128 rfl) (notFace_of_selects (args := #[]) (mvT hZ168 (own_w hw 130 rfl))) (own_w hw 130 rfl) (own_w hw 129 rfl) (own_w hw 49 rfl) (own_w hw 131 rfl) (by decide) (W := 0) (cclose l Z a0 hw [] b159 sb_168 d_168 kd_168 [(.int (60 : Int32)), (.int (33 : Int32)), (.int (68 : Int32)), (.int (79 : Int32)), (.int (67 : Int32)), (.int (84 : Int32)), (.int (89 : Int32)), (.int (80 : Int32)), (.int (69 : Int32)), (.int (32 : Int32)), (.int (104 : Int32)), (.int (116 : Int32)), (.int (109 : Int32)), (.int (108 : Int32)), (.int (62 : Int32)), (.int (10 : Int32)), (.int (0 : Int32)), (.int (0 : Int32)), (.int (0 : Int32)), (.int (0 : Int32)), (.int (0 : Int32)), (.int (0 : Int32)), (.int (0 : Int32)), (.int (0 : Int32)), (.int (0 : Int32)), (.int (0 : Int32)), (.int (0 : Int32)), (.int (0 : Int32)), (.int (0 : Int32)), (.int (0 : Int32)), (.int (0 : Int32)), (.int (0 : Int32))] (16 : Int32) b1 bx_9 kb_9 (0 : Int32) [] cs T168.heap n0 zD0 Op168 R168_0 R168_1 R168_3 R168_4 R168_5 R168_6 R168_8 f187 f188 f189 f190 g_sb_168 g_d_168 ne180 R168_10 hcs (by decide) rfl (by decide) (by decide) (by decide) (by decide) (by decide) (by decide) (by decide) (by decide) (by decide) (by decide)) (by decide) (by decide) rfl R168_0 (by decide) (by decide) (g := (mkF m 158 #[.val (.int p0), .val (.int p1), .val (.int p2), .val (.int p3), .val (.int p4), .val (.int (0 : Int32)), .val (.int ch1), .val (.int ch2), .val (.int ch3), .val (.int ch4), .val (.ref b1), .val (.ref r_17), .val (.ref b27), .val (.ref b83), .val (.ref b1), .val (.ref r_150), .val (.ref b159), .unset, .unset, .unset] [(.ref b1), (.ref b159)])) rfl (by rw [hml]; rfl) (argsL := [(.ref b1)]) (rest := []) (lenOf pd_33 rfl) rfl (own_mr rfl rfl) (hb hby at_158) rfl
    obtain ⟨rfl, N186q, Kp186, Op186, R186_0, R186_1, R186_2, R186_3, R186_4, R186_5, R186_6, R186_7⟩ := hQ186
    have N186 := Fr.app N168 N186q
    refine Rch.st st186 ?_
    have CR191 := CR184.trans hC186
    have K192 := K185.trans Kp186 (allS (Or.inr sz_sb_168) (allS (Or.inr sz_d_168) all0))
    have Fk186 : Fld Z T186.heap sb_168 "java/lang/AbstractStringBuilder" "count" "I" (.int (19 : Int32)) := R186_5
    have Vk186 : Arv Z T186.heap d_168 kd_168 .byte (32 : Int32) [(.int (60 : Int32)), (.int (33 : Int32)), (.int (68 : Int32)), (.int (79 : Int32)), (.int (67 : Int32)), (.int (84 : Int32)), (.int (89 : Int32)), (.int (80 : Int32)), (.int (69 : Int32)), (.int (32 : Int32)), (.int (104 : Int32)), (.int (116 : Int32)), (.int (109 : Int32)), (.int (108 : Int32)), (.int (62 : Int32)), (.int (10 : Int32)), (.int (60 : Int32)), (.int (47 : Int32)), (.int (62 : Int32)), (.int (0 : Int32)), (.int (0 : Int32)), (.int (0 : Int32)), (.int (0 : Int32)), (.int (0 : Int32)), (.int (0 : Int32)), (.int (0 : Int32)), (.int (0 : Int32)), (.int (0 : Int32)), (.int (0 : Int32)), (.int (0 : Int32)), (.int (0 : Int32)), (.int (0 : Int32))] (.int (0 : Int32)) := R186_6
    refine Rch.st (fun _ hr => XS.astore X186.here hx rfl (hb hby at_161) rfl rfl (l' := #[.val (.int p0), .val (.int p1), .val (.int p2), .val (.int p3), .val (.int p4), .val (.int (0 : Int32)), .val (.int ch1), .val (.int ch2), .val (.int ch3), .val (.int ch4), .val (.ref b1), .val (.ref r_17), .val (.ref b27), .val (.ref b83), .val (.ref b1), .val (.ref r_150), .val (.ref b159), .val (.ref b159), .unset, .unset]) rfl hr) ?_
    show Rch p.tables e below _ (T186.setTop (mkF m 163 #[.val (.int p0), .val (.int p1), .val (.int p2), .val (.int p3), .val (.int p4), .val (.int (0 : Int32)), .val (.int ch1), .val (.int ch2), .val (.int ch3), .val (.int ch4), .val (.ref b1), .val (.ref r_17), .val (.ref b27), .val (.ref b83), .val (.ref b1), .val (.ref r_150), .val (.ref b159), .val (.ref b159), .unset, .unset] []))
    refine Rch.st (fun _ hr => XS.aload X186.here hx rfl (hb hby at_163) rfl rfl hr) ?_
    refine Rch.st (fun _ hr => XS.aload X186.here hx rfl (hb hby at_165) rfl rfl hr) ?_
    have f194 := (((R150_1.ext E159).keep Kp168).keep Kp186)
    have f195 := (((R150_2.ext E159).keep Kp168 (ninS ne164 nin0)).keep Kp186 (ninS ne175 (ninS ne181 nin0)))
    have f196 := ((f174.keep Kp168 (ninS ne164 nin0)).keep Kp186 (ninS ne175 (ninS ne181 nin0)))
    have f197 := ((f176.keep Kp168 (ninS ne165 nin0)).keep Kp186 (ninS ne177 (ninS ne182 nin0)))
    obtain ⟨_, T193, Lc193, X193, hQ193, hC193, hS193, hZ193, hown193, st193⟩ := own_callVH (s := s) (vm0 := T186.vm) X186 hx hZ186 hS186 (Nat.le_refl _) (own_EW hw) CR191.1 (xs := [d_168]) (allS ⟨R186_6.lt, R186_7⟩ all0) (y := Y_39) (z := Y_39) hown186 (own_w hw 127 rfl) (own_w hw 128 rfl) (notFace_of_selects (args := #[]) (mvT hZ186 (own_w hw 130 rfl))) (own_w hw 130 rfl) (own_w hw 129 rfl) (own_w hw 49 rfl) (own_w hw 131 rfl) (by decide) (W := 0) (cclose l Z a0 hw [] b159 sb_168 d_168 kd_168 [(.int (60 : Int32)), (.int (33 : Int32)), (.int (68 : Int32)), (.int (79 : Int32)), (.int (67 : Int32)), (.int (84 : Int32)), (.int (89 : Int32)), (.int (80 : Int32)), (.int (69 : Int32)), (.int (32 : Int32)), (.int (104 : Int32)), (.int (116 : Int32)), (.int (109 : Int32)), (.int (108 : Int32)), (.int (62 : Int32)), (.int (10 : Int32)), (.int (60 : Int32)), (.int (47 : Int32)), (.int (62 : Int32)), (.int (0 : Int32)), (.int (0 : Int32)), (.int (0 : Int32)), (.int (0 : Int32)), (.int (0 : Int32)), (.int (0 : Int32)), (.int (0 : Int32)), (.int (0 : Int32)), (.int (0 : Int32)), (.int (0 : Int32)), (.int (0 : Int32)), (.int (0 : Int32)), (.int (0 : Int32))] (19 : Int32) r_150 bx_150 kb_150 (1 : Int32) [(.int ch4)] cs T186.heap n0 zD0 Op186 R186_0 R186_1 R186_2 R186_3 R186_4 Fk186 Vk186 f194 f195 f196 f197 g_sb_168 g_d_168 ne182 R168_10 hcs (by decide) rfl (by decide) (by decide) (by decide) (by decide) (by decide) (by decide) (by decide) (by decide) (by decide) (by decide)) (by decide) (by decide) rfl R186_0 (by decide) (by decide) (g := (mkF m 167 #[.val (.int p0), .val (.int p1), .val (.int p2), .val (.int p3), .val (.int p4), .val (.int (0 : Int32)), .val (.int ch1), .val (.int ch2), .val (.int ch3), .val (.int ch4), .val (.ref b1), .val (.ref r_17), .val (.ref b27), .val (.ref b83), .val (.ref b1), .val (.ref r_150), .val (.ref b159), .val (.ref b159), .unset, .unset] [(.ref r_150), (.ref b159)])) rfl (by rw [hml]; rfl) (argsL := [(.ref r_150)]) (rest := []) (lenOf pd_33 rfl) rfl (own_mr rfl rfl) (hb hby at_167) rfl
    obtain ⟨rfl, N193q, Kp193, Op193, R193_0, R193_1, R193_2, R193_3, R193_4, R193_5, R193_6, R193_7⟩ := hQ193
    have N193 := Fr.app N186 N193q
    refine Rch.st st193 ?_
    have CR198 := CR191.trans hC193
    have K199 := K192.trans Kp193 (allS (Or.inr sz_sb_168) (allS (Or.inr sz_d_168) all0))
    have Fk193 : Fld Z T193.heap sb_168 "java/lang/AbstractStringBuilder" "count" "I" (.int (23 : Int32)) := R193_5
    have Vk193 : Arv Z T193.heap d_168 kd_168 .byte (32 : Int32) [(.int (60 : Int32)), (.int (33 : Int32)), (.int (68 : Int32)), (.int (79 : Int32)), (.int (67 : Int32)), (.int (84 : Int32)), (.int (89 : Int32)), (.int (80 : Int32)), (.int (69 : Int32)), (.int (32 : Int32)), (.int (104 : Int32)), (.int (116 : Int32)), (.int (109 : Int32)), (.int (108 : Int32)), (.int (62 : Int32)), (.int (10 : Int32)), (.int (60 : Int32)), (.int (47 : Int32)), (.int (62 : Int32)), (.int (60 : Int32)), (.int (47 : Int32)), (.int ch4), (.int (62 : Int32)), (.int (0 : Int32)), (.int (0 : Int32)), (.int (0 : Int32)), (.int (0 : Int32)), (.int (0 : Int32)), (.int (0 : Int32)), (.int (0 : Int32)), (.int (0 : Int32)), (.int (0 : Int32))] (.int (0 : Int32)) := R193_6
    refine Rch.st (fun _ hr => XS.astore X193.here hx rfl (hb hby at_170) rfl rfl (l' := #[.val (.int p0), .val (.int p1), .val (.int p2), .val (.int p3), .val (.int p4), .val (.int (0 : Int32)), .val (.int ch1), .val (.int ch2), .val (.int ch3), .val (.int ch4), .val (.ref b1), .val (.ref r_17), .val (.ref b27), .val (.ref b83), .val (.ref b1), .val (.ref r_150), .val (.ref b159), .val (.ref b159), .val (.ref b159), .unset]) rfl hr) ?_
    refine Rch.st (fun _ hr => XS.aload X193.here hx rfl (hb hby at_172) rfl rfl hr) ?_
    refine Rch.st (fun _ hr => XS.aload X193.here hx rfl (hb hby at_174) rfl rfl hr) ?_
    refine Rch.st (fun _ hr => Jvm.RoadKit.acmp (g := (mkF m 176 #[.val (.int p0), .val (.int p1), .val (.int p2), .val (.int p3), .val (.int p4), .val (.int (0 : Int32)), .val (.int ch1), .val (.int ch2), .val (.int ch3), .val (.int ch4), .val (.ref b1), .val (.ref r_17), .val (.ref b27), .val (.ref b83), .val (.ref b1), .val (.ref r_150), .val (.ref b159), .val (.ref b159), .val (.ref b159), .unset] [(.ref b159), (.ref b159)])) X193 hx rfl rfl rfl (pc0 := 176) (pc' := 179) (same := true) rfl (hb hby at_176) rfl (decide_eq_true rfl) (by decide) (by decide) hr) ?_
    refine Rch.st (fun _ hr => XS.aload X193.here hx rfl (hb hby at_179) rfl rfl hr) ?_
    show Rch p.tables e below _ (T193.setTop (mkF m 181 #[.val (.int p0), .val (.int p1), .val (.int p2), .val (.int p3), .val (.int p4), .val (.int (0 : Int32)), .val (.int ch1), .val (.int ch2), .val (.int ch3), .val (.int ch4), .val (.ref b1), .val (.ref r_17), .val (.ref b27), .val (.ref b83), .val (.ref b1), .val (.ref r_150), .val (.ref b159), .val (.ref b159), .val (.ref b159), .unset] [(.ref b159)]))
    refine Rch.st (fun _ hr => XS.aload X193.here hx rfl (hb hby at_181) rfl rfl hr) ?_
    refine Rch.st (fun _ hr => Jvm.RoadKit.acmp (g := (mkF m 183 #[.val (.int p0), .val (.int p1), .val (.int p2), .val (.int p3), .val (.int p4), .val (.int (0 : Int32)), .val (.int ch1), .val (.int ch2), .val (.int ch3), .val (.int ch4), .val (.ref b1), .val (.ref r_17), .val (.ref b27), .val (.ref b83), .val (.ref b1), .val (.ref r_150), .val (.ref b159), .val (.ref b159), .val (.ref b159), .unset] [(.ref b159), (.ref b159)])) X193 hx rfl rfl rfl (pc0 := 183) (pc' := 188) (same := true) rfl (hb hby at_183) rfl (decide_eq_true rfl) (by decide) (by decide) hr) ?_
    refine Rch.st (fun _ hr => XS.aload X193.here hx rfl (hb hby at_188) rfl rfl hr) ?_
    obtain ⟨_, T200, Lc200, X200, hQ200, st200⟩ := own_callV X193 hx hZ193 (y := Y_40) (z := Y_40) hown193 (own_w hw 149 rfl) (own_w hw 150 rfl) (notFace_of_selects (args := #[]) (mvT hZ193 (own_w hw 152 rfl))) (own_w hw 152 rfl) (own_w hw 151 rfl) (own_w hw 49 rfl) (own_w hw 153 rfl) (by decide) (W := 0) (cbytes l Z a0 hw [] b159 sb_168 d_168 kd_168 [(.int (60 : Int32)), (.int (33 : Int32)), (.int (68 : Int32)), (.int (79 : Int32)), (.int (67 : Int32)), (.int (84 : Int32)), (.int (89 : Int32)), (.int (80 : Int32)), (.int (69 : Int32)), (.int (32 : Int32)), (.int (104 : Int32)), (.int (116 : Int32)), (.int (109 : Int32)), (.int (108 : Int32)), (.int (62 : Int32)), (.int (10 : Int32)), (.int (60 : Int32)), (.int (47 : Int32)), (.int (62 : Int32)), (.int (60 : Int32)), (.int (47 : Int32)), (.int ch4), (.int (62 : Int32)), (.int (0 : Int32)), (.int (0 : Int32)), (.int (0 : Int32)), (.int (0 : Int32)), (.int (0 : Int32)), (.int (0 : Int32)), (.int (0 : Int32)), (.int (0 : Int32)), (.int (0 : Int32))] (23 : Int32) u cs T193.heap n0 zD0 zD1 zD2 Op193 R193_0 R193_1 R193_2 R193_3 R193_4 Fk193 Vk193 (by decide) (by decide) (by decide) (by decide) rfl hcs (own_posC (by decide) (own_posC (by decide) (own_posC (by decide) (own_posC (by decide) (own_posC (by decide) (own_posC (by decide) (own_posC (by decide) (own_posC (by decide) (own_posC (by decide) (own_posC (by decide) (own_posC (by decide) (own_posC (by decide) (own_posC (by decide) (own_posC (by decide) (own_posC (by decide) (own_posC (by decide) (own_posC (by decide) (own_posC (by decide) (own_posC (by decide) (own_posC (by decide) (own_posC (by decide) (own_posC (own_A0 hch4.2) (own_posC (by decide) own_posZ)))))))))))))))))))))))) (by decide) (by decide) rfl R193_0 (by decide) (by decide) (g := (mkF m 190 #[.val (.int p0), .val (.int p1), .val (.int p2), .val (.int p3), .val (.int p4), .val (.int (0 : Int32)), .val (.int ch1), .val (.int ch2), .val (.int ch3), .val (.int ch4), .val (.ref b1), .val (.ref r_17), .val (.ref b27), .val (.ref b83), .val (.ref b1), .val (.ref r_150), .val (.ref b159), .val (.ref b159), .val (.ref b159), .unset] [(.ref b159)])) rfl (by rw [hml]; rfl) (argsL := []) (rest := []) (lenOf pd_21 rfl) rfl (own_mr rfl rfl) (hb hby at_190) rfl
    obtain ⟨r_200, kr_200, rfl, N200q, Kp200, Op200, R200_0, R200_1⟩ := hQ200
    have N200 := Fr.app N193 N200q
    refine Rch.st st200 ?_
    have f201 := ((f189.keep Kp186 (ninS ne171 (ninS ne179 nin0))).keep Kp193 (ninS ne171 (ninS ne179 nin0)))
    have ne202 := Nat.ne_of_lt (Nat.lt_of_lt_of_le f201.lt R200_0)
    have f203 := ((f190.keep Kp186 (ninS ne173 (ninS ne180 nin0))).keep Kp193 (ninS ne173 (ninS ne180 nin0)))
    have ne204 := Nat.ne_of_lt (Nat.lt_of_lt_of_le f203.lt R200_0)
    have f205 := (f196.keep Kp193 (ninS ne175 (ninS ne181 nin0)))
    have ne206 := Nat.ne_of_lt (Nat.lt_of_lt_of_le f205.lt R200_0)
    have f207 := (f197.keep Kp193 (ninS ne177 (ninS ne182 nin0)))
    have ne208 := Nat.ne_of_lt (Nat.lt_of_lt_of_le f207.lt R200_0)
    have ne209 := Nat.ne_of_lt (Nat.lt_of_lt_of_le R193_1.lt R200_0)
    have ne210 := Nat.ne_of_lt (Nat.lt_of_lt_of_le Fk193.lt R200_0)
    have ne211 := Nat.ne_of_lt (Nat.lt_of_lt_of_le Vk193.lt R200_0)
    have g_r_200 : n0 ≤ r_200 := Nat.le_trans (Nat.le_trans (Nat.le_of_eq Op193.1.symm) Op193.2.1) R200_0
    have sz_r_200 : h0.size ≤ r_200 := Nat.le_trans K199.1 R200_0
    have cs212 := CHr.keep Kp200 sf0 CR198.1
    have CR212 := CR198.trans cs212
    have K213 := K199.trans Kp200 all0
    have Vk200 : Arv Z T200.heap r_200 kr_200 .byte (23 : Int32) [(.int (60 : Int32)), (.int (33 : Int32)), (.int (68 : Int32)), (.int (79 : Int32)), (.int (67 : Int32)), (.int (84 : Int32)), (.int (89 : Int32)), (.int (80 : Int32)), (.int (69 : Int32)), (.int (32 : Int32)), (.int (104 : Int32)), (.int (116 : Int32)), (.int (109 : Int32)), (.int (108 : Int32)), (.int (62 : Int32)), (.int (10 : Int32)), (.int (60 : Int32)), (.int (47 : Int32)), (.int (62 : Int32)), (.int (60 : Int32)), (.int (47 : Int32)), (.int ch4), (.int (62 : Int32)), (.int (0 : Int32)), (.int (0 : Int32)), (.int (0 : Int32))] (.int (0 : Int32)) := R200_1
    refine Rch.st (fun _ hr => XS.astore X200.here hx rfl (hb hby at_193) rfl rfl (l' := #[.val (.int p0), .val (.int p1), .val (.int p2), .val (.int p3), .val (.int p4), .val (.int (0 : Int32)), .val (.int ch1), .val (.int ch2), .val (.int ch3), .val (.int ch4), .val (.ref b1), .val (.ref r_17), .val (.ref b27), .val (.ref b83), .val (.ref b1), .val (.ref r_150), .val (.ref b159), .val (.ref b159), .val (.ref b159), .val (.ref r_200)]) rfl hr) ?_
    refine Rch.st (fun _ hr => XS.aload X200.here hx rfl (hb hby at_195) rfl rfl hr) ?_
    obtain ⟨cl214, Ar214, -, Sz214, Ng214, -, -⟩ := id Vk200
    refine Rch.st (fun t hr => X200.arraylength hx Ar214.1 (State.isArrayOf_alike hZ193.alike Ar214.2.1) (g := (mkF m 197 #[.val (.int p0), .val (.int p1), .val (.int p2), .val (.int p3), .val (.int p4), .val (.int (0 : Int32)), .val (.int ch1), .val (.int ch2), .val (.int ch3), .val (.int ch4), .val (.ref b1), .val (.ref r_17), .val (.ref b27), .val (.ref b83), .val (.ref b1), .val (.ref r_150), .val (.ref b159), .val (.ref b159), .val (.ref b159), .val (.ref r_200)] [(.ref r_200)])) rfl rfl (hb hby at_197) t hr) ?_
    rw [len_of Sz214 Ng214]
    refine Rch.st (fun _ hr => XS.bipush X200.here hx rfl (hb hby at_198) hr) ?_
    show Rch p.tables e below _ (T200.setTop (mkF m 200 #[.val (.int p0), .val (.int p1), .val (.int p2), .val (.int p3), .val (.int p4), .val (.int (0 : Int32)), .val (.int ch1), .val (.int ch2), .val (.int ch3), .val (.int ch4), .val (.ref b1), .val (.ref r_17), .val (.ref b27), .val (.ref b83), .val (.ref b1), .val (.ref r_150), .val (.ref b159), .val (.ref b159), .val (.ref b159), .val (.ref r_200)] [(.int (23 : Int32)), (.int (23 : Int32))]))
    refine Rch.st (fun _ hr => XS.iload X200.here hx rfl (hb hby at_200) rfl hr) ?_
    refine Rch.st (fun _ hr => XS.iadd X200.here hx rfl (hb hby at_202) rfl hr) ?_
    refine Rch.st (fun _ hr => XS.icmpYes X200.here hx rfl (pc0 := 203) (pc' := 208) rfl (hb hby at_203) rfl (teq (by decide : (23 : Int32) = (23 : Int32))).1 (by decide) (by decide) hr) ?_
    refine Rch.st (fun _ hr => XS.aload X200.here hx rfl (hb hby at_208) rfl rfl hr) ?_
    refine Rch.st (fun _ hr => XS.iconst X200.here hx rfl (hb hby at_210) hr) ?_
    refine Rch.st (fun _ hr => own_bal X200 hx hZ193 rfl Vk200 (v := (.int (60 : Int32))) rfl (by decide) (by decide) (hb hby at_211) hr) ?_
    refine Rch.st (fun _ hr => XS.bipush X200.here hx rfl (hb hby at_212) hr) ?_
    refine Rch.st (fun _ hr => XS.icmpNo X200.here hx rfl (hb hby at_214) rfl (teq (by decide : (60 : Int32) = (60 : Int32))).2 hr) ?_
    show Rch p.tables e below _ (T200.setTop (mkF m 217 #[.val (.int p0), .val (.int p1), .val (.int p2), .val (.int p3), .val (.int p4), .val (.int (0 : Int32)), .val (.int ch1), .val (.int ch2), .val (.int ch3), .val (.int ch4), .val (.ref b1), .val (.ref r_17), .val (.ref b27), .val (.ref b83), .val (.ref b1), .val (.ref r_150), .val (.ref b159), .val (.ref b159), .val (.ref b159), .val (.ref r_200)] []))
    refine Rch.st (fun _ hr => XS.aload X200.here hx rfl (hb hby at_217) rfl rfl hr) ?_
    refine Rch.st (fun _ hr => XS.bipush X200.here hx rfl (hb hby at_219) hr) ?_
    refine Rch.st (fun _ hr => own_bal X200 hx hZ193 rfl Vk200 (v := (.int (62 : Int32))) rfl (by decide) (by decide) (hb hby at_221) hr) ?_
    refine Rch.st (fun _ hr => XS.bipush X200.here hx rfl (hb hby at_222) hr) ?_
    refine Rch.st (fun _ hr => XS.icmpNo X200.here hx rfl (hb hby at_224) rfl (teq (by decide : (62 : Int32) = (62 : Int32))).2 hr) ?_
    refine Rch.st (fun _ hr => XS.aload X200.here hx rfl (hb hby at_227) rfl rfl hr) ?_
    refine Rch.st (fun _ hr => XS.bipush X200.here hx rfl (hb hby at_229) hr) ?_
    refine Rch.st (fun _ hr => own_bal X200 hx hZ193 rfl Vk200 (v := (.int (10 : Int32))) rfl (by decide) (by decide) (hb hby at_231) hr) ?_
    show Rch p.tables e below _ (T200.setTop (mkF m 232 #[.val (.int p0), .val (.int p1), .val (.int p2), .val (.int p3), .val (.int p4), .val (.int (0 : Int32)), .val (.int ch1), .val (.int ch2), .val (.int ch3), .val (.int ch4), .val (.ref b1), .val (.ref r_17), .val (.ref b27), .val (.ref b83), .val (.ref b1), .val (.ref r_150), .val (.ref b159), .val (.ref b159), .val (.ref b159), .val (.ref r_200)] [(.int (10 : Int32))]))
    refine Rch.st (fun _ hr => XS.bipush X200.here hx rfl (hb hby at_232) hr) ?_
    refine Rch.st (fun _ hr => XS.icmpYes X200.here hx rfl (pc0 := 234) (pc' := 239) rfl (hb hby at_234) rfl (teq (by decide : (10 : Int32) = (10 : Int32))).1 (by decide) (by decide) hr) ?_
    refine Rch.st (fun _ hr => XS.aload X200.here hx rfl (hb hby at_239) rfl rfl hr) ?_
    refine Rch.st (fun _ hr => XS.bipush X200.here hx rfl (hb hby at_241) hr) ?_
    refine Rch.st (fun _ hr => own_bal X200 hx hZ193 rfl Vk200 (v := (.int (60 : Int32))) rfl (by decide) (by decide) (hb hby at_243) hr) ?_
    refine Rch.st (fun _ hr => XS.bipush X200.here hx rfl (hb hby at_244) hr) ?_
    refine Rch.st (fun _ hr => XS.icmpNo X200.here hx rfl (hb hby at_246) rfl (teq (by decide : (60 : Int32) = (60 : Int32))).2 hr) ?_
    refine Rch.st (fun _ hr => XS.aload X200.here hx rfl (hb hby at_249) rfl rfl hr) ?_
    show Rch p.tables e below _ (T200.setTop (mkF m 251 #[.val (.int p0), .val (.int p1), .val (.int p2), .val (.int p3), .val (.int p4), .val (.int (0 : Int32)), .val (.int ch1), .val (.int ch2), .val (.int ch3), .val (.int ch4), .val (.ref b1), .val (.ref r_17), .val (.ref b27), .val (.ref b83), .val (.ref b1), .val (.ref r_150), .val (.ref b159), .val (.ref b159), .val (.ref b159), .val (.ref r_200)] [(.ref r_200)]))
    refine Rch.st (fun _ hr => XS.bipush X200.here hx rfl (hb hby at_251) hr) ?_
    refine Rch.st (fun _ hr => own_bal X200 hx hZ193 rfl Vk200 (v := (.int (47 : Int32))) rfl (by decide) (by decide) (hb hby at_253) hr) ?_
    refine Rch.st (fun _ hr => XS.bipush X200.here hx rfl (hb hby at_254) hr) ?_
    refine Rch.st (fun _ hr => XS.icmpYes X200.here hx rfl (pc0 := 256) (pc' := 261) rfl (hb hby at_256) rfl (teq (by decide : (47 : Int32) = (47 : Int32))).1 (by decide) (by decide) hr) ?_
    refine Rch.st (fun _ hr => XS.iload X200.here hx rfl (hb hby at_261) rfl hr) ?_
    refine Rch.st (fun _ hr => XS.iconst X200.here hx rfl (hb hby at_263) hr) ?_
    refine Rch.st (fun _ hr => XS.icmpYes X200.here hx rfl (pc0 := 264) (pc' := 280) rfl (hb hby at_264) rfl (tlt (by decide : (0 : Int32) < (1 : Int32))).1 (by decide) (by decide) hr) ?_
    refine Rch.st (fun _ hr => XS.iload X200.here hx rfl (hb hby at_280) rfl hr) ?_
    show Rch p.tables e below _ (T200.setTop (mkF m 282 #[.val (.int p0), .val (.int p1), .val (.int p2), .val (.int p3), .val (.int p4), .val (.int (0 : Int32)), .val (.int ch1), .val (.int ch2), .val (.int ch3), .val (.int ch4), .val (.ref b1), .val (.ref r_17), .val (.ref b27), .val (.ref b83), .val (.ref b1), .val (.ref r_150), .val (.ref b159), .val (.ref b159), .val (.ref b159), .val (.ref r_200)] [(.int (0 : Int32))]))
    refine Rch.st (fun _ hr => XS.iconst X200.here hx rfl (hb hby at_282) hr) ?_
    refine Rch.st (fun _ hr => XS.icmpYes X200.here hx rfl (pc0 := 283) (pc' := 299) rfl (hb hby at_283) rfl (tlt (by decide : (0 : Int32) < (2 : Int32))).1 (by decide) (by decide) hr) ?_
    refine Rch.st (fun _ hr => XS.iload X200.here hx rfl (hb hby at_299) rfl hr) ?_
    refine Rch.st (fun _ hr => XS.iconst X200.here hx rfl (hb hby at_301) hr) ?_
    refine Rch.st (fun _ hr => XS.icmpYes X200.here hx rfl (pc0 := 302) (pc' := 318) rfl (hb hby at_302) rfl (tlt (by decide : (0 : Int32) < (3 : Int32))).1 (by decide) (by decide) hr) ?_
    refine Rch.st (fun _ hr => XS.aload X200.here hx rfl (hb hby at_318) rfl rfl hr) ?_
    refine Rch.st (fun _ hr => XS.bipush X200.here hx rfl (hb hby at_320) hr) ?_
    refine Rch.st (fun _ hr => XS.iload X200.here hx rfl (hb hby at_322) rfl hr) ?_
    show Rch p.tables e below _ (T200.setTop (mkF m 324 #[.val (.int p0), .val (.int p1), .val (.int p2), .val (.int p3), .val (.int p4), .val (.int (0 : Int32)), .val (.int ch1), .val (.int ch2), .val (.int ch3), .val (.int ch4), .val (.ref b1), .val (.ref r_17), .val (.ref b27), .val (.ref b83), .val (.ref b1), .val (.ref r_150), .val (.ref b159), .val (.ref b159), .val (.ref b159), .val (.ref r_200)] [(.int (0 : Int32)), (.int (18 : Int32)), (.ref r_200)]))
    refine Rch.st (fun _ hr => XS.iadd X200.here hx rfl (hb hby at_324) rfl hr) ?_
    refine Rch.st (fun _ hr => own_bal X200 hx hZ193 rfl Vk200 (v := (.int (62 : Int32))) rfl (by decide) (by decide) (hb hby at_325) hr) ?_
    refine Rch.st (fun _ hr => XS.bipush X200.here hx rfl (hb hby at_326) hr) ?_
    refine Rch.st (fun _ hr => XS.icmpYes X200.here hx rfl (pc0 := 328) (pc' := 333) rfl (hb hby at_328) rfl (teq (by decide : (62 : Int32) = (62 : Int32))).1 (by decide) (by decide) hr) ?_
    refine Rch.st (fun _ hr => XS.aload X200.here hx rfl (hb hby at_333) rfl rfl hr) ?_
    refine Rch.st (fun _ hr => XS.bipush X200.here hx rfl (hb hby at_335) hr) ?_
    refine Rch.st (fun _ hr => XS.iload X200.here hx rfl (hb hby at_337) rfl hr) ?_
    refine Rch.st (fun _ hr => XS.iadd X200.here hx rfl (hb hby at_339) rfl hr) ?_
    show Rch p.tables e below _ (T200.setTop (mkF m 340 #[.val (.int p0), .val (.int p1), .val (.int p2), .val (.int p3), .val (.int p4), .val (.int (0 : Int32)), .val (.int ch1), .val (.int ch2), .val (.int ch3), .val (.int ch4), .val (.ref b1), .val (.ref r_17), .val (.ref b27), .val (.ref b83), .val (.ref b1), .val (.ref r_150), .val (.ref b159), .val (.ref b159), .val (.ref b159), .val (.ref r_200)] [(.int (19 : Int32)), (.ref r_200)]))
    refine Rch.st (fun _ hr => own_bal X200 hx hZ193 rfl Vk200 (v := (.int (60 : Int32))) rfl (by decide) (by decide) (hb hby at_340) hr) ?_
    refine Rch.st (fun _ hr => XS.bipush X200.here hx rfl (hb hby at_341) hr) ?_
    refine Rch.st (fun _ hr => XS.icmpNo X200.here hx rfl (hb hby at_343) rfl (teq (by decide : (60 : Int32) = (60 : Int32))).2 hr) ?_
    refine Rch.st (fun _ hr => XS.aload X200.here hx rfl (hb hby at_346) rfl rfl hr) ?_
    refine Rch.st (fun _ hr => XS.bipush X200.here hx rfl (hb hby at_348) hr) ?_
    refine Rch.st (fun _ hr => XS.iload X200.here hx rfl (hb hby at_350) rfl hr) ?_
    refine Rch.st (fun _ hr => XS.iadd X200.here hx rfl (hb hby at_352) rfl hr) ?_
    refine Rch.st (fun _ hr => own_bal X200 hx hZ193 rfl Vk200 (v := (.int (47 : Int32))) rfl (by decide) (by decide) (hb hby at_353) hr) ?_
    show Rch p.tables e below _ (T200.setTop (mkF m 354 #[.val (.int p0), .val (.int p1), .val (.int p2), .val (.int p3), .val (.int p4), .val (.int (0 : Int32)), .val (.int ch1), .val (.int ch2), .val (.int ch3), .val (.int ch4), .val (.ref b1), .val (.ref r_17), .val (.ref b27), .val (.ref b83), .val (.ref b1), .val (.ref r_150), .val (.ref b159), .val (.ref b159), .val (.ref b159), .val (.ref r_200)] [(.int (47 : Int32))]))
    refine Rch.st (fun _ hr => XS.bipush X200.here hx rfl (hb hby at_354) hr) ?_
    refine Rch.st (fun _ hr => XS.icmpYes X200.here hx rfl (pc0 := 356) (pc' := 361) rfl (hb hby at_356) rfl (teq (by decide : (47 : Int32) = (47 : Int32))).1 (by decide) (by decide) hr) ?_
    refine Rch.st (fun _ hr => XS.aload X200.here hx rfl (hb hby at_361) rfl rfl hr) ?_
    refine Rch.st (fun _ hr => XS.bipush X200.here hx rfl (hb hby at_363) hr) ?_
    refine Rch.st (fun _ hr => XS.iload X200.here hx rfl (hb hby at_365) rfl hr) ?_
    refine Rch.st (fun _ hr => XS.iadd X200.here hx rfl (hb hby at_367) rfl hr) ?_
    refine Rch.st (fun _ hr => own_bal X200 hx hZ193 rfl Vk200 (v := (.int ch4)) rfl (by decide) (by decide) (hb hby at_368) hr) ?_
    refine Rch.st (fun _ hr => XS.iload X200.here hx rfl (hb hby at_369) rfl hr) ?_
    show Rch p.tables e below _ (T200.setTop (mkF m 371 #[.val (.int p0), .val (.int p1), .val (.int p2), .val (.int p3), .val (.int p4), .val (.int (0 : Int32)), .val (.int ch1), .val (.int ch2), .val (.int ch3), .val (.int ch4), .val (.ref b1), .val (.ref r_17), .val (.ref b27), .val (.ref b83), .val (.ref b1), .val (.ref r_150), .val (.ref b159), .val (.ref b159), .val (.ref b159), .val (.ref r_200)] [(.int ch4), (.int ch4)]))
    refine Rch.st (fun _ hr => XS.i2b X200.here hx rfl (hb hby at_371) rfl hr) ?_
    show Rch p.tables e below _ (T200.setTop (mkF m 372 #[.val (.int p0), .val (.int p1), .val (.int p2), .val (.int p3), .val (.int p4), .val (.int (0 : Int32)), .val (.int ch1), .val (.int ch2), .val (.int ch3), .val (.int ch4), .val (.ref b1), .val (.ref r_17), .val (.ref b27), .val (.ref b83), .val (.ref b1), .val (.ref r_150), .val (.ref b159), .val (.ref b159), .val (.ref b159), .val (.ref r_200)] [(.int (ch4.toInt8.toInt32)), (.int ch4)]))
    rw [own_i2b hch4.2]
    refine Rch.st (fun _ hr => XS.icmpYes X200.here hx rfl (pc0 := 372) (pc' := 377) rfl (hb hby at_372) rfl (teq rfl).1 (by decide) (by decide) hr) ?_
    refine Rch.st (fun _ hr => XS.aload X200.here hx rfl (hb hby at_377) rfl rfl hr) ?_
    refine Rch.st (fun _ hr => XS.bipush X200.here hx rfl (hb hby at_379) hr) ?_
    refine Rch.st (fun _ hr => XS.iload X200.here hx rfl (hb hby at_381) rfl hr) ?_
    refine Rch.st (fun _ hr => XS.iadd X200.here hx rfl (hb hby at_383) rfl hr) ?_
    refine Rch.st (fun _ hr => own_bal X200 hx hZ193 rfl Vk200 (v := (.int (62 : Int32))) rfl (by decide) (by decide) (hb hby at_384) hr) ?_
    refine Rch.st (fun _ hr => XS.bipush X200.here hx rfl (hb hby at_385) hr) ?_
    show Rch p.tables e below _ (T200.setTop (mkF m 387 #[.val (.int p0), .val (.int p1), .val (.int p2), .val (.int p3), .val (.int p4), .val (.int (0 : Int32)), .val (.int ch1), .val (.int ch2), .val (.int ch3), .val (.int ch4), .val (.ref b1), .val (.ref r_17), .val (.ref b27), .val (.ref b83), .val (.ref b1), .val (.ref r_150), .val (.ref b159), .val (.ref b159), .val (.ref b159), .val (.ref r_200)] [(.int (62 : Int32)), (.int (62 : Int32))]))
    refine Rch.st (fun _ hr => XS.icmpNo X200.here hx rfl (hb hby at_387) rfl (teq (by decide : (62 : Int32) = (62 : Int32))).2 hr) ?_
    refine Rch.st (fun _ hr => XS.iconst X200.here hx rfl (hb hby at_390) hr) ?_
    refine Rch.st (fun _ hr => XS.goto X200.here hx rfl (pc0 := 391) (pc' := 395) rfl (hb hby at_391) (by decide) (by decide) hr) ?_
    obtain ⟨fs, hr, hrun, hended, hREW⟩ := Jvm.Stand.leaveW (s := s) (vm₁ := T193.vm) X200 hS193 (Nat.le_trans (Nat.le_refl _) Kp200.1) (v := some (.int (1 : Int32))) (fun h => by rw [Bd.returns] at h; cases h)
    have hCE : CHr Z consts_1 s.vm s.heap T200.vm T200.heap := by rw [hh]; exact CR212.trans (CHv.at (s := s) (vm0 := T193.vm) X200 hZ193 (own_EW hw) CR212.1)
    refine Rch.fin (u := T200.setFrames fs) (retN X200 hx (t := .boolean) Bd.returns (by simp) (hb hby at_395) hr) ⟨_, hrun, hended, _, _, rfl, ?_, hCE, hREW.1, hREW.2.1, hREW.2.2.1, hREW.2.2.2.mono (by decide) (by decide)⟩
    show Q_claw Z p0 p1 p2 p3 p4 cs u h0 n0 _ T200.heap _ T200.vm
    exact ⟨rfl, N200, K213, Op200⟩
  · rw [hn]
    show Rch p.tables e below _ (T128.setTop (mkF m 102 #[.val (.int p0), .val (.int p1), .val (.int p2), .val (.int p3), .val (.int p4), .val (.int (1 : Int32)), .val (.int ch1), .val (.int ch2), .val (.int ch3), .val (.int ch4), .val (.ref b1), .val (.ref r_17), .val (.ref b27), .val (.ref b83), .unset, .unset, .unset, .unset, .unset, .unset] []))
    refine Rch.st (fun _ hr => XS.iload X128.here hx rfl (hb hby at_102) rfl hr) ?_
    refine Rch.st (fun _ hr => XS.ifYes X128.here hx rfl (pc0 := 104) (pc' := 112) rfl (hb hby at_104) rfl ((if0 _ _).trans (feq (by decide : ¬ ((1 : Int32) = (0 : Int32)))).2) (by decide) (by decide) hr) ?_
    refine Rch.st (fun _ hr => XS.iload X128.here hx rfl (hb hby at_112) rfl hr) ?_
    refine Rch.st (fun _ hr => XS.iconst X128.here hx rfl (hb hby at_114) hr) ?_
    refine Rch.st (fun _ hr => XS.icmpNo X128.here hx rfl (hb hby at_115) rfl (teq (by decide : (1 : Int32) = (1 : Int32))).2 hr) ?_
    refine Rch.st (fun _ hr => XS.aload X128.here hx rfl (hb hby at_118) rfl rfl hr) ?_
    refine Rch.st (fun _ hr => XS.goto X128.here hx rfl (pc0 := 120) (pc' := 136) rfl (hb hby at_120) (by decide) (by decide) hr) ?_
    refine Rch.st (fun _ hr => XS.astore X128.here hx rfl (hb hby at_136) rfl rfl (l' := #[.val (.int p0), .val (.int p1), .val (.int p2), .val (.int p3), .val (.int p4), .val (.int (1 : Int32)), .val (.int ch1), .val (.int ch2), .val (.int ch3), .val (.int ch4), .val (.ref b1), .val (.ref r_17), .val (.ref b27), .val (.ref b83), .val (.ref r_17), .unset, .unset, .unset, .unset, .unset]) rfl hr) ?_
    show Rch p.tables e below _ (T128.setTop (mkF m 138 #[.val (.int p0), .val (.int p1), .val (.int p2), .val (.int p3), .val (.int p4), .val (.int (1 : Int32)), .val (.int ch1), .val (.int ch2), .val (.int ch3), .val (.int ch4), .val (.ref b1), .val (.ref r_17), .val (.ref b27), .val (.ref b83), .val (.ref r_17), .unset, .unset, .unset, .unset, .unset] []))
    refine Rch.st (fun _ hr => XS.iload X128.here hx rfl (hb hby at_138) rfl hr) ?_
    obtain ⟨_, T215, Lc215, X215, hQ215, st215⟩ := own_callS X128 hx hZ9 (y := Y_37) hown9 (own_w hw 22 rfl) (own_w hw 23 rfl) (own_w hw 2 rfl) (own_w hw 24 rfl) (by decide) (W := 0) (cvof l Z a0 hw [] ch4 cs T128.heap n0 zD0 Op128 hch4.2 hcs) (by decide) (by decide) rfl (by decide) (by decide) (g := (mkF m 140 #[.val (.int p0), .val (.int p1), .val (.int p2), .val (.int p3), .val (.int p4), .val (.int (1 : Int32)), .val (.int ch1), .val (.int ch2), .val (.int ch3), .val (.int ch4), .val (.ref b1), .val (.ref r_17), .val (.ref b27), .val (.ref b83), .val (.ref r_17), .unset, .unset, .unset, .unset, .unset] [(.int ch4)])) rfl (by rw [hml]; rfl) (argsL := [(.int ch4)]) (rest := []) (lenOf pd_31 rfl) rfl (own_mr rfl rfl) (hb hby at_140) rfl
    obtain ⟨r_215, bx_215, kb_215, rfl, N215q, Kp215, Op215, R215_0, R215_1, R215_2, R215_3, R215_4, R215_5, R215_6⟩ := hQ215
    have N215 := Fr.app N128 N215q
    refine Rch.st st215 ?_
    have f216 := (f137.keep Kp128 (ninS ne89 nin0))
    have ne217 := Nat.ne_of_lt (Nat.lt_of_lt_of_le f216.lt R215_0)
    have f218 := (f139.keep Kp128 (ninS ne91 nin0))
    have ne219 := Nat.ne_of_lt (Nat.lt_of_lt_of_le f218.lt R215_0)
    have g_r_215 : n0 ≤ r_215 := Nat.le_trans (Nat.le_trans (Nat.le_of_eq Op128.1.symm) Op128.2.1) R215_0
    have sz_r_215 : h0.size ≤ r_215 := Nat.le_trans K149.1 R215_0
    have ne220 := Nat.ne_of_lt (Nat.lt_of_lt_of_le f216.lt R215_4)
    have ne221 := Nat.ne_of_lt (Nat.lt_of_lt_of_le f218.lt R215_4)
    have g_bx_215 : n0 ≤ bx_215 := Nat.le_trans (Nat.le_trans (Nat.le_of_eq Op128.1.symm) Op128.2.1) R215_4
    have sz_bx_215 : h0.size ≤ bx_215 := Nat.le_trans K149.1 R215_4
    have cs222 := CHr.keep Kp215 sf0 CR148.1
    have CR222 := CR148.trans cs222
    have K223 := K149.trans Kp215 all0
    refine Rch.st (fun _ hr => XS.astore X215.here hx rfl (hb hby at_143) rfl rfl (l' := #[.val (.int p0), .val (.int p1), .val (.int p2), .val (.int p3), .val (.int p4), .val (.int (1 : Int32)), .val (.int ch1), .val (.int ch2), .val (.int ch3), .val (.int ch4), .val (.ref b1), .val (.ref r_17), .val (.ref b27), .val (.ref b83), .val (.ref r_17), .val (.ref r_215), .unset, .unset, .unset, .unset]) rfl hr) ?_
    obtain ⟨T224, h224, X224, e224, E224, A224, D224, -, st224⟩ := newO X215 hx hZ9 hown9 (own_w hw 47 rfl) (own_w hw 48 rfl) (own_w hw 49 rfl) rfl (g := (mkF m 145 #[.val (.int p0), .val (.int p1), .val (.int p2), .val (.int p3), .val (.int p4), .val (.int (1 : Int32)), .val (.int ch1), .val (.int ch2), .val (.int ch3), .val (.int ch4), .val (.ref b1), .val (.ref r_17), .val (.ref b27), .val (.ref b83), .val (.ref r_17), .val (.ref r_215), .unset, .unset, .unset, .unset] [])) rfl (hb hby at_145) (by decide) (by decide)
    obtain ⟨b224, g224⟩ : ∃ z, z = T215.heap.size := ⟨_, rfl⟩
    rw [← g224] at A224 D224 st224
    refine Rch.st st224 ?_
    have q224 : T215.heap.size ≤ b224 := Nat.le_of_eq g224.symm
    have f225 := (f216.keep Kp215 nin0)
    have ne226 := Nat.ne_of_lt (Nat.lt_of_lt_of_le f225.lt q224)
    have f227 := (f218.keep Kp215 nin0)
    have ne228 := Nat.ne_of_lt (Nat.lt_of_lt_of_le f227.lt q224)
    have ne229 := Nat.ne_of_lt (Nat.lt_of_lt_of_le R215_3.lt q224)
    have ne230 := Nat.ne_of_lt (Nat.lt_of_lt_of_le R215_5.lt q224)
    have g_b224 : n0 ≤ b224 := Nat.le_trans (Nat.le_trans (Nat.le_of_eq Op215.1.symm) Op215.2.1) q224
    have sz_b224 : h0.size ≤ b224 := Nat.le_trans K223.1 q224
    have cs231 := CHr.ext E224 CR222.1
    have CR231 := CR222.trans cs231
    have K232 := K223.ext E224
    have F224_out : Fld Z h224 b224 "com/example/orrery/orrery/server/Html" "out" "Ljava/lang/StringBuilder;" .null := D224 (Or.inr (own_w hw 126 rfl)) (ty := (.object "java/lang/StringBuilder")) (by decide)
    refine Rch.st (fun _ hr => XS.dup X224.here hx rfl (hb hby at_148) rfl rfl hr) ?_
    have f234 := (Op215.ext E224)
    obtain ⟨_, T233, Lc233, X233, hQ233, hC233, hS233, hZ233, hown233, st233⟩ := own_callIH (s := s) (vm0 := T9.vm) X224 hx hZ9 hS9 (Nat.le_trans (Nat.le_trans (Nat.le_trans (Nat.le_trans (Nat.le_trans (Nat.le_trans (Nat.le_trans (Nat.le_trans (Nat.le_trans (Nat.le_trans (Nat.le_trans (Nat.le_trans (Nat.le_trans (Nat.le_trans (Nat.le_refl _) Kp17.1) E27.1) E38.1) (Keep.of_wr W54).1) (Keep.of_wr W59).1) Kp63.1) E83.1) E96.1) (Keep.of_wr W114).1) (Keep.of_wr W119).1) (Keep.of_wr W124).1) Kp128.1) Kp215.1) E224.1) (own_EW hw) CR231.1 (xs := []) all0 (y := Y_38) rfl hown9 (own_w hw 50 rfl) (own_w hw 51 rfl) (own_w hw 49 rfl) (own_w hw 52 rfl) (by decide) (W := 1) (chtml l Z a0 hw [] b224 cs h224 n0 zD0 f234 A224 F224_out g_b224 hcs) (by decide) (by decide) e224 (by decide) (by decide) (g := (mkF m 149 #[.val (.int p0), .val (.int p1), .val (.int p2), .val (.int p3), .val (.int p4), .val (.int (1 : Int32)), .val (.int ch1), .val (.int ch2), .val (.int ch3), .val (.int ch4), .val (.ref b1), .val (.ref r_17), .val (.ref b27), .val (.ref b83), .val (.ref r_17), .val (.ref r_215), .unset, .unset, .unset, .unset] [(.ref b224), (.ref b224)])) rfl (by rw [hml]; rfl) (a := b224) (argsL := []) (rest := [(.ref b224)]) (lenOf pd_32 rfl) rfl (own_mr rfl rfl) (hb hby at_149) rfl
    obtain ⟨sb_233, d_233, kd_233, rfl, N233q, Kp233, Op233, R233_0, R233_1, R233_2, R233_3, R233_4, R233_5, R233_6, R233_7, R233_8, R233_9, R233_10⟩ := hQ233
    have N233 := Fr.app N215 N233q
    refine Rch.st st233 ?_
    have f235 := (f225.ext E224)
    have ne236 := Nat.ne_of_lt (Nat.lt_of_lt_of_le f235.lt R233_2)
    have f237 := (f227.ext E224)
    have ne238 := Nat.ne_of_lt (Nat.lt_of_lt_of_le f237.lt R233_2)
    have f239 := (R215_3.ext E224)
    have ne240 := Nat.ne_of_lt (Nat.lt_of_lt_of_le f239.lt R233_2)
    have f241 := (R215_5.ext E224)
    have ne242 := Nat.ne_of_lt (Nat.lt_of_lt_of_le f241.lt R233_2)
    have ne243 := Nat.ne_of_lt (Nat.lt_of_lt_of_le F224_out.lt R233_2)
    have g_sb_233 : n0 ≤ sb_233 := Nat.le_trans (Nat.le_trans (Nat.le_of_eq f234.1.symm) f234.2.1) R233_2
    have sz_sb_233 : h0.size ≤ sb_233 := Nat.le_trans K232.1 R233_2
    have ne244 := Nat.ne_of_lt (Nat.lt_of_lt_of_le f235.lt R233_7)
    have ne245 := Nat.ne_of_lt (Nat.lt_of_lt_of_le f237.lt R233_7)
    have ne246 := Nat.ne_of_lt (Nat.lt_of_lt_of_le f239.lt R233_7)
    have ne247 := Nat.ne_of_lt (Nat.lt_of_lt_of_le f241.lt R233_7)
    have ne248 := Nat.ne_of_lt (Nat.lt_of_lt_of_le F224_out.lt R233_7)
    have g_d_233 : n0 ≤ d_233 := Nat.le_trans (Nat.le_trans (Nat.le_of_eq f234.1.symm) f234.2.1) R233_7
    have sz_d_233 : h0.size ≤ d_233 := Nat.le_trans K232.1 R233_7
    have CR249 := CR231.trans hC233
    have K250 := K232.trans Kp233 (allS (Or.inr sz_b224) all0)
    refine Rch.st (fun _ hr => XS.astore X233.here hx rfl (hb hby at_152) rfl rfl (l' := #[.val (.int p0), .val (.int p1), .val (.int p2), .val (.int p3), .val (.int p4), .val (.int (1 : Int32)), .val (.int ch1), .val (.int ch2), .val (.int ch3), .val (.int ch4), .val (.ref b1), .val (.ref r_17), .val (.ref b27), .val (.ref b83), .val (.ref r_17), .val (.ref r_215), .val (.ref b224), .unset, .unset, .unset]) rfl hr) ?_
    refine Rch.st (fun _ hr => XS.aload X233.here hx rfl (hb hby at_154) rfl rfl hr) ?_
    show Rch p.tables e below _ (T233.setTop (mkF m 156 #[.val (.int p0), .val (.int p1), .val (.int p2), .val (.int p3), .val (.int p4), .val (.int (1 : Int32)), .val (.int ch1), .val (.int ch2), .val (.int ch3), .val (.int ch4), .val (.ref b1), .val (.ref r_17), .val (.ref b27), .val (.ref b83), .val (.ref r_17), .val (.ref r_215), .val (.ref b224), .unset, .unset, .unset] [(.ref b224)]))
    refine Rch.st (fun _ hr => XS.aload X233.here hx rfl (hb hby at_156) rfl rfl hr) ?_
    have f252 := ((((((((((((((R17_1.ext E27).ext E38).wr W54).wr W59).keep Kp63).ext E83).ext E96).wr W114).wr W119).wr W124).keep Kp128).keep Kp215).ext E224).keep Kp233)
    have f253 := ((((((((((((((R17_2.ext E27).ext E38).other W54 (Or.inl ne46)).other W59 (Or.inl ne46)).keep Kp63 (ninS ne34 nin0)).ext E83).ext E96).other W114 (Or.inl ne102)).other W119 (Or.inl ne102)).other W124 (Or.inl ne102)).keep Kp128 (ninS ne89 nin0)).keep Kp215 nin0).ext E224).keep Kp233 (ninS ne226 nin0))
    have f254 := (f235.keep Kp233 (ninS ne226 nin0))
    have f255 := (f237.keep Kp233 (ninS ne228 nin0))
    obtain ⟨_, T251, Lc251, X251, hQ251, hC251, hS251, hZ251, hown251, st251⟩ := own_callVH (s := s) (vm0 := T233.vm) X233 hx hZ233 hS233 (Nat.le_refl _) (own_EW hw) CR249.1 (xs := [d_233]) (allS ⟨R233_8.lt, R233_9⟩ all0) (y := Y_39) (z := Y_39) hown233 (own_w hw 127 rfl) (own_w hw 128 rfl) (notFace_of_selects (args := #[]) (mvT hZ233 (own_w hw 130 rfl))) (own_w hw 130 rfl) (own_w hw 129 rfl) (own_w hw 49 rfl) (own_w hw 131 rfl) (by decide) (W := 0) (cclose l Z a0 hw [] b224 sb_233 d_233 kd_233 [(.int (60 : Int32)), (.int (33 : Int32)), (.int (68 : Int32)), (.int (79 : Int32)), (.int (67 : Int32)), (.int (84 : Int32)), (.int (89 : Int32)), (.int (80 : Int32)), (.int (69 : Int32)), (.int (32 : Int32)), (.int (104 : Int32)), (.int (116 : Int32)), (.int (109 : Int32)), (.int (108 : Int32)), (.int (62 : Int32)), (.int (10 : Int32)), (.int (0 : Int32)), (.int (0 : Int32)), (.int (0 : Int32)), (.int (0 : Int32)), (.int (0 : Int32)), (.int (0 : Int32)), (.int (0 : Int32)), (.int (0 : Int32)), (.int (0 : Int32)), (.int (0 : Int32)), (.int (0 : Int32)), (.int (0 : Int32)), (.int (0 : Int32)), (.int (0 : Int32)), (.int (0 : Int32)), (.int (0 : Int32))] (16 : Int32) r_17 bx_17 kb_17 (1 : Int32) [(.int ch1)] cs T233.heap n0 zD0 Op233 R233_0 R233_1 R233_3 R233_4 R233_5 R233_6 R233_8 f252 f253 f254 f255 g_sb_233 g_d_233 ne245 R233_10 hcs (by decide) rfl (by decide) (by decide) (by decide) (by decide) (by decide) (by decide) (by decide) (by decide) (by decide) (by decide)) (by decide) (by decide) rfl R233_0 (by decide) (by decide) (g := (mkF m 158 #[.val (.int p0), .val (.int p1), .val (.int p2), .val (.int p3), .val (.int p4), .val (.int (1 : Int32)), .val (.int ch1), .val (.int ch2), .val (.int ch3), .val (.int ch4), .val (.ref b1), .val (.ref r_17), .val (.ref b27), .val (.ref b83), .val (.ref r_17), .val (.ref r_215), .val (.ref b224), .unset, .unset, .unset] [(.ref r_17), (.ref b224)])) rfl (by rw [hml]; rfl) (argsL := [(.ref r_17)]) (rest := []) (lenOf pd_33 rfl) rfl (own_mr rfl rfl) (hb hby at_158) rfl
    obtain ⟨rfl, N251q, Kp251, Op251, R251_0, R251_1, R251_2, R251_3, R251_4, R251_5, R251_6, R251_7⟩ := hQ251
    have N251 := Fr.app N233 N251q
    refine Rch.st st251 ?_
    have CR256 := CR249.trans hC251
    have K257 := K250.trans Kp251 (allS (Or.inr sz_sb_233) (allS (Or.inr sz_d_233) all0))
    have Fk251 : Fld Z T251.heap sb_233 "java/lang/AbstractStringBuilder" "count" "I" (.int (20 : Int32)) := R251_5
    have Vk251 : Arv Z T251.heap d_233 kd_233 .byte (32 : Int32) [(.int (60 : Int32)), (.int (33 : Int32)), (.int (68 : Int32)), (.int (79 : Int32)), (.int (67 : Int32)), (.int (84 : Int32)), (.int (89 : Int32)), (.int (80 : Int32)), (.int (69 : Int32)), (.int (32 : Int32)), (.int (104 : Int32)), (.int (116 : Int32)), (.int (109 : Int32)), (.int (108 : Int32)), (.int (62 : Int32)), (.int (10 : Int32)), (.int (60 : Int32)), (.int (47 : Int32)), (.int ch1), (.int (62 : Int32)), (.int (0 : Int32)), (.int (0 : Int32)), (.int (0 : Int32)), (.int (0 : Int32)), (.int (0 : Int32)), (.int (0 : Int32)), (.int (0 : Int32)), (.int (0 : Int32)), (.int (0 : Int32)), (.int (0 : Int32)), (.int (0 : Int32)), (.int (0 : Int32))] (.int (0 : Int32)) := R251_6
    refine Rch.st (fun _ hr => XS.astore X251.here hx rfl (hb hby at_161) rfl rfl (l' := #[.val (.int p0), .val (.int p1), .val (.int p2), .val (.int p3), .val (.int p4), .val (.int (1 : Int32)), .val (.int ch1), .val (.int ch2), .val (.int ch3), .val (.int ch4), .val (.ref b1), .val (.ref r_17), .val (.ref b27), .val (.ref b83), .val (.ref r_17), .val (.ref r_215), .val (.ref b224), .val (.ref b224), .unset, .unset]) rfl hr) ?_
    refine Rch.st (fun _ hr => XS.aload X251.here hx rfl (hb hby at_163) rfl rfl hr) ?_
    refine Rch.st (fun _ hr => XS.aload X251.here hx rfl (hb hby at_165) rfl rfl hr) ?_
    have f259 := (((R215_1.ext E224).keep Kp233).keep Kp251)
    have f260 := (((R215_2.ext E224).keep Kp233 (ninS ne229 nin0)).keep Kp251 (ninS ne240 (ninS ne246 nin0)))
    have f261 := ((f239.keep Kp233 (ninS ne229 nin0)).keep Kp251 (ninS ne240 (ninS ne246 nin0)))
    have f262 := ((f241.keep Kp233 (ninS ne230 nin0)).keep Kp251 (ninS ne242 (ninS ne247 nin0)))
    obtain ⟨_, T258, Lc258, X258, hQ258, hC258, hS258, hZ258, hown258, st258⟩ := own_callVH (s := s) (vm0 := T251.vm) X251 hx hZ251 hS251 (Nat.le_refl _) (own_EW hw) CR256.1 (xs := [d_233]) (allS ⟨R251_6.lt, R251_7⟩ all0) (y := Y_39) (z := Y_39) hown251 (own_w hw 127 rfl) (own_w hw 128 rfl) (notFace_of_selects (args := #[]) (mvT hZ251 (own_w hw 130 rfl))) (own_w hw 130 rfl) (own_w hw 129 rfl) (own_w hw 49 rfl) (own_w hw 131 rfl) (by decide) (W := 0) (cclose l Z a0 hw [] b224 sb_233 d_233 kd_233 [(.int (60 : Int32)), (.int (33 : Int32)), (.int (68 : Int32)), (.int (79 : Int32)), (.int (67 : Int32)), (.int (84 : Int32)), (.int (89 : Int32)), (.int (80 : Int32)), (.int (69 : Int32)), (.int (32 : Int32)), (.int (104 : Int32)), (.int (116 : Int32)), (.int (109 : Int32)), (.int (108 : Int32)), (.int (62 : Int32)), (.int (10 : Int32)), (.int (60 : Int32)), (.int (47 : Int32)), (.int ch1), (.int (62 : Int32)), (.int (0 : Int32)), (.int (0 : Int32)), (.int (0 : Int32)), (.int (0 : Int32)), (.int (0 : Int32)), (.int (0 : Int32)), (.int (0 : Int32)), (.int (0 : Int32)), (.int (0 : Int32)), (.int (0 : Int32)), (.int (0 : Int32)), (.int (0 : Int32))] (20 : Int32) r_215 bx_215 kb_215 (1 : Int32) [(.int ch4)] cs T251.heap n0 zD0 Op251 R251_0 R251_1 R251_2 R251_3 R251_4 Fk251 Vk251 f259 f260 f261 f262 g_sb_233 g_d_233 ne247 R233_10 hcs (by decide) rfl (by decide) (by decide) (by decide) (by decide) (by decide) (by decide) (by decide) (by decide) (by decide) (by decide)) (by decide) (by decide) rfl R251_0 (by decide) (by decide) (g := (mkF m 167 #[.val (.int p0), .val (.int p1), .val (.int p2), .val (.int p3), .val (.int p4), .val (.int (1 : Int32)), .val (.int ch1), .val (.int ch2), .val (.int ch3), .val (.int ch4), .val (.ref b1), .val (.ref r_17), .val (.ref b27), .val (.ref b83), .val (.ref r_17), .val (.ref r_215), .val (.ref b224), .val (.ref b224), .unset, .unset] [(.ref r_215), (.ref b224)])) rfl (by rw [hml]; rfl) (argsL := [(.ref r_215)]) (rest := []) (lenOf pd_33 rfl) rfl (own_mr rfl rfl) (hb hby at_167) rfl
    obtain ⟨rfl, N258q, Kp258, Op258, R258_0, R258_1, R258_2, R258_3, R258_4, R258_5, R258_6, R258_7⟩ := hQ258
    have N258 := Fr.app N251 N258q
    refine Rch.st st258 ?_
    have CR263 := CR256.trans hC258
    have K264 := K257.trans Kp258 (allS (Or.inr sz_sb_233) (allS (Or.inr sz_d_233) all0))
    have Fk258 : Fld Z T258.heap sb_233 "java/lang/AbstractStringBuilder" "count" "I" (.int (24 : Int32)) := R258_5
    have Vk258 : Arv Z T258.heap d_233 kd_233 .byte (32 : Int32) [(.int (60 : Int32)), (.int (33 : Int32)), (.int (68 : Int32)), (.int (79 : Int32)), (.int (67 : Int32)), (.int (84 : Int32)), (.int (89 : Int32)), (.int (80 : Int32)), (.int (69 : Int32)), (.int (32 : Int32)), (.int (104 : Int32)), (.int (116 : Int32)), (.int (109 : Int32)), (.int (108 : Int32)), (.int (62 : Int32)), (.int (10 : Int32)), (.int (60 : Int32)), (.int (47 : Int32)), (.int ch1), (.int (62 : Int32)), (.int (60 : Int32)), (.int (47 : Int32)), (.int ch4), (.int (62 : Int32)), (.int (0 : Int32)), (.int (0 : Int32)), (.int (0 : Int32)), (.int (0 : Int32)), (.int (0 : Int32)), (.int (0 : Int32)), (.int (0 : Int32)), (.int (0 : Int32))] (.int (0 : Int32)) := R258_6
    refine Rch.st (fun _ hr => XS.astore X258.here hx rfl (hb hby at_170) rfl rfl (l' := #[.val (.int p0), .val (.int p1), .val (.int p2), .val (.int p3), .val (.int p4), .val (.int (1 : Int32)), .val (.int ch1), .val (.int ch2), .val (.int ch3), .val (.int ch4), .val (.ref b1), .val (.ref r_17), .val (.ref b27), .val (.ref b83), .val (.ref r_17), .val (.ref r_215), .val (.ref b224), .val (.ref b224), .val (.ref b224), .unset]) rfl hr) ?_
    refine Rch.st (fun _ hr => XS.aload X258.here hx rfl (hb hby at_172) rfl rfl hr) ?_
    show Rch p.tables e below _ (T258.setTop (mkF m 174 #[.val (.int p0), .val (.int p1), .val (.int p2), .val (.int p3), .val (.int p4), .val (.int (1 : Int32)), .val (.int ch1), .val (.int ch2), .val (.int ch3), .val (.int ch4), .val (.ref b1), .val (.ref r_17), .val (.ref b27), .val (.ref b83), .val (.ref r_17), .val (.ref r_215), .val (.ref b224), .val (.ref b224), .val (.ref b224), .unset] [(.ref b224)]))
    refine Rch.st (fun _ hr => XS.aload X258.here hx rfl (hb hby at_174) rfl rfl hr) ?_
    refine Rch.st (fun _ hr => Jvm.RoadKit.acmp (g := (mkF m 176 #[.val (.int p0), .val (.int p1), .val (.int p2), .val (.int p3), .val (.int p4), .val (.int (1 : Int32)), .val (.int ch1), .val (.int ch2), .val (.int ch3), .val (.int ch4), .val (.ref b1), .val (.ref r_17), .val (.ref b27), .val (.ref b83), .val (.ref r_17), .val (.ref r_215), .val (.ref b224), .val (.ref b224), .val (.ref b224), .unset] [(.ref b224), (.ref b224)])) X258 hx rfl rfl rfl (pc0 := 176) (pc' := 179) (same := true) rfl (hb hby at_176) rfl (decide_eq_true rfl) (by decide) (by decide) hr) ?_
    refine Rch.st (fun _ hr => XS.aload X258.here hx rfl (hb hby at_179) rfl rfl hr) ?_
    refine Rch.st (fun _ hr => XS.aload X258.here hx rfl (hb hby at_181) rfl rfl hr) ?_
    refine Rch.st (fun _ hr => Jvm.RoadKit.acmp (g := (mkF m 183 #[.val (.int p0), .val (.int p1), .val (.int p2), .val (.int p3), .val (.int p4), .val (.int (1 : Int32)), .val (.int ch1), .val (.int ch2), .val (.int ch3), .val (.int ch4), .val (.ref b1), .val (.ref r_17), .val (.ref b27), .val (.ref b83), .val (.ref r_17), .val (.ref r_215), .val (.ref b224), .val (.ref b224), .val (.ref b224), .unset] [(.ref b224), (.ref b224)])) X258 hx rfl rfl rfl (pc0 := 183) (pc' := 188) (same := true) rfl (hb hby at_183) rfl (decide_eq_true rfl) (by decide) (by decide) hr) ?_
    refine Rch.st (fun _ hr => XS.aload X258.here hx rfl (hb hby at_188) rfl rfl hr) ?_
    obtain ⟨_, T265, Lc265, X265, hQ265, st265⟩ := own_callV X258 hx hZ258 (y := Y_40) (z := Y_40) hown258 (own_w hw 149 rfl) (own_w hw 150 rfl) (notFace_of_selects (args := #[]) (mvT hZ258 (own_w hw 152 rfl))) (own_w hw 152 rfl) (own_w hw 151 rfl) (own_w hw 49 rfl) (own_w hw 153 rfl) (by decide) (W := 0) (cbytes l Z a0 hw [] b224 sb_233 d_233 kd_233 [(.int (60 : Int32)), (.int (33 : Int32)), (.int (68 : Int32)), (.int (79 : Int32)), (.int (67 : Int32)), (.int (84 : Int32)), (.int (89 : Int32)), (.int (80 : Int32)), (.int (69 : Int32)), (.int (32 : Int32)), (.int (104 : Int32)), (.int (116 : Int32)), (.int (109 : Int32)), (.int (108 : Int32)), (.int (62 : Int32)), (.int (10 : Int32)), (.int (60 : Int32)), (.int (47 : Int32)), (.int ch1), (.int (62 : Int32)), (.int (60 : Int32)), (.int (47 : Int32)), (.int ch4), (.int (62 : Int32)), (.int (0 : Int32)), (.int (0 : Int32)), (.int (0 : Int32)), (.int (0 : Int32)), (.int (0 : Int32)), (.int (0 : Int32)), (.int (0 : Int32)), (.int (0 : Int32))] (24 : Int32) u cs T258.heap n0 zD0 zD1 zD2 Op258 R258_0 R258_1 R258_2 R258_3 R258_4 Fk258 Vk258 (by decide) (by decide) (by decide) (by decide) rfl hcs (own_posC (by decide) (own_posC (by decide) (own_posC (by decide) (own_posC (by decide) (own_posC (by decide) (own_posC (by decide) (own_posC (by decide) (own_posC (by decide) (own_posC (by decide) (own_posC (by decide) (own_posC (by decide) (own_posC (by decide) (own_posC (by decide) (own_posC (by decide) (own_posC (by decide) (own_posC (by decide) (own_posC (by decide) (own_posC (by decide) (own_posC (own_A0 hch1.2) (own_posC (by decide) (own_posC (by decide) (own_posC (by decide) (own_posC (own_A0 hch4.2) (own_posC (by decide) own_posZ))))))))))))))))))))))))) (by decide) (by decide) rfl R258_0 (by decide) (by decide) (g := (mkF m 190 #[.val (.int p0), .val (.int p1), .val (.int p2), .val (.int p3), .val (.int p4), .val (.int (1 : Int32)), .val (.int ch1), .val (.int ch2), .val (.int ch3), .val (.int ch4), .val (.ref b1), .val (.ref r_17), .val (.ref b27), .val (.ref b83), .val (.ref r_17), .val (.ref r_215), .val (.ref b224), .val (.ref b224), .val (.ref b224), .unset] [(.ref b224)])) rfl (by rw [hml]; rfl) (argsL := []) (rest := []) (lenOf pd_21 rfl) rfl (own_mr rfl rfl) (hb hby at_190) rfl
    obtain ⟨r_265, kr_265, rfl, N265q, Kp265, Op265, R265_0, R265_1⟩ := hQ265
    have N265 := Fr.app N258 N265q
    refine Rch.st st265 ?_
    have f266 := ((f254.keep Kp251 (ninS ne236 (ninS ne244 nin0))).keep Kp258 (ninS ne236 (ninS ne244 nin0)))
    have ne267 := Nat.ne_of_lt (Nat.lt_of_lt_of_le f266.lt R265_0)
    have f268 := ((f255.keep Kp251 (ninS ne238 (ninS ne245 nin0))).keep Kp258 (ninS ne238 (ninS ne245 nin0)))
    have ne269 := Nat.ne_of_lt (Nat.lt_of_lt_of_le f268.lt R265_0)
    have f270 := (f261.keep Kp258 (ninS ne240 (ninS ne246 nin0)))
    have ne271 := Nat.ne_of_lt (Nat.lt_of_lt_of_le f270.lt R265_0)
    have f272 := (f262.keep Kp258 (ninS ne242 (ninS ne247 nin0)))
    have ne273 := Nat.ne_of_lt (Nat.lt_of_lt_of_le f272.lt R265_0)
    have ne274 := Nat.ne_of_lt (Nat.lt_of_lt_of_le R258_1.lt R265_0)
    have ne275 := Nat.ne_of_lt (Nat.lt_of_lt_of_le Fk258.lt R265_0)
    have ne276 := Nat.ne_of_lt (Nat.lt_of_lt_of_le Vk258.lt R265_0)
    have g_r_265 : n0 ≤ r_265 := Nat.le_trans (Nat.le_trans (Nat.le_of_eq Op258.1.symm) Op258.2.1) R265_0
    have sz_r_265 : h0.size ≤ r_265 := Nat.le_trans K264.1 R265_0
    have cs277 := CHr.keep Kp265 sf0 CR263.1
    have CR277 := CR263.trans cs277
    have K278 := K264.trans Kp265 all0
    have Vk265 : Arv Z T265.heap r_265 kr_265 .byte (24 : Int32) [(.int (60 : Int32)), (.int (33 : Int32)), (.int (68 : Int32)), (.int (79 : Int32)), (.int (67 : Int32)), (.int (84 : Int32)), (.int (89 : Int32)), (.int (80 : Int32)), (.int (69 : Int32)), (.int (32 : Int32)), (.int (104 : Int32)), (.int (116 : Int32)), (.int (109 : Int32)), (.int (108 : Int32)), (.int (62 : Int32)), (.int (10 : Int32)), (.int (60 : Int32)), (.int (47 : Int32)), (.int ch1), (.int (62 : Int32)), (.int (60 : Int32)), (.int (47 : Int32)), (.int ch4), (.int (62 : Int32)), (.int (0 : Int32)), (.int (0 : Int32))] (.int (0 : Int32)) := R265_1
    refine Rch.st (fun _ hr => XS.astore X265.here hx rfl (hb hby at_193) rfl rfl (l' := #[.val (.int p0), .val (.int p1), .val (.int p2), .val (.int p3), .val (.int p4), .val (.int (1 : Int32)), .val (.int ch1), .val (.int ch2), .val (.int ch3), .val (.int ch4), .val (.ref b1), .val (.ref r_17), .val (.ref b27), .val (.ref b83), .val (.ref r_17), .val (.ref r_215), .val (.ref b224), .val (.ref b224), .val (.ref b224), .val (.ref r_265)]) rfl hr) ?_
    show Rch p.tables e below _ (T265.setTop (mkF m 195 #[.val (.int p0), .val (.int p1), .val (.int p2), .val (.int p3), .val (.int p4), .val (.int (1 : Int32)), .val (.int ch1), .val (.int ch2), .val (.int ch3), .val (.int ch4), .val (.ref b1), .val (.ref r_17), .val (.ref b27), .val (.ref b83), .val (.ref r_17), .val (.ref r_215), .val (.ref b224), .val (.ref b224), .val (.ref b224), .val (.ref r_265)] []))
    refine Rch.st (fun _ hr => XS.aload X265.here hx rfl (hb hby at_195) rfl rfl hr) ?_
    obtain ⟨cl279, Ar279, -, Sz279, Ng279, -, -⟩ := id Vk265
    refine Rch.st (fun t hr => X265.arraylength hx Ar279.1 (State.isArrayOf_alike hZ258.alike Ar279.2.1) (g := (mkF m 197 #[.val (.int p0), .val (.int p1), .val (.int p2), .val (.int p3), .val (.int p4), .val (.int (1 : Int32)), .val (.int ch1), .val (.int ch2), .val (.int ch3), .val (.int ch4), .val (.ref b1), .val (.ref r_17), .val (.ref b27), .val (.ref b83), .val (.ref r_17), .val (.ref r_215), .val (.ref b224), .val (.ref b224), .val (.ref b224), .val (.ref r_265)] [(.ref r_265)])) rfl rfl (hb hby at_197) t hr) ?_
    rw [len_of Sz279 Ng279]
    refine Rch.st (fun _ hr => XS.bipush X265.here hx rfl (hb hby at_198) hr) ?_
    refine Rch.st (fun _ hr => XS.iload X265.here hx rfl (hb hby at_200) rfl hr) ?_
    refine Rch.st (fun _ hr => XS.iadd X265.here hx rfl (hb hby at_202) rfl hr) ?_
    refine Rch.st (fun _ hr => XS.icmpYes X265.here hx rfl (pc0 := 203) (pc' := 208) rfl (hb hby at_203) rfl (teq (by decide : (24 : Int32) = (24 : Int32))).1 (by decide) (by decide) hr) ?_
    refine Rch.st (fun _ hr => XS.aload X265.here hx rfl (hb hby at_208) rfl rfl hr) ?_
    refine Rch.st (fun _ hr => XS.iconst X265.here hx rfl (hb hby at_210) hr) ?_
    show Rch p.tables e below _ (T265.setTop (mkF m 211 #[.val (.int p0), .val (.int p1), .val (.int p2), .val (.int p3), .val (.int p4), .val (.int (1 : Int32)), .val (.int ch1), .val (.int ch2), .val (.int ch3), .val (.int ch4), .val (.ref b1), .val (.ref r_17), .val (.ref b27), .val (.ref b83), .val (.ref r_17), .val (.ref r_215), .val (.ref b224), .val (.ref b224), .val (.ref b224), .val (.ref r_265)] [(.int (0 : Int32)), (.ref r_265)]))
    refine Rch.st (fun _ hr => own_bal X265 hx hZ258 rfl Vk265 (v := (.int (60 : Int32))) rfl (by decide) (by decide) (hb hby at_211) hr) ?_
    refine Rch.st (fun _ hr => XS.bipush X265.here hx rfl (hb hby at_212) hr) ?_
    refine Rch.st (fun _ hr => XS.icmpNo X265.here hx rfl (hb hby at_214) rfl (teq (by decide : (60 : Int32) = (60 : Int32))).2 hr) ?_
    refine Rch.st (fun _ hr => XS.aload X265.here hx rfl (hb hby at_217) rfl rfl hr) ?_
    refine Rch.st (fun _ hr => XS.bipush X265.here hx rfl (hb hby at_219) hr) ?_
    refine Rch.st (fun _ hr => own_bal X265 hx hZ258 rfl Vk265 (v := (.int (62 : Int32))) rfl (by decide) (by decide) (hb hby at_221) hr) ?_
    refine Rch.st (fun _ hr => XS.bipush X265.here hx rfl (hb hby at_222) hr) ?_
    refine Rch.st (fun _ hr => XS.icmpNo X265.here hx rfl (hb hby at_224) rfl (teq (by decide : (62 : Int32) = (62 : Int32))).2 hr) ?_
    show Rch p.tables e below _ (T265.setTop (mkF m 227 #[.val (.int p0), .val (.int p1), .val (.int p2), .val (.int p3), .val (.int p4), .val (.int (1 : Int32)), .val (.int ch1), .val (.int ch2), .val (.int ch3), .val (.int ch4), .val (.ref b1), .val (.ref r_17), .val (.ref b27), .val (.ref b83), .val (.ref r_17), .val (.ref r_215), .val (.ref b224), .val (.ref b224), .val (.ref b224), .val (.ref r_265)] []))
    refine Rch.st (fun _ hr => XS.aload X265.here hx rfl (hb hby at_227) rfl rfl hr) ?_
    refine Rch.st (fun _ hr => XS.bipush X265.here hx rfl (hb hby at_229) hr) ?_
    refine Rch.st (fun _ hr => own_bal X265 hx hZ258 rfl Vk265 (v := (.int (10 : Int32))) rfl (by decide) (by decide) (hb hby at_231) hr) ?_
    refine Rch.st (fun _ hr => XS.bipush X265.here hx rfl (hb hby at_232) hr) ?_
    refine Rch.st (fun _ hr => XS.icmpYes X265.here hx rfl (pc0 := 234) (pc' := 239) rfl (hb hby at_234) rfl (teq (by decide : (10 : Int32) = (10 : Int32))).1 (by decide) (by decide) hr) ?_
    refine Rch.st (fun _ hr => XS.aload X265.here hx rfl (hb hby at_239) rfl rfl hr) ?_
    refine Rch.st (fun _ hr => XS.bipush X265.here hx rfl (hb hby at_241) hr) ?_
    refine Rch.st (fun _ hr => own_bal X265 hx hZ258 rfl Vk265 (v := (.int (60 : Int32))) rfl (by decide) (by decide) (hb hby at_243) hr) ?_
    show Rch p.tables e below _ (T265.setTop (mkF m 244 #[.val (.int p0), .val (.int p1), .val (.int p2), .val (.int p3), .val (.int p4), .val (.int (1 : Int32)), .val (.int ch1), .val (.int ch2), .val (.int ch3), .val (.int ch4), .val (.ref b1), .val (.ref r_17), .val (.ref b27), .val (.ref b83), .val (.ref r_17), .val (.ref r_215), .val (.ref b224), .val (.ref b224), .val (.ref b224), .val (.ref r_265)] [(.int (60 : Int32))]))
    refine Rch.st (fun _ hr => XS.bipush X265.here hx rfl (hb hby at_244) hr) ?_
    refine Rch.st (fun _ hr => XS.icmpNo X265.here hx rfl (hb hby at_246) rfl (teq (by decide : (60 : Int32) = (60 : Int32))).2 hr) ?_
    refine Rch.st (fun _ hr => XS.aload X265.here hx rfl (hb hby at_249) rfl rfl hr) ?_
    refine Rch.st (fun _ hr => XS.bipush X265.here hx rfl (hb hby at_251) hr) ?_
    refine Rch.st (fun _ hr => own_bal X265 hx hZ258 rfl Vk265 (v := (.int (47 : Int32))) rfl (by decide) (by decide) (hb hby at_253) hr) ?_
    refine Rch.st (fun _ hr => XS.bipush X265.here hx rfl (hb hby at_254) hr) ?_
    refine Rch.st (fun _ hr => XS.icmpYes X265.here hx rfl (pc0 := 256) (pc' := 261) rfl (hb hby at_256) rfl (teq (by decide : (47 : Int32) = (47 : Int32))).1 (by decide) (by decide) hr) ?_
    refine Rch.st (fun _ hr => XS.iload X265.here hx rfl (hb hby at_261) rfl hr) ?_
    show Rch p.tables e below _ (T265.setTop (mkF m 263 #[.val (.int p0), .val (.int p1), .val (.int p2), .val (.int p3), .val (.int p4), .val (.int (1 : Int32)), .val (.int ch1), .val (.int ch2), .val (.int ch3), .val (.int ch4), .val (.ref b1), .val (.ref r_17), .val (.ref b27), .val (.ref b83), .val (.ref r_17), .val (.ref r_215), .val (.ref b224), .val (.ref b224), .val (.ref b224), .val (.ref r_265)] [(.int (1 : Int32))]))
    refine Rch.st (fun _ hr => XS.iconst X265.here hx rfl (hb hby at_263) hr) ?_
    refine Rch.st (fun _ hr => XS.icmpNo X265.here hx rfl (hb hby at_264) rfl (flt (by decide : ¬ ((1 : Int32) < (1 : Int32)))).1 hr) ?_
    refine Rch.st (fun _ hr => XS.aload X265.here hx rfl (hb hby at_267) rfl rfl hr) ?_
    refine Rch.st (fun _ hr => XS.bipush X265.here hx rfl (hb hby at_269) hr) ?_
    refine Rch.st (fun _ hr => own_bal X265 hx hZ258 rfl Vk265 (v := (.int ch1)) rfl (by decide) (by decide) (hb hby at_271) hr) ?_
    refine Rch.st (fun _ hr => XS.iload X265.here hx rfl (hb hby at_272) rfl hr) ?_
    refine Rch.st (fun _ hr => XS.i2b X265.here hx rfl (hb hby at_274) rfl hr) ?_
    show Rch p.tables e below _ (T265.setTop (mkF m 275 #[.val (.int p0), .val (.int p1), .val (.int p2), .val (.int p3), .val (.int p4), .val (.int (1 : Int32)), .val (.int ch1), .val (.int ch2), .val (.int ch3), .val (.int ch4), .val (.ref b1), .val (.ref r_17), .val (.ref b27), .val (.ref b83), .val (.ref r_17), .val (.ref r_215), .val (.ref b224), .val (.ref b224), .val (.ref b224), .val (.ref r_265)] [(.int (ch1.toInt8.toInt32)), (.int ch1)]))
    rw [own_i2b hch1.2]
    refine Rch.st (fun _ hr => XS.icmpYes X265.here hx rfl (pc0 := 275) (pc' := 280) rfl (hb hby at_275) rfl (teq rfl).1 (by decide) (by decide) hr) ?_
    refine Rch.st (fun _ hr => XS.iload X265.here hx rfl (hb hby at_280) rfl hr) ?_
    refine Rch.st (fun _ hr => XS.iconst X265.here hx rfl (hb hby at_282) hr) ?_
    refine Rch.st (fun _ hr => XS.icmpYes X265.here hx rfl (pc0 := 283) (pc' := 299) rfl (hb hby at_283) rfl (tlt (by decide : (1 : Int32) < (2 : Int32))).1 (by decide) (by decide) hr) ?_
    refine Rch.st (fun _ hr => XS.iload X265.here hx rfl (hb hby at_299) rfl hr) ?_
    refine Rch.st (fun _ hr => XS.iconst X265.here hx rfl (hb hby at_301) hr) ?_
    refine Rch.st (fun _ hr => XS.icmpYes X265.here hx rfl (pc0 := 302) (pc' := 318) rfl (hb hby at_302) rfl (tlt (by decide : (1 : Int32) < (3 : Int32))).1 (by decide) (by decide) hr) ?_
    show Rch p.tables e below _ (T265.setTop (mkF m 318 #[.val (.int p0), .val (.int p1), .val (.int p2), .val (.int p3), .val (.int p4), .val (.int (1 : Int32)), .val (.int ch1), .val (.int ch2), .val (.int ch3), .val (.int ch4), .val (.ref b1), .val (.ref r_17), .val (.ref b27), .val (.ref b83), .val (.ref r_17), .val (.ref r_215), .val (.ref b224), .val (.ref b224), .val (.ref b224), .val (.ref r_265)] []))
    refine Rch.st (fun _ hr => XS.aload X265.here hx rfl (hb hby at_318) rfl rfl hr) ?_
    refine Rch.st (fun _ hr => XS.bipush X265.here hx rfl (hb hby at_320) hr) ?_
    refine Rch.st (fun _ hr => XS.iload X265.here hx rfl (hb hby at_322) rfl hr) ?_
    refine Rch.st (fun _ hr => XS.iadd X265.here hx rfl (hb hby at_324) rfl hr) ?_
    refine Rch.st (fun _ hr => own_bal X265 hx hZ258 rfl Vk265 (v := (.int (62 : Int32))) rfl (by decide) (by decide) (hb hby at_325) hr) ?_
    refine Rch.st (fun _ hr => XS.bipush X265.here hx rfl (hb hby at_326) hr) ?_
    refine Rch.st (fun _ hr => XS.icmpYes X265.here hx rfl (pc0 := 328) (pc' := 333) rfl (hb hby at_328) rfl (teq (by decide : (62 : Int32) = (62 : Int32))).1 (by decide) (by decide) hr) ?_
    refine Rch.st (fun _ hr => XS.aload X265.here hx rfl (hb hby at_333) rfl rfl hr) ?_
    show Rch p.tables e below _ (T265.setTop (mkF m 335 #[.val (.int p0), .val (.int p1), .val (.int p2), .val (.int p3), .val (.int p4), .val (.int (1 : Int32)), .val (.int ch1), .val (.int ch2), .val (.int ch3), .val (.int ch4), .val (.ref b1), .val (.ref r_17), .val (.ref b27), .val (.ref b83), .val (.ref r_17), .val (.ref r_215), .val (.ref b224), .val (.ref b224), .val (.ref b224), .val (.ref r_265)] [(.ref r_265)]))
    refine Rch.st (fun _ hr => XS.bipush X265.here hx rfl (hb hby at_335) hr) ?_
    refine Rch.st (fun _ hr => XS.iload X265.here hx rfl (hb hby at_337) rfl hr) ?_
    refine Rch.st (fun _ hr => XS.iadd X265.here hx rfl (hb hby at_339) rfl hr) ?_
    refine Rch.st (fun _ hr => own_bal X265 hx hZ258 rfl Vk265 (v := (.int (60 : Int32))) rfl (by decide) (by decide) (hb hby at_340) hr) ?_
    refine Rch.st (fun _ hr => XS.bipush X265.here hx rfl (hb hby at_341) hr) ?_
    refine Rch.st (fun _ hr => XS.icmpNo X265.here hx rfl (hb hby at_343) rfl (teq (by decide : (60 : Int32) = (60 : Int32))).2 hr) ?_
    refine Rch.st (fun _ hr => XS.aload X265.here hx rfl (hb hby at_346) rfl rfl hr) ?_
    refine Rch.st (fun _ hr => XS.bipush X265.here hx rfl (hb hby at_348) hr) ?_
    show Rch p.tables e below _ (T265.setTop (mkF m 350 #[.val (.int p0), .val (.int p1), .val (.int p2), .val (.int p3), .val (.int p4), .val (.int (1 : Int32)), .val (.int ch1), .val (.int ch2), .val (.int ch3), .val (.int ch4), .val (.ref b1), .val (.ref r_17), .val (.ref b27), .val (.ref b83), .val (.ref r_17), .val (.ref r_215), .val (.ref b224), .val (.ref b224), .val (.ref b224), .val (.ref r_265)] [(.int (20 : Int32)), (.ref r_265)]))
    refine Rch.st (fun _ hr => XS.iload X265.here hx rfl (hb hby at_350) rfl hr) ?_
    refine Rch.st (fun _ hr => XS.iadd X265.here hx rfl (hb hby at_352) rfl hr) ?_
    refine Rch.st (fun _ hr => own_bal X265 hx hZ258 rfl Vk265 (v := (.int (47 : Int32))) rfl (by decide) (by decide) (hb hby at_353) hr) ?_
    refine Rch.st (fun _ hr => XS.bipush X265.here hx rfl (hb hby at_354) hr) ?_
    refine Rch.st (fun _ hr => XS.icmpYes X265.here hx rfl (pc0 := 356) (pc' := 361) rfl (hb hby at_356) rfl (teq (by decide : (47 : Int32) = (47 : Int32))).1 (by decide) (by decide) hr) ?_
    refine Rch.st (fun _ hr => XS.aload X265.here hx rfl (hb hby at_361) rfl rfl hr) ?_
    refine Rch.st (fun _ hr => XS.bipush X265.here hx rfl (hb hby at_363) hr) ?_
    refine Rch.st (fun _ hr => XS.iload X265.here hx rfl (hb hby at_365) rfl hr) ?_
    show Rch p.tables e below _ (T265.setTop (mkF m 367 #[.val (.int p0), .val (.int p1), .val (.int p2), .val (.int p3), .val (.int p4), .val (.int (1 : Int32)), .val (.int ch1), .val (.int ch2), .val (.int ch3), .val (.int ch4), .val (.ref b1), .val (.ref r_17), .val (.ref b27), .val (.ref b83), .val (.ref r_17), .val (.ref r_215), .val (.ref b224), .val (.ref b224), .val (.ref b224), .val (.ref r_265)] [(.int (1 : Int32)), (.int (21 : Int32)), (.ref r_265)]))
    refine Rch.st (fun _ hr => XS.iadd X265.here hx rfl (hb hby at_367) rfl hr) ?_
    refine Rch.st (fun _ hr => own_bal X265 hx hZ258 rfl Vk265 (v := (.int ch4)) rfl (by decide) (by decide) (hb hby at_368) hr) ?_
    refine Rch.st (fun _ hr => XS.iload X265.here hx rfl (hb hby at_369) rfl hr) ?_
    refine Rch.st (fun _ hr => XS.i2b X265.here hx rfl (hb hby at_371) rfl hr) ?_
    show Rch p.tables e below _ (T265.setTop (mkF m 372 #[.val (.int p0), .val (.int p1), .val (.int p2), .val (.int p3), .val (.int p4), .val (.int (1 : Int32)), .val (.int ch1), .val (.int ch2), .val (.int ch3), .val (.int ch4), .val (.ref b1), .val (.ref r_17), .val (.ref b27), .val (.ref b83), .val (.ref r_17), .val (.ref r_215), .val (.ref b224), .val (.ref b224), .val (.ref b224), .val (.ref r_265)] [(.int (ch4.toInt8.toInt32)), (.int ch4)]))
    rw [own_i2b hch4.2]
    refine Rch.st (fun _ hr => XS.icmpYes X265.here hx rfl (pc0 := 372) (pc' := 377) rfl (hb hby at_372) rfl (teq rfl).1 (by decide) (by decide) hr) ?_
    refine Rch.st (fun _ hr => XS.aload X265.here hx rfl (hb hby at_377) rfl rfl hr) ?_
    refine Rch.st (fun _ hr => XS.bipush X265.here hx rfl (hb hby at_379) hr) ?_
    refine Rch.st (fun _ hr => XS.iload X265.here hx rfl (hb hby at_381) rfl hr) ?_
    refine Rch.st (fun _ hr => XS.iadd X265.here hx rfl (hb hby at_383) rfl hr) ?_
    refine Rch.st (fun _ hr => own_bal X265 hx hZ258 rfl Vk265 (v := (.int (62 : Int32))) rfl (by decide) (by decide) (hb hby at_384) hr) ?_
    refine Rch.st (fun _ hr => XS.bipush X265.here hx rfl (hb hby at_385) hr) ?_
    show Rch p.tables e below _ (T265.setTop (mkF m 387 #[.val (.int p0), .val (.int p1), .val (.int p2), .val (.int p3), .val (.int p4), .val (.int (1 : Int32)), .val (.int ch1), .val (.int ch2), .val (.int ch3), .val (.int ch4), .val (.ref b1), .val (.ref r_17), .val (.ref b27), .val (.ref b83), .val (.ref r_17), .val (.ref r_215), .val (.ref b224), .val (.ref b224), .val (.ref b224), .val (.ref r_265)] [(.int (62 : Int32)), (.int (62 : Int32))]))
    refine Rch.st (fun _ hr => XS.icmpNo X265.here hx rfl (hb hby at_387) rfl (teq (by decide : (62 : Int32) = (62 : Int32))).2 hr) ?_
    refine Rch.st (fun _ hr => XS.iconst X265.here hx rfl (hb hby at_390) hr) ?_
    refine Rch.st (fun _ hr => XS.goto X265.here hx rfl (pc0 := 391) (pc' := 395) rfl (hb hby at_391) (by decide) (by decide) hr) ?_
    obtain ⟨fs, hr, hrun, hended, hREW⟩ := Jvm.Stand.leaveW (s := s) (vm₁ := T258.vm) X265 hS258 (Nat.le_trans (Nat.le_refl _) Kp265.1) (v := some (.int (1 : Int32))) (fun h => by rw [Bd.returns] at h; cases h)
    have hCE : CHr Z consts_1 s.vm s.heap T265.vm T265.heap := by rw [hh]; exact CR277.trans (CHv.at (s := s) (vm0 := T258.vm) X265 hZ258 (own_EW hw) CR277.1)
    refine Rch.fin (u := T265.setFrames fs) (retN X265 hx (t := .boolean) Bd.returns (by simp) (hb hby at_395) hr) ⟨_, hrun, hended, _, _, rfl, ?_, hCE, hREW.1, hREW.2.1, hREW.2.2.1, hREW.2.2.2.mono (by decide) (by decide)⟩
    show Q_claw Z p0 p1 p2 p3 p4 cs u h0 n0 _ T265.heap _ T265.vm
    exact ⟨rfl, N265, K278, Op265⟩
  · rw [hn]
    show Rch p.tables e below _ (T128.setTop (mkF m 102 #[.val (.int p0), .val (.int p1), .val (.int p2), .val (.int p3), .val (.int p4), .val (.int (2 : Int32)), .val (.int ch1), .val (.int ch2), .val (.int ch3), .val (.int ch4), .val (.ref b1), .val (.ref r_17), .val (.ref b27), .val (.ref b83), .unset, .unset, .unset, .unset, .unset, .unset] []))
    refine Rch.st (fun _ hr => XS.iload X128.here hx rfl (hb hby at_102) rfl hr) ?_
    refine Rch.st (fun _ hr => XS.ifYes X128.here hx rfl (pc0 := 104) (pc' := 112) rfl (hb hby at_104) rfl ((if0 _ _).trans (feq (by decide : ¬ ((2 : Int32) = (0 : Int32)))).2) (by decide) (by decide) hr) ?_
    refine Rch.st (fun _ hr => XS.iload X128.here hx rfl (hb hby at_112) rfl hr) ?_
    refine Rch.st (fun _ hr => XS.iconst X128.here hx rfl (hb hby at_114) hr) ?_
    refine Rch.st (fun _ hr => XS.icmpYes X128.here hx rfl (pc0 := 115) (pc' := 123) rfl (hb hby at_115) rfl (feq (by decide : ¬ ((2 : Int32) = (1 : Int32)))).2 (by decide) (by decide) hr) ?_
    refine Rch.st (fun _ hr => XS.iload X128.here hx rfl (hb hby at_123) rfl hr) ?_
    refine Rch.st (fun _ hr => XS.iconst X128.here hx rfl (hb hby at_125) hr) ?_
    refine Rch.st (fun _ hr => XS.icmpNo X128.here hx rfl (hb hby at_126) rfl (teq (by decide : (2 : Int32) = (2 : Int32))).2 hr) ?_
    show Rch p.tables e below _ (T128.setTop (mkF m 129 #[.val (.int p0), .val (.int p1), .val (.int p2), .val (.int p3), .val (.int p4), .val (.int (2 : Int32)), .val (.int ch1), .val (.int ch2), .val (.int ch3), .val (.int ch4), .val (.ref b1), .val (.ref r_17), .val (.ref b27), .val (.ref b83), .unset, .unset, .unset, .unset, .unset, .unset] []))
    refine Rch.st (fun _ hr => XS.aload X128.here hx rfl (hb hby at_129) rfl rfl hr) ?_
    refine Rch.st (fun _ hr => XS.goto X128.here hx rfl (pc0 := 131) (pc' := 136) rfl (hb hby at_131) (by decide) (by decide) hr) ?_
    refine Rch.st (fun _ hr => XS.astore X128.here hx rfl (hb hby at_136) rfl rfl (l' := #[.val (.int p0), .val (.int p1), .val (.int p2), .val (.int p3), .val (.int p4), .val (.int (2 : Int32)), .val (.int ch1), .val (.int ch2), .val (.int ch3), .val (.int ch4), .val (.ref b1), .val (.ref r_17), .val (.ref b27), .val (.ref b83), .val (.ref b27), .unset, .unset, .unset, .unset, .unset]) rfl hr) ?_
    refine Rch.st (fun _ hr => XS.iload X128.here hx rfl (hb hby at_138) rfl hr) ?_
    obtain ⟨_, T280, Lc280, X280, hQ280, st280⟩ := own_callS X128 hx hZ9 (y := Y_37) hown9 (own_w hw 22 rfl) (own_w hw 23 rfl) (own_w hw 2 rfl) (own_w hw 24 rfl) (by decide) (W := 0) (cvof l Z a0 hw [] ch4 cs T128.heap n0 zD0 Op128 hch4.2 hcs) (by decide) (by decide) rfl (by decide) (by decide) (g := (mkF m 140 #[.val (.int p0), .val (.int p1), .val (.int p2), .val (.int p3), .val (.int p4), .val (.int (2 : Int32)), .val (.int ch1), .val (.int ch2), .val (.int ch3), .val (.int ch4), .val (.ref b1), .val (.ref r_17), .val (.ref b27), .val (.ref b83), .val (.ref b27), .unset, .unset, .unset, .unset, .unset] [(.int ch4)])) rfl (by rw [hml]; rfl) (argsL := [(.int ch4)]) (rest := []) (lenOf pd_31 rfl) rfl (own_mr rfl rfl) (hb hby at_140) rfl
    obtain ⟨r_280, bx_280, kb_280, rfl, N280q, Kp280, Op280, R280_0, R280_1, R280_2, R280_3, R280_4, R280_5, R280_6⟩ := hQ280
    have N280 := Fr.app N128 N280q
    refine Rch.st st280 ?_
    have f281 := (f141.keep Kp128 (ninS ne92 nin0))
    have ne282 := Nat.ne_of_lt (Nat.lt_of_lt_of_le f281.lt R280_0)
    have f283 := (f143.keep Kp128 (ninS ne93 nin0))
    have ne284 := Nat.ne_of_lt (Nat.lt_of_lt_of_le f283.lt R280_0)
    have g_r_280 : n0 ≤ r_280 := Nat.le_trans (Nat.le_trans (Nat.le_of_eq Op128.1.symm) Op128.2.1) R280_0
    have sz_r_280 : h0.size ≤ r_280 := Nat.le_trans K149.1 R280_0
    have ne285 := Nat.ne_of_lt (Nat.lt_of_lt_of_le f281.lt R280_4)
    have ne286 := Nat.ne_of_lt (Nat.lt_of_lt_of_le f283.lt R280_4)
    have g_bx_280 : n0 ≤ bx_280 := Nat.le_trans (Nat.le_trans (Nat.le_of_eq Op128.1.symm) Op128.2.1) R280_4
    have sz_bx_280 : h0.size ≤ bx_280 := Nat.le_trans K149.1 R280_4
    have cs287 := CHr.keep Kp280 sf0 CR148.1
    have CR287 := CR148.trans cs287
    have K288 := K149.trans Kp280 all0
    refine Rch.st (fun _ hr => XS.astore X280.here hx rfl (hb hby at_143) rfl rfl (l' := #[.val (.int p0), .val (.int p1), .val (.int p2), .val (.int p3), .val (.int p4), .val (.int (2 : Int32)), .val (.int ch1), .val (.int ch2), .val (.int ch3), .val (.int ch4), .val (.ref b1), .val (.ref r_17), .val (.ref b27), .val (.ref b83), .val (.ref b27), .val (.ref r_280), .unset, .unset, .unset, .unset]) rfl hr) ?_
    obtain ⟨T289, h289, X289, e289, E289, A289, D289, -, st289⟩ := newO X280 hx hZ9 hown9 (own_w hw 47 rfl) (own_w hw 48 rfl) (own_w hw 49 rfl) rfl (g := (mkF m 145 #[.val (.int p0), .val (.int p1), .val (.int p2), .val (.int p3), .val (.int p4), .val (.int (2 : Int32)), .val (.int ch1), .val (.int ch2), .val (.int ch3), .val (.int ch4), .val (.ref b1), .val (.ref r_17), .val (.ref b27), .val (.ref b83), .val (.ref b27), .val (.ref r_280), .unset, .unset, .unset, .unset] [])) rfl (hb hby at_145) (by decide) (by decide)
    obtain ⟨b289, g289⟩ : ∃ z, z = T280.heap.size := ⟨_, rfl⟩
    rw [← g289] at A289 D289 st289
    refine Rch.st st289 ?_
    have q289 : T280.heap.size ≤ b289 := Nat.le_of_eq g289.symm
    have f290 := (f281.keep Kp280 nin0)
    have ne291 := Nat.ne_of_lt (Nat.lt_of_lt_of_le f290.lt q289)
    have f292 := (f283.keep Kp280 nin0)
    have ne293 := Nat.ne_of_lt (Nat.lt_of_lt_of_le f292.lt q289)
    have ne294 := Nat.ne_of_lt (Nat.lt_of_lt_of_le R280_3.lt q289)
    have ne295 := Nat.ne_of_lt (Nat.lt_of_lt_of_le R280_5.lt q289)
    have g_b289 : n0 ≤ b289 := Nat.le_trans (Nat.le_trans (Nat.le_of_eq Op280.1.symm) Op280.2.1) q289
    have sz_b289 : h0.size ≤ b289 := Nat.le_trans K288.1 q289
    have cs296 := CHr.ext E289 CR287.1
    have CR296 := CR287.trans cs296
    have K297 := K288.ext E289
    have F289_out : Fld Z h289 b289 "com/example/orrery/orrery/server/Html" "out" "Ljava/lang/StringBuilder;" .null := D289 (Or.inr (own_w hw 126 rfl)) (ty := (.object "java/lang/StringBuilder")) (by decide)
    refine Rch.st (fun _ hr => XS.dup X289.here hx rfl (hb hby at_148) rfl rfl hr) ?_
    show Rch p.tables e below _ (T289.setTop (mkF m 149 #[.val (.int p0), .val (.int p1), .val (.int p2), .val (.int p3), .val (.int p4), .val (.int (2 : Int32)), .val (.int ch1), .val (.int ch2), .val (.int ch3), .val (.int ch4), .val (.ref b1), .val (.ref r_17), .val (.ref b27), .val (.ref b83), .val (.ref b27), .val (.ref r_280), .unset, .unset, .unset, .unset] [(.ref b289), (.ref b289)]))
    have f299 := (Op280.ext E289)
    obtain ⟨_, T298, Lc298, X298, hQ298, hC298, hS298, hZ298, hown298, st298⟩ := own_callIH (s := s) (vm0 := T9.vm) X289 hx hZ9 hS9 (Nat.le_trans (Nat.le_trans (Nat.le_trans (Nat.le_trans (Nat.le_trans (Nat.le_trans (Nat.le_trans (Nat.le_trans (Nat.le_trans (Nat.le_trans (Nat.le_trans (Nat.le_trans (Nat.le_trans (Nat.le_trans (Nat.le_refl _) Kp17.1) E27.1) E38.1) (Keep.of_wr W54).1) (Keep.of_wr W59).1) Kp63.1) E83.1) E96.1) (Keep.of_wr W114).1) (Keep.of_wr W119).1) (Keep.of_wr W124).1) Kp128.1) Kp280.1) E289.1) (own_EW hw) CR296.1 (xs := []) all0 (y := Y_38) rfl hown9 (own_w hw 50 rfl) (own_w hw 51 rfl) (own_w hw 49 rfl) (own_w hw 52 rfl) (by decide) (W := 1) (chtml l Z a0 hw [] b289 cs h289 n0 zD0 f299 A289 F289_out g_b289 hcs) (by decide) (by decide) e289 (by decide) (by decide) (g := (mkF m 149 #[.val (.int p0), .val (.int p1), .val (.int p2), .val (.int p3), .val (.int p4), .val (.int (2 : Int32)), .val (.int ch1), .val (.int ch2), .val (.int ch3), .val (.int ch4), .val (.ref b1), .val (.ref r_17), .val (.ref b27), .val (.ref b83), .val (.ref b27), .val (.ref r_280), .unset, .unset, .unset, .unset] [(.ref b289), (.ref b289)])) rfl (by rw [hml]; rfl) (a := b289) (argsL := []) (rest := [(.ref b289)]) (lenOf pd_32 rfl) rfl (own_mr rfl rfl) (hb hby at_149) rfl
    obtain ⟨sb_298, d_298, kd_298, rfl, N298q, Kp298, Op298, R298_0, R298_1, R298_2, R298_3, R298_4, R298_5, R298_6, R298_7, R298_8, R298_9, R298_10⟩ := hQ298
    have N298 := Fr.app N280 N298q
    refine Rch.st st298 ?_
    have f300 := (f290.ext E289)
    have ne301 := Nat.ne_of_lt (Nat.lt_of_lt_of_le f300.lt R298_2)
    have f302 := (f292.ext E289)
    have ne303 := Nat.ne_of_lt (Nat.lt_of_lt_of_le f302.lt R298_2)
    have f304 := (R280_3.ext E289)
    have ne305 := Nat.ne_of_lt (Nat.lt_of_lt_of_le f304.lt R298_2)
    have f306 := (R280_5.ext E289)
    have ne307 := Nat.ne_of_lt (Nat.lt_of_lt_of_le f306.lt R298_2)
    have ne308 := Nat.ne_of_lt (Nat.lt_of_lt_of_le F289_out.lt R298_2)
    have g_sb_298 : n0 ≤ sb_298 := Nat.le_trans (Nat.le_trans (Nat.le_of_eq f299.1.symm) f299.2.1) R298_2
    have sz_sb_298 : h0.size ≤ sb_298 := Nat.le_trans K297.1 R298_2
    have ne309 := Nat.ne_of_lt (Nat.lt_of_lt_of_le f300.lt R298_7)
    have ne310 := Nat.ne_of_lt (Nat.lt_of_lt_of_le f302.lt R298_7)
    have ne311 := Nat.ne_of_lt (Nat.lt_of_lt_of_le f304.lt R298_7)
    have ne312 := Nat.ne_of_lt (Nat.lt_of_lt_of_le f306.lt R298_7)
    have ne313 := Nat.ne_of_lt (Nat.lt_of_lt_of_le F289_out.lt R298_7)
    have g_d_298 : n0 ≤ d_298 := Nat.le_trans (Nat.le_trans (Nat.le_of_eq f299.1.symm) f299.2.1) R298_7
    have sz_d_298 : h0.size ≤ d_298 := Nat.le_trans K297.1 R298_7
    have CR314 := CR296.trans hC298
    have K315 := K297.trans Kp298 (allS (Or.inr sz_b289) all0)
    refine Rch.st (fun _ hr => XS.astore X298.here hx rfl (hb hby at_152) rfl rfl (l' := #[.val (.int p0), .val (.int p1), .val (.int p2), .val (.int p3), .val (.int p4), .val (.int (2 : Int32)), .val (.int ch1), .val (.int ch2), .val (.int ch3), .val (.int ch4), .val (.ref b1), .val (.ref r_17), .val (.ref b27), .val (.ref b83), .val (.ref b27), .val (.ref r_280), .val (.ref b289), .unset, .unset, .unset]) rfl hr) ?_
    refine Rch.st (fun _ hr => XS.aload X298.here hx rfl (hb hby at_154) rfl rfl hr) ?_
    refine Rch.st (fun _ hr => XS.aload X298.here hx rfl (hb hby at_156) rfl rfl hr) ?_
    have f317 := (((((((((R63_0.ext E83).ext E96).wr W114).wr W119).wr W124).keep Kp128).keep Kp280).ext E289).keep Kp298)
    have f318 := (((((((((R63_1.ext E83).ext E96).other W114 (Or.inl ne106)).other W119 (Or.inl ne106)).other W124 (Or.inl ne106)).keep Kp128 (ninS ne92 nin0)).keep Kp280 nin0).ext E289).keep Kp298 (ninS ne291 nin0))
    have f319 := (f300.keep Kp298 (ninS ne291 nin0))
    have f320 := (f302.keep Kp298 (ninS ne293 nin0))
    obtain ⟨_, T316, Lc316, X316, hQ316, hC316, hS316, hZ316, hown316, st316⟩ := own_callVH (s := s) (vm0 := T298.vm) X298 hx hZ298 hS298 (Nat.le_refl _) (own_EW hw) CR314.1 (xs := [d_298]) (allS ⟨R298_8.lt, R298_9⟩ all0) (y := Y_39) (z := Y_39) hown298 (own_w hw 127 rfl) (own_w hw 128 rfl) (notFace_of_selects (args := #[]) (mvT hZ298 (own_w hw 130 rfl))) (own_w hw 130 rfl) (own_w hw 129 rfl) (own_w hw 49 rfl) (own_w hw 131 rfl) (by decide) (W := 0) (cclose l Z a0 hw [] b289 sb_298 d_298 kd_298 [(.int (60 : Int32)), (.int (33 : Int32)), (.int (68 : Int32)), (.int (79 : Int32)), (.int (67 : Int32)), (.int (84 : Int32)), (.int (89 : Int32)), (.int (80 : Int32)), (.int (69 : Int32)), (.int (32 : Int32)), (.int (104 : Int32)), (.int (116 : Int32)), (.int (109 : Int32)), (.int (108 : Int32)), (.int (62 : Int32)), (.int (10 : Int32)), (.int (0 : Int32)), (.int (0 : Int32)), (.int (0 : Int32)), (.int (0 : Int32)), (.int (0 : Int32)), (.int (0 : Int32)), (.int (0 : Int32)), (.int (0 : Int32)), (.int (0 : Int32)), (.int (0 : Int32)), (.int (0 : Int32)), (.int (0 : Int32)), (.int (0 : Int32)), (.int (0 : Int32)), (.int (0 : Int32)), (.int (0 : Int32))] (16 : Int32) b27 bx_63 kb_63 (2 : Int32) [(.int ch1), (.int ch2)] cs T298.heap n0 zD0 Op298 R298_0 R298_1 R298_3 R298_4 R298_5 R298_6 R298_8 f317 f318 f319 f320 g_sb_298 g_d_298 ne310 R298_10 hcs (by decide) rfl (by decide) (by decide) (by decide) (by decide) (by decide) (by decide) (by decide) (by decide) (by decide) (by decide)) (by decide) (by decide) rfl R298_0 (by decide) (by decide) (g := (mkF m 158 #[.val (.int p0), .val (.int p1), .val (.int p2), .val (.int p3), .val (.int p4), .val (.int (2 : Int32)), .val (.int ch1), .val (.int ch2), .val (.int ch3), .val (.int ch4), .val (.ref b1), .val (.ref r_17), .val (.ref b27), .val (.ref b83), .val (.ref b27), .val (.ref r_280), .val (.ref b289), .unset, .unset, .unset] [(.ref b27), (.ref b289)])) rfl (by rw [hml]; rfl) (argsL := [(.ref b27)]) (rest := []) (lenOf pd_33 rfl) rfl (own_mr rfl rfl) (hb hby at_158) rfl
    obtain ⟨rfl, N316q, Kp316, Op316, R316_0, R316_1, R316_2, R316_3, R316_4, R316_5, R316_6, R316_7⟩ := hQ316
    have N316 := Fr.app N298 N316q
    refine Rch.st st316 ?_
    have CR321 := CR314.trans hC316
    have K322 := K315.trans Kp316 (allS (Or.inr sz_sb_298) (allS (Or.inr sz_d_298) all0))
    have Fk316 : Fld Z T316.heap sb_298 "java/lang/AbstractStringBuilder" "count" "I" (.int (21 : Int32)) := R316_5
    have Vk316 : Arv Z T316.heap d_298 kd_298 .byte (32 : Int32) [(.int (60 : Int32)), (.int (33 : Int32)), (.int (68 : Int32)), (.int (79 : Int32)), (.int (67 : Int32)), (.int (84 : Int32)), (.int (89 : Int32)), (.int (80 : Int32)), (.int (69 : Int32)), (.int (32 : Int32)), (.int (104 : Int32)), (.int (116 : Int32)), (.int (109 : Int32)), (.int (108 : Int32)), (.int (62 : Int32)), (.int (10 : Int32)), (.int (60 : Int32)), (.int (47 : Int32)), (.int ch1), (.int ch2), (.int (62 : Int32)), (.int (0 : Int32)), (.int (0 : Int32)), (.int (0 : Int32)), (.int (0 : Int32)), (.int (0 : Int32)), (.int (0 : Int32)), (.int (0 : Int32)), (.int (0 : Int32)), (.int (0 : Int32)), (.int (0 : Int32)), (.int (0 : Int32))] (.int (0 : Int32)) := R316_6
    refine Rch.st (fun _ hr => XS.astore X316.here hx rfl (hb hby at_161) rfl rfl (l' := #[.val (.int p0), .val (.int p1), .val (.int p2), .val (.int p3), .val (.int p4), .val (.int (2 : Int32)), .val (.int ch1), .val (.int ch2), .val (.int ch3), .val (.int ch4), .val (.ref b1), .val (.ref r_17), .val (.ref b27), .val (.ref b83), .val (.ref b27), .val (.ref r_280), .val (.ref b289), .val (.ref b289), .unset, .unset]) rfl hr) ?_
    refine Rch.st (fun _ hr => XS.aload X316.here hx rfl (hb hby at_163) rfl rfl hr) ?_
    refine Rch.st (fun _ hr => XS.aload X316.here hx rfl (hb hby at_165) rfl rfl hr) ?_
    show Rch p.tables e below _ (T316.setTop (mkF m 167 #[.val (.int p0), .val (.int p1), .val (.int p2), .val (.int p3), .val (.int p4), .val (.int (2 : Int32)), .val (.int ch1), .val (.int ch2), .val (.int ch3), .val (.int ch4), .val (.ref b1), .val (.ref r_17), .val (.ref b27), .val (.ref b83), .val (.ref b27), .val (.ref r_280), .val (.ref b289), .val (.ref b289), .unset, .unset] [(.ref r_280), (.ref b289)]))
    have f324 := (((R280_1.ext E289).keep Kp298).keep Kp316)
    have f325 := (((R280_2.ext E289).keep Kp298 (ninS ne294 nin0)).keep Kp316 (ninS ne305 (ninS ne311 nin0)))
    have f326 := ((f304.keep Kp298 (ninS ne294 nin0)).keep Kp316 (ninS ne305 (ninS ne311 nin0)))
    have f327 := ((f306.keep Kp298 (ninS ne295 nin0)).keep Kp316 (ninS ne307 (ninS ne312 nin0)))
    obtain ⟨_, T323, Lc323, X323, hQ323, hC323, hS323, hZ323, hown323, st323⟩ := own_callVH (s := s) (vm0 := T316.vm) X316 hx hZ316 hS316 (Nat.le_refl _) (own_EW hw) CR321.1 (xs := [d_298]) (allS ⟨R316_6.lt, R316_7⟩ all0) (y := Y_39) (z := Y_39) hown316 (own_w hw 127 rfl) (own_w hw 128 rfl) (notFace_of_selects (args := #[]) (mvT hZ316 (own_w hw 130 rfl))) (own_w hw 130 rfl) (own_w hw 129 rfl) (own_w hw 49 rfl) (own_w hw 131 rfl) (by decide) (W := 0) (cclose l Z a0 hw [] b289 sb_298 d_298 kd_298 [(.int (60 : Int32)), (.int (33 : Int32)), (.int (68 : Int32)), (.int (79 : Int32)), (.int (67 : Int32)), (.int (84 : Int32)), (.int (89 : Int32)), (.int (80 : Int32)), (.int (69 : Int32)), (.int (32 : Int32)), (.int (104 : Int32)), (.int (116 : Int32)), (.int (109 : Int32)), (.int (108 : Int32)), (.int (62 : Int32)), (.int (10 : Int32)), (.int (60 : Int32)), (.int (47 : Int32)), (.int ch1), (.int ch2), (.int (62 : Int32)), (.int (0 : Int32)), (.int (0 : Int32)), (.int (0 : Int32)), (.int (0 : Int32)), (.int (0 : Int32)), (.int (0 : Int32)), (.int (0 : Int32)), (.int (0 : Int32)), (.int (0 : Int32)), (.int (0 : Int32)), (.int (0 : Int32))] (21 : Int32) r_280 bx_280 kb_280 (1 : Int32) [(.int ch4)] cs T316.heap n0 zD0 Op316 R316_0 R316_1 R316_2 R316_3 R316_4 Fk316 Vk316 f324 f325 f326 f327 g_sb_298 g_d_298 ne312 R298_10 hcs (by decide) rfl (by decide) (by decide) (by decide) (by decide) (by decide) (by decide) (by decide) (by decide) (by decide) (by decide)) (by decide) (by decide) rfl R316_0 (by decide) (by decide) (g := (mkF m 167 #[.val (.int p0), .val (.int p1), .val (.int p2), .val (.int p3), .val (.int p4), .val (.int (2 : Int32)), .val (.int ch1), .val (.int ch2), .val (.int ch3), .val (.int ch4), .val (.ref b1), .val (.ref r_17), .val (.ref b27), .val (.ref b83), .val (.ref b27), .val (.ref r_280), .val (.ref b289), .val (.ref b289), .unset, .unset] [(.ref r_280), (.ref b289)])) rfl (by rw [hml]; rfl) (argsL := [(.ref r_280)]) (rest := []) (lenOf pd_33 rfl) rfl (own_mr rfl rfl) (hb hby at_167) rfl
    obtain ⟨rfl, N323q, Kp323, Op323, R323_0, R323_1, R323_2, R323_3, R323_4, R323_5, R323_6, R323_7⟩ := hQ323
    have N323 := Fr.app N316 N323q
    refine Rch.st st323 ?_
    have CR328 := CR321.trans hC323
    have K329 := K322.trans Kp323 (allS (Or.inr sz_sb_298) (allS (Or.inr sz_d_298) all0))
    have Fk323 : Fld Z T323.heap sb_298 "java/lang/AbstractStringBuilder" "count" "I" (.int (25 : Int32)) := R323_5
    have Vk323 : Arv Z T323.heap d_298 kd_298 .byte (32 : Int32) [(.int (60 : Int32)), (.int (33 : Int32)), (.int (68 : Int32)), (.int (79 : Int32)), (.int (67 : Int32)), (.int (84 : Int32)), (.int (89 : Int32)), (.int (80 : Int32)), (.int (69 : Int32)), (.int (32 : Int32)), (.int (104 : Int32)), (.int (116 : Int32)), (.int (109 : Int32)), (.int (108 : Int32)), (.int (62 : Int32)), (.int (10 : Int32)), (.int (60 : Int32)), (.int (47 : Int32)), (.int ch1), (.int ch2), (.int (62 : Int32)), (.int (60 : Int32)), (.int (47 : Int32)), (.int ch4), (.int (62 : Int32)), (.int (0 : Int32)), (.int (0 : Int32)), (.int (0 : Int32)), (.int (0 : Int32)), (.int (0 : Int32)), (.int (0 : Int32)), (.int (0 : Int32))] (.int (0 : Int32)) := R323_6
    refine Rch.st (fun _ hr => XS.astore X323.here hx rfl (hb hby at_170) rfl rfl (l' := #[.val (.int p0), .val (.int p1), .val (.int p2), .val (.int p3), .val (.int p4), .val (.int (2 : Int32)), .val (.int ch1), .val (.int ch2), .val (.int ch3), .val (.int ch4), .val (.ref b1), .val (.ref r_17), .val (.ref b27), .val (.ref b83), .val (.ref b27), .val (.ref r_280), .val (.ref b289), .val (.ref b289), .val (.ref b289), .unset]) rfl hr) ?_
    refine Rch.st (fun _ hr => XS.aload X323.here hx rfl (hb hby at_172) rfl rfl hr) ?_
    refine Rch.st (fun _ hr => XS.aload X323.here hx rfl (hb hby at_174) rfl rfl hr) ?_
    refine Rch.st (fun _ hr => Jvm.RoadKit.acmp (g := (mkF m 176 #[.val (.int p0), .val (.int p1), .val (.int p2), .val (.int p3), .val (.int p4), .val (.int (2 : Int32)), .val (.int ch1), .val (.int ch2), .val (.int ch3), .val (.int ch4), .val (.ref b1), .val (.ref r_17), .val (.ref b27), .val (.ref b83), .val (.ref b27), .val (.ref r_280), .val (.ref b289), .val (.ref b289), .val (.ref b289), .unset] [(.ref b289), (.ref b289)])) X323 hx rfl rfl rfl (pc0 := 176) (pc' := 179) (same := true) rfl (hb hby at_176) rfl (decide_eq_true rfl) (by decide) (by decide) hr) ?_
    refine Rch.st (fun _ hr => XS.aload X323.here hx rfl (hb hby at_179) rfl rfl hr) ?_
    refine Rch.st (fun _ hr => XS.aload X323.here hx rfl (hb hby at_181) rfl rfl hr) ?_
    refine Rch.st (fun _ hr => Jvm.RoadKit.acmp (g := (mkF m 183 #[.val (.int p0), .val (.int p1), .val (.int p2), .val (.int p3), .val (.int p4), .val (.int (2 : Int32)), .val (.int ch1), .val (.int ch2), .val (.int ch3), .val (.int ch4), .val (.ref b1), .val (.ref r_17), .val (.ref b27), .val (.ref b83), .val (.ref b27), .val (.ref r_280), .val (.ref b289), .val (.ref b289), .val (.ref b289), .unset] [(.ref b289), (.ref b289)])) X323 hx rfl rfl rfl (pc0 := 183) (pc' := 188) (same := true) rfl (hb hby at_183) rfl (decide_eq_true rfl) (by decide) (by decide) hr) ?_
    show Rch p.tables e below _ (T323.setTop (mkF m 188 #[.val (.int p0), .val (.int p1), .val (.int p2), .val (.int p3), .val (.int p4), .val (.int (2 : Int32)), .val (.int ch1), .val (.int ch2), .val (.int ch3), .val (.int ch4), .val (.ref b1), .val (.ref r_17), .val (.ref b27), .val (.ref b83), .val (.ref b27), .val (.ref r_280), .val (.ref b289), .val (.ref b289), .val (.ref b289), .unset] []))
    refine Rch.st (fun _ hr => XS.aload X323.here hx rfl (hb hby at_188) rfl rfl hr) ?_
    obtain ⟨_, T330, Lc330, X330, hQ330, st330⟩ := own_callV X323 hx hZ323 (y := Y_40) (z := Y_40) hown323 (own_w hw 149 rfl) (own_w hw 150 rfl) (notFace_of_selects (args := #[]) (mvT hZ323 (own_w hw 152 rfl))) (own_w hw 152 rfl) (own_w hw 151 rfl) (own_w hw 49 rfl) (own_w hw 153 rfl) (by decide) (W := 0) (cbytes l Z a0 hw [] b289 sb_298 d_298 kd_298 [(.int (60 : Int32)), (.int (33 : Int32)), (.int (68 : Int32)), (.int (79 : Int32)), (.int (67 : Int32)), (.int (84 : Int32)), (.int (89 : Int32)), (.int (80 : Int32)), (.int (69 : Int32)), (.int (32 : Int32)), (.int (104 : Int32)), (.int (116 : Int32)), (.int (109 : Int32)), (.int (108 : Int32)), (.int (62 : Int32)), (.int (10 : Int32)), (.int (60 : Int32)), (.int (47 : Int32)), (.int ch1), (.int ch2), (.int (62 : Int32)), (.int (60 : Int32)), (.int (47 : Int32)), (.int ch4), (.int (62 : Int32)), (.int (0 : Int32)), (.int (0 : Int32)), (.int (0 : Int32)), (.int (0 : Int32)), (.int (0 : Int32)), (.int (0 : Int32)), (.int (0 : Int32))] (25 : Int32) u cs T323.heap n0 zD0 zD1 zD2 Op323 R323_0 R323_1 R323_2 R323_3 R323_4 Fk323 Vk323 (by decide) (by decide) (by decide) (by decide) rfl hcs (own_posC (by decide) (own_posC (by decide) (own_posC (by decide) (own_posC (by decide) (own_posC (by decide) (own_posC (by decide) (own_posC (by decide) (own_posC (by decide) (own_posC (by decide) (own_posC (by decide) (own_posC (by decide) (own_posC (by decide) (own_posC (by decide) (own_posC (by decide) (own_posC (by decide) (own_posC (by decide) (own_posC (by decide) (own_posC (by decide) (own_posC (own_A0 hch1.2) (own_posC (own_A0 hch2.2) (own_posC (by decide) (own_posC (by decide) (own_posC (by decide) (own_posC (own_A0 hch4.2) (own_posC (by decide) own_posZ)))))))))))))))))))))))))) (by decide) (by decide) rfl R323_0 (by decide) (by decide) (g := (mkF m 190 #[.val (.int p0), .val (.int p1), .val (.int p2), .val (.int p3), .val (.int p4), .val (.int (2 : Int32)), .val (.int ch1), .val (.int ch2), .val (.int ch3), .val (.int ch4), .val (.ref b1), .val (.ref r_17), .val (.ref b27), .val (.ref b83), .val (.ref b27), .val (.ref r_280), .val (.ref b289), .val (.ref b289), .val (.ref b289), .unset] [(.ref b289)])) rfl (by rw [hml]; rfl) (argsL := []) (rest := []) (lenOf pd_21 rfl) rfl (own_mr rfl rfl) (hb hby at_190) rfl
    obtain ⟨r_330, kr_330, rfl, N330q, Kp330, Op330, R330_0, R330_1⟩ := hQ330
    have N330 := Fr.app N323 N330q
    refine Rch.st st330 ?_
    have f331 := ((f319.keep Kp316 (ninS ne301 (ninS ne309 nin0))).keep Kp323 (ninS ne301 (ninS ne309 nin0)))
    have ne332 := Nat.ne_of_lt (Nat.lt_of_lt_of_le f331.lt R330_0)
    have f333 := ((f320.keep Kp316 (ninS ne303 (ninS ne310 nin0))).keep Kp323 (ninS ne303 (ninS ne310 nin0)))
    have ne334 := Nat.ne_of_lt (Nat.lt_of_lt_of_le f333.lt R330_0)
    have f335 := (f326.keep Kp323 (ninS ne305 (ninS ne311 nin0)))
    have ne336 := Nat.ne_of_lt (Nat.lt_of_lt_of_le f335.lt R330_0)
    have f337 := (f327.keep Kp323 (ninS ne307 (ninS ne312 nin0)))
    have ne338 := Nat.ne_of_lt (Nat.lt_of_lt_of_le f337.lt R330_0)
    have ne339 := Nat.ne_of_lt (Nat.lt_of_lt_of_le R323_1.lt R330_0)
    have ne340 := Nat.ne_of_lt (Nat.lt_of_lt_of_le Fk323.lt R330_0)
    have ne341 := Nat.ne_of_lt (Nat.lt_of_lt_of_le Vk323.lt R330_0)
    have g_r_330 : n0 ≤ r_330 := Nat.le_trans (Nat.le_trans (Nat.le_of_eq Op323.1.symm) Op323.2.1) R330_0
    have sz_r_330 : h0.size ≤ r_330 := Nat.le_trans K329.1 R330_0
    have cs342 := CHr.keep Kp330 sf0 CR328.1
    have CR342 := CR328.trans cs342
    have K343 := K329.trans Kp330 all0
    have Vk330 : Arv Z T330.heap r_330 kr_330 .byte (25 : Int32) [(.int (60 : Int32)), (.int (33 : Int32)), (.int (68 : Int32)), (.int (79 : Int32)), (.int (67 : Int32)), (.int (84 : Int32)), (.int (89 : Int32)), (.int (80 : Int32)), (.int (69 : Int32)), (.int (32 : Int32)), (.int (104 : Int32)), (.int (116 : Int32)), (.int (109 : Int32)), (.int (108 : Int32)), (.int (62 : Int32)), (.int (10 : Int32)), (.int (60 : Int32)), (.int (47 : Int32)), (.int ch1), (.int ch2), (.int (62 : Int32)), (.int (60 : Int32)), (.int (47 : Int32)), (.int ch4), (.int (62 : Int32)), (.int (0 : Int32))] (.int (0 : Int32)) := R330_1
    refine Rch.st (fun _ hr => XS.astore X330.here hx rfl (hb hby at_193) rfl rfl (l' := #[.val (.int p0), .val (.int p1), .val (.int p2), .val (.int p3), .val (.int p4), .val (.int (2 : Int32)), .val (.int ch1), .val (.int ch2), .val (.int ch3), .val (.int ch4), .val (.ref b1), .val (.ref r_17), .val (.ref b27), .val (.ref b83), .val (.ref b27), .val (.ref r_280), .val (.ref b289), .val (.ref b289), .val (.ref b289), .val (.ref r_330)]) rfl hr) ?_
    refine Rch.st (fun _ hr => XS.aload X330.here hx rfl (hb hby at_195) rfl rfl hr) ?_
    obtain ⟨cl344, Ar344, -, Sz344, Ng344, -, -⟩ := id Vk330
    refine Rch.st (fun t hr => X330.arraylength hx Ar344.1 (State.isArrayOf_alike hZ323.alike Ar344.2.1) (g := (mkF m 197 #[.val (.int p0), .val (.int p1), .val (.int p2), .val (.int p3), .val (.int p4), .val (.int (2 : Int32)), .val (.int ch1), .val (.int ch2), .val (.int ch3), .val (.int ch4), .val (.ref b1), .val (.ref r_17), .val (.ref b27), .val (.ref b83), .val (.ref b27), .val (.ref r_280), .val (.ref b289), .val (.ref b289), .val (.ref b289), .val (.ref r_330)] [(.ref r_330)])) rfl rfl (hb hby at_197) t hr) ?_
    rw [len_of Sz344 Ng344]
    refine Rch.st (fun _ hr => XS.bipush X330.here hx rfl (hb hby at_198) hr) ?_
    refine Rch.st (fun _ hr => XS.iload X330.here hx rfl (hb hby at_200) rfl hr) ?_
    refine Rch.st (fun _ hr => XS.iadd X330.here hx rfl (hb hby at_202) rfl hr) ?_
    show Rch p.tables e below _ (T330.setTop (mkF m 203 #[.val (.int p0), .val (.int p1), .val (.int p2), .val (.int p3), .val (.int p4), .val (.int (2 : Int32)), .val (.int ch1), .val (.int ch2), .val (.int ch3), .val (.int ch4), .val (.ref b1), .val (.ref r_17), .val (.ref b27), .val (.ref b83), .val (.ref b27), .val (.ref r_280), .val (.ref b289), .val (.ref b289), .val (.ref b289), .val (.ref r_330)] [(.int (25 : Int32)), (.int (25 : Int32))]))
    refine Rch.st (fun _ hr => XS.icmpYes X330.here hx rfl (pc0 := 203) (pc' := 208) rfl (hb hby at_203) rfl (teq (by decide : (25 : Int32) = (25 : Int32))).1 (by decide) (by decide) hr) ?_
    refine Rch.st (fun _ hr => XS.aload X330.here hx rfl (hb hby at_208) rfl rfl hr) ?_
    refine Rch.st (fun _ hr => XS.iconst X330.here hx rfl (hb hby at_210) hr) ?_
    refine Rch.st (fun _ hr => own_bal X330 hx hZ323 rfl Vk330 (v := (.int (60 : Int32))) rfl (by decide) (by decide) (hb hby at_211) hr) ?_
    refine Rch.st (fun _ hr => XS.bipush X330.here hx rfl (hb hby at_212) hr) ?_
    refine Rch.st (fun _ hr => XS.icmpNo X330.here hx rfl (hb hby at_214) rfl (teq (by decide : (60 : Int32) = (60 : Int32))).2 hr) ?_
    refine Rch.st (fun _ hr => XS.aload X330.here hx rfl (hb hby at_217) rfl rfl hr) ?_
    refine Rch.st (fun _ hr => XS.bipush X330.here hx rfl (hb hby at_219) hr) ?_
    show Rch p.tables e below _ (T330.setTop (mkF m 221 #[.val (.int p0), .val (.int p1), .val (.int p2), .val (.int p3), .val (.int p4), .val (.int (2 : Int32)), .val (.int ch1), .val (.int ch2), .val (.int ch3), .val (.int ch4), .val (.ref b1), .val (.ref r_17), .val (.ref b27), .val (.ref b83), .val (.ref b27), .val (.ref r_280), .val (.ref b289), .val (.ref b289), .val (.ref b289), .val (.ref r_330)] [(.int (14 : Int32)), (.ref r_330)]))
    refine Rch.st (fun _ hr => own_bal X330 hx hZ323 rfl Vk330 (v := (.int (62 : Int32))) rfl (by decide) (by decide) (hb hby at_221) hr) ?_
    refine Rch.st (fun _ hr => XS.bipush X330.here hx rfl (hb hby at_222) hr) ?_
    refine Rch.st (fun _ hr => XS.icmpNo X330.here hx rfl (hb hby at_224) rfl (teq (by decide : (62 : Int32) = (62 : Int32))).2 hr) ?_
    refine Rch.st (fun _ hr => XS.aload X330.here hx rfl (hb hby at_227) rfl rfl hr) ?_
    refine Rch.st (fun _ hr => XS.bipush X330.here hx rfl (hb hby at_229) hr) ?_
    refine Rch.st (fun _ hr => own_bal X330 hx hZ323 rfl Vk330 (v := (.int (10 : Int32))) rfl (by decide) (by decide) (hb hby at_231) hr) ?_
    refine Rch.st (fun _ hr => XS.bipush X330.here hx rfl (hb hby at_232) hr) ?_
    refine Rch.st (fun _ hr => XS.icmpYes X330.here hx rfl (pc0 := 234) (pc' := 239) rfl (hb hby at_234) rfl (teq (by decide : (10 : Int32) = (10 : Int32))).1 (by decide) (by decide) hr) ?_
    show Rch p.tables e below _ (T330.setTop (mkF m 239 #[.val (.int p0), .val (.int p1), .val (.int p2), .val (.int p3), .val (.int p4), .val (.int (2 : Int32)), .val (.int ch1), .val (.int ch2), .val (.int ch3), .val (.int ch4), .val (.ref b1), .val (.ref r_17), .val (.ref b27), .val (.ref b83), .val (.ref b27), .val (.ref r_280), .val (.ref b289), .val (.ref b289), .val (.ref b289), .val (.ref r_330)] []))
    refine Rch.st (fun _ hr => XS.aload X330.here hx rfl (hb hby at_239) rfl rfl hr) ?_
    refine Rch.st (fun _ hr => XS.bipush X330.here hx rfl (hb hby at_241) hr) ?_
    refine Rch.st (fun _ hr => own_bal X330 hx hZ323 rfl Vk330 (v := (.int (60 : Int32))) rfl (by decide) (by decide) (hb hby at_243) hr) ?_
    refine Rch.st (fun _ hr => XS.bipush X330.here hx rfl (hb hby at_244) hr) ?_
    refine Rch.st (fun _ hr => XS.icmpNo X330.here hx rfl (hb hby at_246) rfl (teq (by decide : (60 : Int32) = (60 : Int32))).2 hr) ?_
    refine Rch.st (fun _ hr => XS.aload X330.here hx rfl (hb hby at_249) rfl rfl hr) ?_
    refine Rch.st (fun _ hr => XS.bipush X330.here hx rfl (hb hby at_251) hr) ?_
    refine Rch.st (fun _ hr => own_bal X330 hx hZ323 rfl Vk330 (v := (.int (47 : Int32))) rfl (by decide) (by decide) (hb hby at_253) hr) ?_
    show Rch p.tables e below _ (T330.setTop (mkF m 254 #[.val (.int p0), .val (.int p1), .val (.int p2), .val (.int p3), .val (.int p4), .val (.int (2 : Int32)), .val (.int ch1), .val (.int ch2), .val (.int ch3), .val (.int ch4), .val (.ref b1), .val (.ref r_17), .val (.ref b27), .val (.ref b83), .val (.ref b27), .val (.ref r_280), .val (.ref b289), .val (.ref b289), .val (.ref b289), .val (.ref r_330)] [(.int (47 : Int32))]))
    refine Rch.st (fun _ hr => XS.bipush X330.here hx rfl (hb hby at_254) hr) ?_
    refine Rch.st (fun _ hr => XS.icmpYes X330.here hx rfl (pc0 := 256) (pc' := 261) rfl (hb hby at_256) rfl (teq (by decide : (47 : Int32) = (47 : Int32))).1 (by decide) (by decide) hr) ?_
    refine Rch.st (fun _ hr => XS.iload X330.here hx rfl (hb hby at_261) rfl hr) ?_
    refine Rch.st (fun _ hr => XS.iconst X330.here hx rfl (hb hby at_263) hr) ?_
    refine Rch.st (fun _ hr => XS.icmpNo X330.here hx rfl (hb hby at_264) rfl (flt (by decide : ¬ ((2 : Int32) < (1 : Int32)))).1 hr) ?_
    refine Rch.st (fun _ hr => XS.aload X330.here hx rfl (hb hby at_267) rfl rfl hr) ?_
    refine Rch.st (fun _ hr => XS.bipush X330.here hx rfl (hb hby at_269) hr) ?_
    refine Rch.st (fun _ hr => own_bal X330 hx hZ323 rfl Vk330 (v := (.int ch1)) rfl (by decide) (by decide) (hb hby at_271) hr) ?_
    show Rch p.tables e below _ (T330.setTop (mkF m 272 #[.val (.int p0), .val (.int p1), .val (.int p2), .val (.int p3), .val (.int p4), .val (.int (2 : Int32)), .val (.int ch1), .val (.int ch2), .val (.int ch3), .val (.int ch4), .val (.ref b1), .val (.ref r_17), .val (.ref b27), .val (.ref b83), .val (.ref b27), .val (.ref r_280), .val (.ref b289), .val (.ref b289), .val (.ref b289), .val (.ref r_330)] [(.int ch1)]))
    refine Rch.st (fun _ hr => XS.iload X330.here hx rfl (hb hby at_272) rfl hr) ?_
    refine Rch.st (fun _ hr => XS.i2b X330.here hx rfl (hb hby at_274) rfl hr) ?_
    show Rch p.tables e below _ (T330.setTop (mkF m 275 #[.val (.int p0), .val (.int p1), .val (.int p2), .val (.int p3), .val (.int p4), .val (.int (2 : Int32)), .val (.int ch1), .val (.int ch2), .val (.int ch3), .val (.int ch4), .val (.ref b1), .val (.ref r_17), .val (.ref b27), .val (.ref b83), .val (.ref b27), .val (.ref r_280), .val (.ref b289), .val (.ref b289), .val (.ref b289), .val (.ref r_330)] [(.int (ch1.toInt8.toInt32)), (.int ch1)]))
    rw [own_i2b hch1.2]
    refine Rch.st (fun _ hr => XS.icmpYes X330.here hx rfl (pc0 := 275) (pc' := 280) rfl (hb hby at_275) rfl (teq rfl).1 (by decide) (by decide) hr) ?_
    refine Rch.st (fun _ hr => XS.iload X330.here hx rfl (hb hby at_280) rfl hr) ?_
    refine Rch.st (fun _ hr => XS.iconst X330.here hx rfl (hb hby at_282) hr) ?_
    refine Rch.st (fun _ hr => XS.icmpNo X330.here hx rfl (hb hby at_283) rfl (flt (by decide : ¬ ((2 : Int32) < (2 : Int32)))).1 hr) ?_
    refine Rch.st (fun _ hr => XS.aload X330.here hx rfl (hb hby at_286) rfl rfl hr) ?_
    refine Rch.st (fun _ hr => XS.bipush X330.here hx rfl (hb hby at_288) hr) ?_
    refine Rch.st (fun _ hr => own_bal X330 hx hZ323 rfl Vk330 (v := (.int ch2)) rfl (by decide) (by decide) (hb hby at_290) hr) ?_
    show Rch p.tables e below _ (T330.setTop (mkF m 291 #[.val (.int p0), .val (.int p1), .val (.int p2), .val (.int p3), .val (.int p4), .val (.int (2 : Int32)), .val (.int ch1), .val (.int ch2), .val (.int ch3), .val (.int ch4), .val (.ref b1), .val (.ref r_17), .val (.ref b27), .val (.ref b83), .val (.ref b27), .val (.ref r_280), .val (.ref b289), .val (.ref b289), .val (.ref b289), .val (.ref r_330)] [(.int ch2)]))
    refine Rch.st (fun _ hr => XS.iload X330.here hx rfl (hb hby at_291) rfl hr) ?_
    refine Rch.st (fun _ hr => XS.i2b X330.here hx rfl (hb hby at_293) rfl hr) ?_
    show Rch p.tables e below _ (T330.setTop (mkF m 294 #[.val (.int p0), .val (.int p1), .val (.int p2), .val (.int p3), .val (.int p4), .val (.int (2 : Int32)), .val (.int ch1), .val (.int ch2), .val (.int ch3), .val (.int ch4), .val (.ref b1), .val (.ref r_17), .val (.ref b27), .val (.ref b83), .val (.ref b27), .val (.ref r_280), .val (.ref b289), .val (.ref b289), .val (.ref b289), .val (.ref r_330)] [(.int (ch2.toInt8.toInt32)), (.int ch2)]))
    rw [own_i2b hch2.2]
    refine Rch.st (fun _ hr => XS.icmpYes X330.here hx rfl (pc0 := 294) (pc' := 299) rfl (hb hby at_294) rfl (teq rfl).1 (by decide) (by decide) hr) ?_
    refine Rch.st (fun _ hr => XS.iload X330.here hx rfl (hb hby at_299) rfl hr) ?_
    refine Rch.st (fun _ hr => XS.iconst X330.here hx rfl (hb hby at_301) hr) ?_
    refine Rch.st (fun _ hr => XS.icmpYes X330.here hx rfl (pc0 := 302) (pc' := 318) rfl (hb hby at_302) rfl (tlt (by decide : (2 : Int32) < (3 : Int32))).1 (by decide) (by decide) hr) ?_
    refine Rch.st (fun _ hr => XS.aload X330.here hx rfl (hb hby at_318) rfl rfl hr) ?_
    refine Rch.st (fun _ hr => XS.bipush X330.here hx rfl (hb hby at_320) hr) ?_
    refine Rch.st (fun _ hr => XS.iload X330.here hx rfl (hb hby at_322) rfl hr) ?_
    show Rch p.tables e below _ (T330.setTop (mkF m 324 #[.val (.int p0), .val (.int p1), .val (.int p2), .val (.int p3), .val (.int p4), .val (.int (2 : Int32)), .val (.int ch1), .val (.int ch2), .val (.int ch3), .val (.int ch4), .val (.ref b1), .val (.ref r_17), .val (.ref b27), .val (.ref b83), .val (.ref b27), .val (.ref r_280), .val (.ref b289), .val (.ref b289), .val (.ref b289), .val (.ref r_330)] [(.int (2 : Int32)), (.int (18 : Int32)), (.ref r_330)]))
    refine Rch.st (fun _ hr => XS.iadd X330.here hx rfl (hb hby at_324) rfl hr) ?_
    refine Rch.st (fun _ hr => own_bal X330 hx hZ323 rfl Vk330 (v := (.int (62 : Int32))) rfl (by decide) (by decide) (hb hby at_325) hr) ?_
    refine Rch.st (fun _ hr => XS.bipush X330.here hx rfl (hb hby at_326) hr) ?_
    refine Rch.st (fun _ hr => XS.icmpYes X330.here hx rfl (pc0 := 328) (pc' := 333) rfl (hb hby at_328) rfl (teq (by decide : (62 : Int32) = (62 : Int32))).1 (by decide) (by decide) hr) ?_
    refine Rch.st (fun _ hr => XS.aload X330.here hx rfl (hb hby at_333) rfl rfl hr) ?_
    refine Rch.st (fun _ hr => XS.bipush X330.here hx rfl (hb hby at_335) hr) ?_
    refine Rch.st (fun _ hr => XS.iload X330.here hx rfl (hb hby at_337) rfl hr) ?_
    refine Rch.st (fun _ hr => XS.iadd X330.here hx rfl (hb hby at_339) rfl hr) ?_
    show Rch p.tables e below _ (T330.setTop (mkF m 340 #[.val (.int p0), .val (.int p1), .val (.int p2), .val (.int p3), .val (.int p4), .val (.int (2 : Int32)), .val (.int ch1), .val (.int ch2), .val (.int ch3), .val (.int ch4), .val (.ref b1), .val (.ref r_17), .val (.ref b27), .val (.ref b83), .val (.ref b27), .val (.ref r_280), .val (.ref b289), .val (.ref b289), .val (.ref b289), .val (.ref r_330)] [(.int (21 : Int32)), (.ref r_330)]))
    refine Rch.st (fun _ hr => own_bal X330 hx hZ323 rfl Vk330 (v := (.int (60 : Int32))) rfl (by decide) (by decide) (hb hby at_340) hr) ?_
    refine Rch.st (fun _ hr => XS.bipush X330.here hx rfl (hb hby at_341) hr) ?_
    refine Rch.st (fun _ hr => XS.icmpNo X330.here hx rfl (hb hby at_343) rfl (teq (by decide : (60 : Int32) = (60 : Int32))).2 hr) ?_
    refine Rch.st (fun _ hr => XS.aload X330.here hx rfl (hb hby at_346) rfl rfl hr) ?_
    refine Rch.st (fun _ hr => XS.bipush X330.here hx rfl (hb hby at_348) hr) ?_
    refine Rch.st (fun _ hr => XS.iload X330.here hx rfl (hb hby at_350) rfl hr) ?_
    refine Rch.st (fun _ hr => XS.iadd X330.here hx rfl (hb hby at_352) rfl hr) ?_
    refine Rch.st (fun _ hr => own_bal X330 hx hZ323 rfl Vk330 (v := (.int (47 : Int32))) rfl (by decide) (by decide) (hb hby at_353) hr) ?_
    show Rch p.tables e below _ (T330.setTop (mkF m 354 #[.val (.int p0), .val (.int p1), .val (.int p2), .val (.int p3), .val (.int p4), .val (.int (2 : Int32)), .val (.int ch1), .val (.int ch2), .val (.int ch3), .val (.int ch4), .val (.ref b1), .val (.ref r_17), .val (.ref b27), .val (.ref b83), .val (.ref b27), .val (.ref r_280), .val (.ref b289), .val (.ref b289), .val (.ref b289), .val (.ref r_330)] [(.int (47 : Int32))]))
    refine Rch.st (fun _ hr => XS.bipush X330.here hx rfl (hb hby at_354) hr) ?_
    refine Rch.st (fun _ hr => XS.icmpYes X330.here hx rfl (pc0 := 356) (pc' := 361) rfl (hb hby at_356) rfl (teq (by decide : (47 : Int32) = (47 : Int32))).1 (by decide) (by decide) hr) ?_
    refine Rch.st (fun _ hr => XS.aload X330.here hx rfl (hb hby at_361) rfl rfl hr) ?_
    refine Rch.st (fun _ hr => XS.bipush X330.here hx rfl (hb hby at_363) hr) ?_
    refine Rch.st (fun _ hr => XS.iload X330.here hx rfl (hb hby at_365) rfl hr) ?_
    refine Rch.st (fun _ hr => XS.iadd X330.here hx rfl (hb hby at_367) rfl hr) ?_
    refine Rch.st (fun _ hr => own_bal X330 hx hZ323 rfl Vk330 (v := (.int ch4)) rfl (by decide) (by decide) (hb hby at_368) hr) ?_
    refine Rch.st (fun _ hr => XS.iload X330.here hx rfl (hb hby at_369) rfl hr) ?_
    show Rch p.tables e below _ (T330.setTop (mkF m 371 #[.val (.int p0), .val (.int p1), .val (.int p2), .val (.int p3), .val (.int p4), .val (.int (2 : Int32)), .val (.int ch1), .val (.int ch2), .val (.int ch3), .val (.int ch4), .val (.ref b1), .val (.ref r_17), .val (.ref b27), .val (.ref b83), .val (.ref b27), .val (.ref r_280), .val (.ref b289), .val (.ref b289), .val (.ref b289), .val (.ref r_330)] [(.int ch4), (.int ch4)]))
    refine Rch.st (fun _ hr => XS.i2b X330.here hx rfl (hb hby at_371) rfl hr) ?_
    show Rch p.tables e below _ (T330.setTop (mkF m 372 #[.val (.int p0), .val (.int p1), .val (.int p2), .val (.int p3), .val (.int p4), .val (.int (2 : Int32)), .val (.int ch1), .val (.int ch2), .val (.int ch3), .val (.int ch4), .val (.ref b1), .val (.ref r_17), .val (.ref b27), .val (.ref b83), .val (.ref b27), .val (.ref r_280), .val (.ref b289), .val (.ref b289), .val (.ref b289), .val (.ref r_330)] [(.int (ch4.toInt8.toInt32)), (.int ch4)]))
    rw [own_i2b hch4.2]
    refine Rch.st (fun _ hr => XS.icmpYes X330.here hx rfl (pc0 := 372) (pc' := 377) rfl (hb hby at_372) rfl (teq rfl).1 (by decide) (by decide) hr) ?_
    refine Rch.st (fun _ hr => XS.aload X330.here hx rfl (hb hby at_377) rfl rfl hr) ?_
    refine Rch.st (fun _ hr => XS.bipush X330.here hx rfl (hb hby at_379) hr) ?_
    refine Rch.st (fun _ hr => XS.iload X330.here hx rfl (hb hby at_381) rfl hr) ?_
    refine Rch.st (fun _ hr => XS.iadd X330.here hx rfl (hb hby at_383) rfl hr) ?_
    refine Rch.st (fun _ hr => own_bal X330 hx hZ323 rfl Vk330 (v := (.int (62 : Int32))) rfl (by decide) (by decide) (hb hby at_384) hr) ?_
    refine Rch.st (fun _ hr => XS.bipush X330.here hx rfl (hb hby at_385) hr) ?_
    show Rch p.tables e below _ (T330.setTop (mkF m 387 #[.val (.int p0), .val (.int p1), .val (.int p2), .val (.int p3), .val (.int p4), .val (.int (2 : Int32)), .val (.int ch1), .val (.int ch2), .val (.int ch3), .val (.int ch4), .val (.ref b1), .val (.ref r_17), .val (.ref b27), .val (.ref b83), .val (.ref b27), .val (.ref r_280), .val (.ref b289), .val (.ref b289), .val (.ref b289), .val (.ref r_330)] [(.int (62 : Int32)), (.int (62 : Int32))]))
    refine Rch.st (fun _ hr => XS.icmpNo X330.here hx rfl (hb hby at_387) rfl (teq (by decide : (62 : Int32) = (62 : Int32))).2 hr) ?_
    refine Rch.st (fun _ hr => XS.iconst X330.here hx rfl (hb hby at_390) hr) ?_
    refine Rch.st (fun _ hr => XS.goto X330.here hx rfl (pc0 := 391) (pc' := 395) rfl (hb hby at_391) (by decide) (by decide) hr) ?_
    obtain ⟨fs, hr, hrun, hended, hREW⟩ := Jvm.Stand.leaveW (s := s) (vm₁ := T323.vm) X330 hS323 (Nat.le_trans (Nat.le_refl _) Kp330.1) (v := some (.int (1 : Int32))) (fun h => by rw [Bd.returns] at h; cases h)
    have hCE : CHr Z consts_1 s.vm s.heap T330.vm T330.heap := by rw [hh]; exact CR342.trans (CHv.at (s := s) (vm0 := T323.vm) X330 hZ323 (own_EW hw) CR342.1)
    refine Rch.fin (u := T330.setFrames fs) (retN X330 hx (t := .boolean) Bd.returns (by simp) (hb hby at_395) hr) ⟨_, hrun, hended, _, _, rfl, ?_, hCE, hREW.1, hREW.2.1, hREW.2.2.1, hREW.2.2.2.mono (by decide) (by decide)⟩
    show Q_claw Z p0 p1 p2 p3 p4 cs u h0 n0 _ T330.heap _ T330.vm
    exact ⟨rfl, N330, K343, Op330⟩
  · rw [hn]
    show Rch p.tables e below _ (T128.setTop (mkF m 102 #[.val (.int p0), .val (.int p1), .val (.int p2), .val (.int p3), .val (.int p4), .val (.int (3 : Int32)), .val (.int ch1), .val (.int ch2), .val (.int ch3), .val (.int ch4), .val (.ref b1), .val (.ref r_17), .val (.ref b27), .val (.ref b83), .unset, .unset, .unset, .unset, .unset, .unset] []))
    refine Rch.st (fun _ hr => XS.iload X128.here hx rfl (hb hby at_102) rfl hr) ?_
    refine Rch.st (fun _ hr => XS.ifYes X128.here hx rfl (pc0 := 104) (pc' := 112) rfl (hb hby at_104) rfl ((if0 _ _).trans (feq (by decide : ¬ ((3 : Int32) = (0 : Int32)))).2) (by decide) (by decide) hr) ?_
    refine Rch.st (fun _ hr => XS.iload X128.here hx rfl (hb hby at_112) rfl hr) ?_
    refine Rch.st (fun _ hr => XS.iconst X128.here hx rfl (hb hby at_114) hr) ?_
    refine Rch.st (fun _ hr => XS.icmpYes X128.here hx rfl (pc0 := 115) (pc' := 123) rfl (hb hby at_115) rfl (feq (by decide : ¬ ((3 : Int32) = (1 : Int32)))).2 (by decide) (by decide) hr) ?_
    refine Rch.st (fun _ hr => XS.iload X128.here hx rfl (hb hby at_123) rfl hr) ?_
    refine Rch.st (fun _ hr => XS.iconst X128.here hx rfl (hb hby at_125) hr) ?_
    refine Rch.st (fun _ hr => XS.icmpYes X128.here hx rfl (pc0 := 126) (pc' := 134) rfl (hb hby at_126) rfl (feq (by decide : ¬ ((3 : Int32) = (2 : Int32)))).2 (by decide) (by decide) hr) ?_
    show Rch p.tables e below _ (T128.setTop (mkF m 134 #[.val (.int p0), .val (.int p1), .val (.int p2), .val (.int p3), .val (.int p4), .val (.int (3 : Int32)), .val (.int ch1), .val (.int ch2), .val (.int ch3), .val (.int ch4), .val (.ref b1), .val (.ref r_17), .val (.ref b27), .val (.ref b83), .unset, .unset, .unset, .unset, .unset, .unset] []))
    refine Rch.st (fun _ hr => XS.aload X128.here hx rfl (hb hby at_134) rfl rfl hr) ?_
    refine Rch.st (fun _ hr => XS.astore X128.here hx rfl (hb hby at_136) rfl rfl (l' := #[.val (.int p0), .val (.int p1), .val (.int p2), .val (.int p3), .val (.int p4), .val (.int (3 : Int32)), .val (.int ch1), .val (.int ch2), .val (.int ch3), .val (.int ch4), .val (.ref b1), .val (.ref r_17), .val (.ref b27), .val (.ref b83), .val (.ref b83), .unset, .unset, .unset, .unset, .unset]) rfl hr) ?_
    refine Rch.st (fun _ hr => XS.iload X128.here hx rfl (hb hby at_138) rfl hr) ?_
    obtain ⟨_, T345, Lc345, X345, hQ345, st345⟩ := own_callS X128 hx hZ9 (y := Y_37) hown9 (own_w hw 22 rfl) (own_w hw 23 rfl) (own_w hw 2 rfl) (own_w hw 24 rfl) (by decide) (W := 0) (cvof l Z a0 hw [] ch4 cs T128.heap n0 zD0 Op128 hch4.2 hcs) (by decide) (by decide) rfl (by decide) (by decide) (g := (mkF m 140 #[.val (.int p0), .val (.int p1), .val (.int p2), .val (.int p3), .val (.int p4), .val (.int (3 : Int32)), .val (.int ch1), .val (.int ch2), .val (.int ch3), .val (.int ch4), .val (.ref b1), .val (.ref r_17), .val (.ref b27), .val (.ref b83), .val (.ref b83), .unset, .unset, .unset, .unset, .unset] [(.int ch4)])) rfl (by rw [hml]; rfl) (argsL := [(.int ch4)]) (rest := []) (lenOf pd_31 rfl) rfl (own_mr rfl rfl) (hb hby at_140) rfl
    obtain ⟨r_345, bx_345, kb_345, rfl, N345q, Kp345, Op345, R345_0, R345_1, R345_2, R345_3, R345_4, R345_5, R345_6⟩ := hQ345
    have N345 := Fr.app N128 N345q
    refine Rch.st st345 ?_
    have ne346 := Nat.ne_of_lt (Nat.lt_of_lt_of_le R128_2.lt R345_0)
    have ne347 := Nat.ne_of_lt (Nat.lt_of_lt_of_le R128_4.lt R345_0)
    have g_r_345 : n0 ≤ r_345 := Nat.le_trans (Nat.le_trans (Nat.le_of_eq Op128.1.symm) Op128.2.1) R345_0
    have sz_r_345 : h0.size ≤ r_345 := Nat.le_trans K149.1 R345_0
    have ne348 := Nat.ne_of_lt (Nat.lt_of_lt_of_le R128_2.lt R345_4)
    have ne349 := Nat.ne_of_lt (Nat.lt_of_lt_of_le R128_4.lt R345_4)
    have g_bx_345 : n0 ≤ bx_345 := Nat.le_trans (Nat.le_trans (Nat.le_of_eq Op128.1.symm) Op128.2.1) R345_4
    have sz_bx_345 : h0.size ≤ bx_345 := Nat.le_trans K149.1 R345_4
    have cs350 := CHr.keep Kp345 sf0 CR148.1
    have CR350 := CR148.trans cs350
    have K351 := K149.trans Kp345 all0
    refine Rch.st (fun _ hr => XS.astore X345.here hx rfl (hb hby at_143) rfl rfl (l' := #[.val (.int p0), .val (.int p1), .val (.int p2), .val (.int p3), .val (.int p4), .val (.int (3 : Int32)), .val (.int ch1), .val (.int ch2), .val (.int ch3), .val (.int ch4), .val (.ref b1), .val (.ref r_17), .val (.ref b27), .val (.ref b83), .val (.ref b83), .val (.ref r_345), .unset, .unset, .unset, .unset]) rfl hr) ?_
    obtain ⟨T352, h352, X352, e352, E352, A352, D352, -, st352⟩ := newO X345 hx hZ9 hown9 (own_w hw 47 rfl) (own_w hw 48 rfl) (own_w hw 49 rfl) rfl (g := (mkF m 145 #[.val (.int p0), .val (.int p1), .val (.int p2), .val (.int p3), .val (.int p4), .val (.int (3 : Int32)), .val (.int ch1), .val (.int ch2), .val (.int ch3), .val (.int ch4), .val (.ref b1), .val (.ref r_17), .val (.ref b27), .val (.ref b83), .val (.ref b83), .val (.ref r_345), .unset, .unset, .unset, .unset] [])) rfl (hb hby at_145) (by decide) (by decide)
    obtain ⟨b352, g352⟩ : ∃ z, z = T345.heap.size := ⟨_, rfl⟩
    rw [← g352] at A352 D352 st352
    refine Rch.st st352 ?_
    have q352 : T345.heap.size ≤ b352 := Nat.le_of_eq g352.symm
    have f353 := (R128_2.keep Kp345 nin0)
    have ne354 := Nat.ne_of_lt (Nat.lt_of_lt_of_le f353.lt q352)
    have f355 := (R128_4.keep Kp345 nin0)
    have ne356 := Nat.ne_of_lt (Nat.lt_of_lt_of_le f355.lt q352)
    have ne357 := Nat.ne_of_lt (Nat.lt_of_lt_of_le R345_3.lt q352)
    have ne358 := Nat.ne_of_lt (Nat.lt_of_lt_of_le R345_5.lt q352)
    have g_b352 : n0 ≤ b352 := Nat.le_trans (Nat.le_trans (Nat.le_of_eq Op345.1.symm) Op345.2.1) q352
    have sz_b352 : h0.size ≤ b352 := Nat.le_trans K351.1 q352
    have cs359 := CHr.ext E352 CR350.1
    have CR359 := CR350.trans cs359
    have K360 := K351.ext E352
    have F352_out : Fld Z h352 b352 "com/example/orrery/orrery/server/Html" "out" "Ljava/lang/StringBuilder;" .null := D352 (Or.inr (own_w hw 126 rfl)) (ty := (.object "java/lang/StringBuilder")) (by decide)
    refine Rch.st (fun _ hr => XS.dup X352.here hx rfl (hb hby at_148) rfl rfl hr) ?_
    have f362 := (Op345.ext E352)
    obtain ⟨_, T361, Lc361, X361, hQ361, hC361, hS361, hZ361, hown361, st361⟩ := own_callIH (s := s) (vm0 := T9.vm) X352 hx hZ9 hS9 (Nat.le_trans (Nat.le_trans (Nat.le_trans (Nat.le_trans (Nat.le_trans (Nat.le_trans (Nat.le_trans (Nat.le_trans (Nat.le_trans (Nat.le_trans (Nat.le_trans (Nat.le_trans (Nat.le_trans (Nat.le_trans (Nat.le_refl _) Kp17.1) E27.1) E38.1) (Keep.of_wr W54).1) (Keep.of_wr W59).1) Kp63.1) E83.1) E96.1) (Keep.of_wr W114).1) (Keep.of_wr W119).1) (Keep.of_wr W124).1) Kp128.1) Kp345.1) E352.1) (own_EW hw) CR359.1 (xs := []) all0 (y := Y_38) rfl hown9 (own_w hw 50 rfl) (own_w hw 51 rfl) (own_w hw 49 rfl) (own_w hw 52 rfl) (by decide) (W := 1) (chtml l Z a0 hw [] b352 cs h352 n0 zD0 f362 A352 F352_out g_b352 hcs) (by decide) (by decide) e352 (by decide) (by decide) (g := (mkF m 149 #[.val (.int p0), .val (.int p1), .val (.int p2), .val (.int p3), .val (.int p4), .val (.int (3 : Int32)), .val (.int ch1), .val (.int ch2), .val (.int ch3), .val (.int ch4), .val (.ref b1), .val (.ref r_17), .val (.ref b27), .val (.ref b83), .val (.ref b83), .val (.ref r_345), .unset, .unset, .unset, .unset] [(.ref b352), (.ref b352)])) rfl (by rw [hml]; rfl) (a := b352) (argsL := []) (rest := [(.ref b352)]) (lenOf pd_32 rfl) rfl (own_mr rfl rfl) (hb hby at_149) rfl
    obtain ⟨sb_361, d_361, kd_361, rfl, N361q, Kp361, Op361, R361_0, R361_1, R361_2, R361_3, R361_4, R361_5, R361_6, R361_7, R361_8, R361_9, R361_10⟩ := hQ361
    have N361 := Fr.app N345 N361q
    refine Rch.st st361 ?_
    have f363 := (f353.ext E352)
    have ne364 := Nat.ne_of_lt (Nat.lt_of_lt_of_le f363.lt R361_2)
    have f365 := (f355.ext E352)
    have ne366 := Nat.ne_of_lt (Nat.lt_of_lt_of_le f365.lt R361_2)
    have f367 := (R345_3.ext E352)
    have ne368 := Nat.ne_of_lt (Nat.lt_of_lt_of_le f367.lt R361_2)
    have f369 := (R345_5.ext E352)
    have ne370 := Nat.ne_of_lt (Nat.lt_of_lt_of_le f369.lt R361_2)
    have ne371 := Nat.ne_of_lt (Nat.lt_of_lt_of_le F352_out.lt R361_2)
    have g_sb_361 : n0 ≤ sb_361 := Nat.le_trans (Nat.le_trans (Nat.le_of_eq f362.1.symm) f362.2.1) R361_2
    have sz_sb_361 : h0.size ≤ sb_361 := Nat.le_trans K360.1 R361_2
    have ne372 := Nat.ne_of_lt (Nat.lt_of_lt_of_le f363.lt R361_7)
    have ne373 := Nat.ne_of_lt (Nat.lt_of_lt_of_le f365.lt R361_7)
    have ne374 := Nat.ne_of_lt (Nat.lt_of_lt_of_le f367.lt R361_7)
    have ne375 := Nat.ne_of_lt (Nat.lt_of_lt_of_le f369.lt R361_7)
    have ne376 := Nat.ne_of_lt (Nat.lt_of_lt_of_le F352_out.lt R361_7)
    have g_d_361 : n0 ≤ d_361 := Nat.le_trans (Nat.le_trans (Nat.le_of_eq f362.1.symm) f362.2.1) R361_7
    have sz_d_361 : h0.size ≤ d_361 := Nat.le_trans K360.1 R361_7
    have CR377 := CR359.trans hC361
    have K378 := K360.trans Kp361 (allS (Or.inr sz_b352) all0)
    show Rch p.tables e below _ (T361.setTop (mkF m 152 #[.val (.int p0), .val (.int p1), .val (.int p2), .val (.int p3), .val (.int p4), .val (.int (3 : Int32)), .val (.int ch1), .val (.int ch2), .val (.int ch3), .val (.int ch4), .val (.ref b1), .val (.ref r_17), .val (.ref b27), .val (.ref b83), .val (.ref b83), .val (.ref r_345), .unset, .unset, .unset, .unset] [(.ref b352)]))
    refine Rch.st (fun _ hr => XS.astore X361.here hx rfl (hb hby at_152) rfl rfl (l' := #[.val (.int p0), .val (.int p1), .val (.int p2), .val (.int p3), .val (.int p4), .val (.int (3 : Int32)), .val (.int ch1), .val (.int ch2), .val (.int ch3), .val (.int ch4), .val (.ref b1), .val (.ref r_17), .val (.ref b27), .val (.ref b83), .val (.ref b83), .val (.ref r_345), .val (.ref b352), .unset, .unset, .unset]) rfl hr) ?_
    refine Rch.st (fun _ hr => XS.aload X361.here hx rfl (hb hby at_154) rfl rfl hr) ?_
    refine Rch.st (fun _ hr => XS.aload X361.here hx rfl (hb hby at_156) rfl rfl hr) ?_
    have f380 := (((R128_0.keep Kp345).ext E352).keep Kp361)
    have f381 := (((R128_1.keep Kp345 nin0).ext E352).keep Kp361 (ninS ne354 nin0))
    have f382 := (f363.keep Kp361 (ninS ne354 nin0))
    have f383 := (f365.keep Kp361 (ninS ne356 nin0))
    obtain ⟨_, T379, Lc379, X379, hQ379, hC379, hS379, hZ379, hown379, st379⟩ := own_callVH (s := s) (vm0 := T361.vm) X361 hx hZ361 hS361 (Nat.le_refl _) (own_EW hw) CR377.1 (xs := [d_361]) (allS ⟨R361_8.lt, R361_9⟩ all0) (y := Y_39) (z := Y_39) hown361 (own_w hw 127 rfl) (own_w hw 128 rfl) (notFace_of_selects (args := #[]) (mvT hZ361 (own_w hw 130 rfl))) (own_w hw 130 rfl) (own_w hw 129 rfl) (own_w hw 49 rfl) (own_w hw 131 rfl) (by decide) (W := 0) (cclose l Z a0 hw [] b352 sb_361 d_361 kd_361 [(.int (60 : Int32)), (.int (33 : Int32)), (.int (68 : Int32)), (.int (79 : Int32)), (.int (67 : Int32)), (.int (84 : Int32)), (.int (89 : Int32)), (.int (80 : Int32)), (.int (69 : Int32)), (.int (32 : Int32)), (.int (104 : Int32)), (.int (116 : Int32)), (.int (109 : Int32)), (.int (108 : Int32)), (.int (62 : Int32)), (.int (10 : Int32)), (.int (0 : Int32)), (.int (0 : Int32)), (.int (0 : Int32)), (.int (0 : Int32)), (.int (0 : Int32)), (.int (0 : Int32)), (.int (0 : Int32)), (.int (0 : Int32)), (.int (0 : Int32)), (.int (0 : Int32)), (.int (0 : Int32)), (.int (0 : Int32)), (.int (0 : Int32)), (.int (0 : Int32)), (.int (0 : Int32)), (.int (0 : Int32))] (16 : Int32) b83 bx_128 kb_128 (3 : Int32) [(.int ch1), (.int ch2), (.int ch3)] cs T361.heap n0 zD0 Op361 R361_0 R361_1 R361_3 R361_4 R361_5 R361_6 R361_8 f380 f381 f382 f383 g_sb_361 g_d_361 ne373 R361_10 hcs (by decide) rfl (by decide) (by decide) (by decide) (by decide) (by decide) (by decide) (by decide) (by decide) (by decide) (by decide)) (by decide) (by decide) rfl R361_0 (by decide) (by decide) (g := (mkF m 158 #[.val (.int p0), .val (.int p1), .val (.int p2), .val (.int p3), .val (.int p4), .val (.int (3 : Int32)), .val (.int ch1), .val (.int ch2), .val (.int ch3), .val (.int ch4), .val (.ref b1), .val (.ref r_17), .val (.ref b27), .val (.ref b83), .val (.ref b83), .val (.ref r_345), .val (.ref b352), .unset, .unset, .unset] [(.ref b83), (.ref b352)])) rfl (by rw [hml]; rfl) (argsL := [(.ref b83)]) (rest := []) (lenOf pd_33 rfl) rfl (own_mr rfl rfl) (hb hby at_158) rfl
    obtain ⟨rfl, N379q, Kp379, Op379, R379_0, R379_1, R379_2, R379_3, R379_4, R379_5, R379_6, R379_7⟩ := hQ379
    have N379 := Fr.app N361 N379q
    refine Rch.st st379 ?_
    have CR384 := CR377.trans hC379
    have K385 := K378.trans Kp379 (allS (Or.inr sz_sb_361) (allS (Or.inr sz_d_361) all0))
    have Fk379 : Fld Z T379.heap sb_361 "java/lang/AbstractStringBuilder" "count" "I" (.int (22 : Int32)) := R379_5
    have Vk379 : Arv Z T379.heap d_361 kd_361 .byte (32 : Int32) [(.int (60 : Int32)), (.int (33 : Int32)), (.int (68 : Int32)), (.int (79 : Int32)), (.int (67 : Int32)), (.int (84 : Int32)), (.int (89 : Int32)), (.int (80 : Int32)), (.int (69 : Int32)), (.int (32 : Int32)), (.int (104 : Int32)), (.int (116 : Int32)), (.int (109 : Int32)), (.int (108 : Int32)), (.int (62 : Int32)), (.int (10 : Int32)), (.int (60 : Int32)), (.int (47 : Int32)), (.int ch1), (.int ch2), (.int ch3), (.int (62 : Int32)), (.int (0 : Int32)), (.int (0 : Int32)), (.int (0 : Int32)), (.int (0 : Int32)), (.int (0 : Int32)), (.int (0 : Int32)), (.int (0 : Int32)), (.int (0 : Int32)), (.int (0 : Int32)), (.int (0 : Int32))] (.int (0 : Int32)) := R379_6
    refine Rch.st (fun _ hr => XS.astore X379.here hx rfl (hb hby at_161) rfl rfl (l' := #[.val (.int p0), .val (.int p1), .val (.int p2), .val (.int p3), .val (.int p4), .val (.int (3 : Int32)), .val (.int ch1), .val (.int ch2), .val (.int ch3), .val (.int ch4), .val (.ref b1), .val (.ref r_17), .val (.ref b27), .val (.ref b83), .val (.ref b83), .val (.ref r_345), .val (.ref b352), .val (.ref b352), .unset, .unset]) rfl hr) ?_
    refine Rch.st (fun _ hr => XS.aload X379.here hx rfl (hb hby at_163) rfl rfl hr) ?_
    refine Rch.st (fun _ hr => XS.aload X379.here hx rfl (hb hby at_165) rfl rfl hr) ?_
    have f387 := (((R345_1.ext E352).keep Kp361).keep Kp379)
    have f388 := (((R345_2.ext E352).keep Kp361 (ninS ne357 nin0)).keep Kp379 (ninS ne368 (ninS ne374 nin0)))
    have f389 := ((f367.keep Kp361 (ninS ne357 nin0)).keep Kp379 (ninS ne368 (ninS ne374 nin0)))
    have f390 := ((f369.keep Kp361 (ninS ne358 nin0)).keep Kp379 (ninS ne370 (ninS ne375 nin0)))
    obtain ⟨_, T386, Lc386, X386, hQ386, hC386, hS386, hZ386, hown386, st386⟩ := own_callVH (s := s) (vm0 := T379.vm) X379 hx hZ379 hS379 (Nat.le_refl _) (own_EW hw) CR384.1 (xs := [d_361]) (allS ⟨R379_6.lt, R379_7⟩ all0) (y := Y_39) (z := Y_39) hown379 (own_w hw 127 rfl) (own_w hw 128 rfl) (notFace_of_selects (args := #[]) (mvT hZ379 (own_w hw 130 rfl))) (own_w hw 130 rfl) (own_w hw 129 rfl) (own_w hw 49 rfl) (own_w hw 131 rfl) (by decide) (W := 0) (cclose l Z a0 hw [] b352 sb_361 d_361 kd_361 [(.int (60 : Int32)), (.int (33 : Int32)), (.int (68 : Int32)), (.int (79 : Int32)), (.int (67 : Int32)), (.int (84 : Int32)), (.int (89 : Int32)), (.int (80 : Int32)), (.int (69 : Int32)), (.int (32 : Int32)), (.int (104 : Int32)), (.int (116 : Int32)), (.int (109 : Int32)), (.int (108 : Int32)), (.int (62 : Int32)), (.int (10 : Int32)), (.int (60 : Int32)), (.int (47 : Int32)), (.int ch1), (.int ch2), (.int ch3), (.int (62 : Int32)), (.int (0 : Int32)), (.int (0 : Int32)), (.int (0 : Int32)), (.int (0 : Int32)), (.int (0 : Int32)), (.int (0 : Int32)), (.int (0 : Int32)), (.int (0 : Int32)), (.int (0 : Int32)), (.int (0 : Int32))] (22 : Int32) r_345 bx_345 kb_345 (1 : Int32) [(.int ch4)] cs T379.heap n0 zD0 Op379 R379_0 R379_1 R379_2 R379_3 R379_4 Fk379 Vk379 f387 f388 f389 f390 g_sb_361 g_d_361 ne375 R361_10 hcs (by decide) rfl (by decide) (by decide) (by decide) (by decide) (by decide) (by decide) (by decide) (by decide) (by decide) (by decide)) (by decide) (by decide) rfl R379_0 (by decide) (by decide) (g := (mkF m 167 #[.val (.int p0), .val (.int p1), .val (.int p2), .val (.int p3), .val (.int p4), .val (.int (3 : Int32)), .val (.int ch1), .val (.int ch2), .val (.int ch3), .val (.int ch4), .val (.ref b1), .val (.ref r_17), .val (.ref b27), .val (.ref b83), .val (.ref b83), .val (.ref r_345), .val (.ref b352), .val (.ref b352), .unset, .unset] [(.ref r_345), (.ref b352)])) rfl (by rw [hml]; rfl) (argsL := [(.ref r_345)]) (rest := []) (lenOf pd_33 rfl) rfl (own_mr rfl rfl) (hb hby at_167) rfl
    obtain ⟨rfl, N386q, Kp386, Op386, R386_0, R386_1, R386_2, R386_3, R386_4, R386_5, R386_6, R386_7⟩ := hQ386
    have N386 := Fr.app N379 N386q
    refine Rch.st st386 ?_
    have CR391 := CR384.trans hC386
    have K392 := K385.trans Kp386 (allS (Or.inr sz_sb_361) (allS (Or.inr sz_d_361) all0))
    have Fk386 : Fld Z T386.heap sb_361 "java/lang/AbstractStringBuilder" "count" "I" (.int (26 : Int32)) := R386_5
    have Vk386 : Arv Z T386.heap d_361 kd_361 .byte (32 : Int32) [(.int (60 : Int32)), (.int (33 : Int32)), (.int (68 : Int32)), (.int (79 : Int32)), (.int (67 : Int32)), (.int (84 : Int32)), (.int (89 : Int32)), (.int (80 : Int32)), (.int (69 : Int32)), (.int (32 : Int32)), (.int (104 : Int32)), (.int (116 : Int32)), (.int (109 : Int32)), (.int (108 : Int32)), (.int (62 : Int32)), (.int (10 : Int32)), (.int (60 : Int32)), (.int (47 : Int32)), (.int ch1), (.int ch2), (.int ch3), (.int (62 : Int32)), (.int (60 : Int32)), (.int (47 : Int32)), (.int ch4), (.int (62 : Int32)), (.int (0 : Int32)), (.int (0 : Int32)), (.int (0 : Int32)), (.int (0 : Int32)), (.int (0 : Int32)), (.int (0 : Int32))] (.int (0 : Int32)) := R386_6
    show Rch p.tables e below _ (T386.setTop (mkF m 170 #[.val (.int p0), .val (.int p1), .val (.int p2), .val (.int p3), .val (.int p4), .val (.int (3 : Int32)), .val (.int ch1), .val (.int ch2), .val (.int ch3), .val (.int ch4), .val (.ref b1), .val (.ref r_17), .val (.ref b27), .val (.ref b83), .val (.ref b83), .val (.ref r_345), .val (.ref b352), .val (.ref b352), .unset, .unset] [(.ref b352)]))
    refine Rch.st (fun _ hr => XS.astore X386.here hx rfl (hb hby at_170) rfl rfl (l' := #[.val (.int p0), .val (.int p1), .val (.int p2), .val (.int p3), .val (.int p4), .val (.int (3 : Int32)), .val (.int ch1), .val (.int ch2), .val (.int ch3), .val (.int ch4), .val (.ref b1), .val (.ref r_17), .val (.ref b27), .val (.ref b83), .val (.ref b83), .val (.ref r_345), .val (.ref b352), .val (.ref b352), .val (.ref b352), .unset]) rfl hr) ?_
    refine Rch.st (fun _ hr => XS.aload X386.here hx rfl (hb hby at_172) rfl rfl hr) ?_
    refine Rch.st (fun _ hr => XS.aload X386.here hx rfl (hb hby at_174) rfl rfl hr) ?_
    refine Rch.st (fun _ hr => Jvm.RoadKit.acmp (g := (mkF m 176 #[.val (.int p0), .val (.int p1), .val (.int p2), .val (.int p3), .val (.int p4), .val (.int (3 : Int32)), .val (.int ch1), .val (.int ch2), .val (.int ch3), .val (.int ch4), .val (.ref b1), .val (.ref r_17), .val (.ref b27), .val (.ref b83), .val (.ref b83), .val (.ref r_345), .val (.ref b352), .val (.ref b352), .val (.ref b352), .unset] [(.ref b352), (.ref b352)])) X386 hx rfl rfl rfl (pc0 := 176) (pc' := 179) (same := true) rfl (hb hby at_176) rfl (decide_eq_true rfl) (by decide) (by decide) hr) ?_
    refine Rch.st (fun _ hr => XS.aload X386.here hx rfl (hb hby at_179) rfl rfl hr) ?_
    refine Rch.st (fun _ hr => XS.aload X386.here hx rfl (hb hby at_181) rfl rfl hr) ?_
    refine Rch.st (fun _ hr => Jvm.RoadKit.acmp (g := (mkF m 183 #[.val (.int p0), .val (.int p1), .val (.int p2), .val (.int p3), .val (.int p4), .val (.int (3 : Int32)), .val (.int ch1), .val (.int ch2), .val (.int ch3), .val (.int ch4), .val (.ref b1), .val (.ref r_17), .val (.ref b27), .val (.ref b83), .val (.ref b83), .val (.ref r_345), .val (.ref b352), .val (.ref b352), .val (.ref b352), .unset] [(.ref b352), (.ref b352)])) X386 hx rfl rfl rfl (pc0 := 183) (pc' := 188) (same := true) rfl (hb hby at_183) rfl (decide_eq_true rfl) (by decide) (by decide) hr) ?_
    refine Rch.st (fun _ hr => XS.aload X386.here hx rfl (hb hby at_188) rfl rfl hr) ?_
    show Rch p.tables e below _ (T386.setTop (mkF m 190 #[.val (.int p0), .val (.int p1), .val (.int p2), .val (.int p3), .val (.int p4), .val (.int (3 : Int32)), .val (.int ch1), .val (.int ch2), .val (.int ch3), .val (.int ch4), .val (.ref b1), .val (.ref r_17), .val (.ref b27), .val (.ref b83), .val (.ref b83), .val (.ref r_345), .val (.ref b352), .val (.ref b352), .val (.ref b352), .unset] [(.ref b352)]))
    obtain ⟨_, T393, Lc393, X393, hQ393, st393⟩ := own_callV X386 hx hZ386 (y := Y_40) (z := Y_40) hown386 (own_w hw 149 rfl) (own_w hw 150 rfl) (notFace_of_selects (args := #[]) (mvT hZ386 (own_w hw 152 rfl))) (own_w hw 152 rfl) (own_w hw 151 rfl) (own_w hw 49 rfl) (own_w hw 153 rfl) (by decide) (W := 0) (cbytes l Z a0 hw [] b352 sb_361 d_361 kd_361 [(.int (60 : Int32)), (.int (33 : Int32)), (.int (68 : Int32)), (.int (79 : Int32)), (.int (67 : Int32)), (.int (84 : Int32)), (.int (89 : Int32)), (.int (80 : Int32)), (.int (69 : Int32)), (.int (32 : Int32)), (.int (104 : Int32)), (.int (116 : Int32)), (.int (109 : Int32)), (.int (108 : Int32)), (.int (62 : Int32)), (.int (10 : Int32)), (.int (60 : Int32)), (.int (47 : Int32)), (.int ch1), (.int ch2), (.int ch3), (.int (62 : Int32)), (.int (60 : Int32)), (.int (47 : Int32)), (.int ch4), (.int (62 : Int32)), (.int (0 : Int32)), (.int (0 : Int32)), (.int (0 : Int32)), (.int (0 : Int32)), (.int (0 : Int32)), (.int (0 : Int32))] (26 : Int32) u cs T386.heap n0 zD0 zD1 zD2 Op386 R386_0 R386_1 R386_2 R386_3 R386_4 Fk386 Vk386 (by decide) (by decide) (by decide) (by decide) rfl hcs (own_posC (by decide) (own_posC (by decide) (own_posC (by decide) (own_posC (by decide) (own_posC (by decide) (own_posC (by decide) (own_posC (by decide) (own_posC (by decide) (own_posC (by decide) (own_posC (by decide) (own_posC (by decide) (own_posC (by decide) (own_posC (by decide) (own_posC (by decide) (own_posC (by decide) (own_posC (by decide) (own_posC (by decide) (own_posC (by decide) (own_posC (own_A0 hch1.2) (own_posC (own_A0 hch2.2) (own_posC (own_A0 hch3.2) (own_posC (by decide) (own_posC (by decide) (own_posC (by decide) (own_posC (own_A0 hch4.2) (own_posC (by decide) own_posZ))))))))))))))))))))))))))) (by decide) (by decide) rfl R386_0 (by decide) (by decide) (g := (mkF m 190 #[.val (.int p0), .val (.int p1), .val (.int p2), .val (.int p3), .val (.int p4), .val (.int (3 : Int32)), .val (.int ch1), .val (.int ch2), .val (.int ch3), .val (.int ch4), .val (.ref b1), .val (.ref r_17), .val (.ref b27), .val (.ref b83), .val (.ref b83), .val (.ref r_345), .val (.ref b352), .val (.ref b352), .val (.ref b352), .unset] [(.ref b352)])) rfl (by rw [hml]; rfl) (argsL := []) (rest := []) (lenOf pd_21 rfl) rfl (own_mr rfl rfl) (hb hby at_190) rfl
    obtain ⟨r_393, kr_393, rfl, N393q, Kp393, Op393, R393_0, R393_1⟩ := hQ393
    have N393 := Fr.app N386 N393q
    refine Rch.st st393 ?_
    have f394 := ((f382.keep Kp379 (ninS ne364 (ninS ne372 nin0))).keep Kp386 (ninS ne364 (ninS ne372 nin0)))
    have ne395 := Nat.ne_of_lt (Nat.lt_of_lt_of_le f394.lt R393_0)
    have f396 := ((f383.keep Kp379 (ninS ne366 (ninS ne373 nin0))).keep Kp386 (ninS ne366 (ninS ne373 nin0)))
    have ne397 := Nat.ne_of_lt (Nat.lt_of_lt_of_le f396.lt R393_0)
    have f398 := (f389.keep Kp386 (ninS ne368 (ninS ne374 nin0)))
    have ne399 := Nat.ne_of_lt (Nat.lt_of_lt_of_le f398.lt R393_0)
    have f400 := (f390.keep Kp386 (ninS ne370 (ninS ne375 nin0)))
    have ne401 := Nat.ne_of_lt (Nat.lt_of_lt_of_le f400.lt R393_0)
    have ne402 := Nat.ne_of_lt (Nat.lt_of_lt_of_le R386_1.lt R393_0)
    have ne403 := Nat.ne_of_lt (Nat.lt_of_lt_of_le Fk386.lt R393_0)
    have ne404 := Nat.ne_of_lt (Nat.lt_of_lt_of_le Vk386.lt R393_0)
    have g_r_393 : n0 ≤ r_393 := Nat.le_trans (Nat.le_trans (Nat.le_of_eq Op386.1.symm) Op386.2.1) R393_0
    have sz_r_393 : h0.size ≤ r_393 := Nat.le_trans K392.1 R393_0
    have cs405 := CHr.keep Kp393 sf0 CR391.1
    have CR405 := CR391.trans cs405
    have K406 := K392.trans Kp393 all0
    have Vk393 : Arv Z T393.heap r_393 kr_393 .byte (26 : Int32) [(.int (60 : Int32)), (.int (33 : Int32)), (.int (68 : Int32)), (.int (79 : Int32)), (.int (67 : Int32)), (.int (84 : Int32)), (.int (89 : Int32)), (.int (80 : Int32)), (.int (69 : Int32)), (.int (32 : Int32)), (.int (104 : Int32)), (.int (116 : Int32)), (.int (109 : Int32)), (.int (108 : Int32)), (.int (62 : Int32)), (.int (10 : Int32)), (.int (60 : Int32)), (.int (47 : Int32)), (.int ch1), (.int ch2), (.int ch3), (.int (62 : Int32)), (.int (60 : Int32)), (.int (47 : Int32)), (.int ch4), (.int (62 : Int32))] (.int (0 : Int32)) := R393_1
    refine Rch.st (fun _ hr => XS.astore X393.here hx rfl (hb hby at_193) rfl rfl (l' := #[.val (.int p0), .val (.int p1), .val (.int p2), .val (.int p3), .val (.int p4), .val (.int (3 : Int32)), .val (.int ch1), .val (.int ch2), .val (.int ch3), .val (.int ch4), .val (.ref b1), .val (.ref r_17), .val (.ref b27), .val (.ref b83), .val (.ref b83), .val (.ref r_345), .val (.ref b352), .val (.ref b352), .val (.ref b352), .val (.ref r_393)]) rfl hr) ?_
    refine Rch.st (fun _ hr => XS.aload X393.here hx rfl (hb hby at_195) rfl rfl hr) ?_
    obtain ⟨cl407, Ar407, -, Sz407, Ng407, -, -⟩ := id Vk393
    refine Rch.st (fun t hr => X393.arraylength hx Ar407.1 (State.isArrayOf_alike hZ386.alike Ar407.2.1) (g := (mkF m 197 #[.val (.int p0), .val (.int p1), .val (.int p2), .val (.int p3), .val (.int p4), .val (.int (3 : Int32)), .val (.int ch1), .val (.int ch2), .val (.int ch3), .val (.int ch4), .val (.ref b1), .val (.ref r_17), .val (.ref b27), .val (.ref b83), .val (.ref b83), .val (.ref r_345), .val (.ref b352), .val (.ref b352), .val (.ref b352), .val (.ref r_393)] [(.ref r_393)])) rfl rfl (hb hby at_197) t hr) ?_
    rw [len_of Sz407 Ng407]
    refine Rch.st (fun _ hr => XS.bipush X393.here hx rfl (hb hby at_198) hr) ?_
    refine Rch.st (fun _ hr => XS.iload X393.here hx rfl (hb hby at_200) rfl hr) ?_
    refine Rch.st (fun _ hr => XS.iadd X393.here hx rfl (hb hby at_202) rfl hr) ?_
    refine Rch.st (fun _ hr => XS.icmpYes X393.here hx rfl (pc0 := 203) (pc' := 208) rfl (hb hby at_203) rfl (teq (by decide : (26 : Int32) = (26 : Int32))).1 (by decide) (by decide) hr) ?_
    show Rch p.tables e below _ (T393.setTop (mkF m 208 #[.val (.int p0), .val (.int p1), .val (.int p2), .val (.int p3), .val (.int p4), .val (.int (3 : Int32)), .val (.int ch1), .val (.int ch2), .val (.int ch3), .val (.int ch4), .val (.ref b1), .val (.ref r_17), .val (.ref b27), .val (.ref b83), .val (.ref b83), .val (.ref r_345), .val (.ref b352), .val (.ref b352), .val (.ref b352), .val (.ref r_393)] []))
    refine Rch.st (fun _ hr => XS.aload X393.here hx rfl (hb hby at_208) rfl rfl hr) ?_
    refine Rch.st (fun _ hr => XS.iconst X393.here hx rfl (hb hby at_210) hr) ?_
    refine Rch.st (fun _ hr => own_bal X393 hx hZ386 rfl Vk393 (v := (.int (60 : Int32))) rfl (by decide) (by decide) (hb hby at_211) hr) ?_
    refine Rch.st (fun _ hr => XS.bipush X393.here hx rfl (hb hby at_212) hr) ?_
    refine Rch.st (fun _ hr => XS.icmpNo X393.here hx rfl (hb hby at_214) rfl (teq (by decide : (60 : Int32) = (60 : Int32))).2 hr) ?_
    refine Rch.st (fun _ hr => XS.aload X393.here hx rfl (hb hby at_217) rfl rfl hr) ?_
    refine Rch.st (fun _ hr => XS.bipush X393.here hx rfl (hb hby at_219) hr) ?_
    refine Rch.st (fun _ hr => own_bal X393 hx hZ386 rfl Vk393 (v := (.int (62 : Int32))) rfl (by decide) (by decide) (hb hby at_221) hr) ?_
    show Rch p.tables e below _ (T393.setTop (mkF m 222 #[.val (.int p0), .val (.int p1), .val (.int p2), .val (.int p3), .val (.int p4), .val (.int (3 : Int32)), .val (.int ch1), .val (.int ch2), .val (.int ch3), .val (.int ch4), .val (.ref b1), .val (.ref r_17), .val (.ref b27), .val (.ref b83), .val (.ref b83), .val (.ref r_345), .val (.ref b352), .val (.ref b352), .val (.ref b352), .val (.ref r_393)] [(.int (62 : Int32))]))
    refine Rch.st (fun _ hr => XS.bipush X393.here hx rfl (hb hby at_222) hr) ?_
    refine Rch.st (fun _ hr => XS.icmpNo X393.here hx rfl (hb hby at_224) rfl (teq (by decide : (62 : Int32) = (62 : Int32))).2 hr) ?_
    refine Rch.st (fun _ hr => XS.aload X393.here hx rfl (hb hby at_227) rfl rfl hr) ?_
    refine Rch.st (fun _ hr => XS.bipush X393.here hx rfl (hb hby at_229) hr) ?_
    refine Rch.st (fun _ hr => own_bal X393 hx hZ386 rfl Vk393 (v := (.int (10 : Int32))) rfl (by decide) (by decide) (hb hby at_231) hr) ?_
    refine Rch.st (fun _ hr => XS.bipush X393.here hx rfl (hb hby at_232) hr) ?_
    refine Rch.st (fun _ hr => XS.icmpYes X393.here hx rfl (pc0 := 234) (pc' := 239) rfl (hb hby at_234) rfl (teq (by decide : (10 : Int32) = (10 : Int32))).1 (by decide) (by decide) hr) ?_
    refine Rch.st (fun _ hr => XS.aload X393.here hx rfl (hb hby at_239) rfl rfl hr) ?_
    show Rch p.tables e below _ (T393.setTop (mkF m 241 #[.val (.int p0), .val (.int p1), .val (.int p2), .val (.int p3), .val (.int p4), .val (.int (3 : Int32)), .val (.int ch1), .val (.int ch2), .val (.int ch3), .val (.int ch4), .val (.ref b1), .val (.ref r_17), .val (.ref b27), .val (.ref b83), .val (.ref b83), .val (.ref r_345), .val (.ref b352), .val (.ref b352), .val (.ref b352), .val (.ref r_393)] [(.ref r_393)]))
    refine Rch.st (fun _ hr => XS.bipush X393.here hx rfl (hb hby at_241) hr) ?_
    refine Rch.st (fun _ hr => own_bal X393 hx hZ386 rfl Vk393 (v := (.int (60 : Int32))) rfl (by decide) (by decide) (hb hby at_243) hr) ?_
    refine Rch.st (fun _ hr => XS.bipush X393.here hx rfl (hb hby at_244) hr) ?_
    refine Rch.st (fun _ hr => XS.icmpNo X393.here hx rfl (hb hby at_246) rfl (teq (by decide : (60 : Int32) = (60 : Int32))).2 hr) ?_
    refine Rch.st (fun _ hr => XS.aload X393.here hx rfl (hb hby at_249) rfl rfl hr) ?_
    refine Rch.st (fun _ hr => XS.bipush X393.here hx rfl (hb hby at_251) hr) ?_
    refine Rch.st (fun _ hr => own_bal X393 hx hZ386 rfl Vk393 (v := (.int (47 : Int32))) rfl (by decide) (by decide) (hb hby at_253) hr) ?_
    refine Rch.st (fun _ hr => XS.bipush X393.here hx rfl (hb hby at_254) hr) ?_
    show Rch p.tables e below _ (T393.setTop (mkF m 256 #[.val (.int p0), .val (.int p1), .val (.int p2), .val (.int p3), .val (.int p4), .val (.int (3 : Int32)), .val (.int ch1), .val (.int ch2), .val (.int ch3), .val (.int ch4), .val (.ref b1), .val (.ref r_17), .val (.ref b27), .val (.ref b83), .val (.ref b83), .val (.ref r_345), .val (.ref b352), .val (.ref b352), .val (.ref b352), .val (.ref r_393)] [(.int (47 : Int32)), (.int (47 : Int32))]))
    refine Rch.st (fun _ hr => XS.icmpYes X393.here hx rfl (pc0 := 256) (pc' := 261) rfl (hb hby at_256) rfl (teq (by decide : (47 : Int32) = (47 : Int32))).1 (by decide) (by decide) hr) ?_
    refine Rch.st (fun _ hr => XS.iload X393.here hx rfl (hb hby at_261) rfl hr) ?_
    refine Rch.st (fun _ hr => XS.iconst X393.here hx rfl (hb hby at_263) hr) ?_
    refine Rch.st (fun _ hr => XS.icmpNo X393.here hx rfl (hb hby at_264) rfl (flt (by decide : ¬ ((3 : Int32) < (1 : Int32)))).1 hr) ?_
    refine Rch.st (fun _ hr => XS.aload X393.here hx rfl (hb hby at_267) rfl rfl hr) ?_
    refine Rch.st (fun _ hr => XS.bipush X393.here hx rfl (hb hby at_269) hr) ?_
    refine Rch.st (fun _ hr => own_bal X393 hx hZ386 rfl Vk393 (v := (.int ch1)) rfl (by decide) (by decide) (hb hby at_271) hr) ?_
    refine Rch.st (fun _ hr => XS.iload X393.here hx rfl (hb hby at_272) rfl hr) ?_
    show Rch p.tables e below _ (T393.setTop (mkF m 274 #[.val (.int p0), .val (.int p1), .val (.int p2), .val (.int p3), .val (.int p4), .val (.int (3 : Int32)), .val (.int ch1), .val (.int ch2), .val (.int ch3), .val (.int ch4), .val (.ref b1), .val (.ref r_17), .val (.ref b27), .val (.ref b83), .val (.ref b83), .val (.ref r_345), .val (.ref b352), .val (.ref b352), .val (.ref b352), .val (.ref r_393)] [(.int ch1), (.int ch1)]))
    refine Rch.st (fun _ hr => XS.i2b X393.here hx rfl (hb hby at_274) rfl hr) ?_
    show Rch p.tables e below _ (T393.setTop (mkF m 275 #[.val (.int p0), .val (.int p1), .val (.int p2), .val (.int p3), .val (.int p4), .val (.int (3 : Int32)), .val (.int ch1), .val (.int ch2), .val (.int ch3), .val (.int ch4), .val (.ref b1), .val (.ref r_17), .val (.ref b27), .val (.ref b83), .val (.ref b83), .val (.ref r_345), .val (.ref b352), .val (.ref b352), .val (.ref b352), .val (.ref r_393)] [(.int (ch1.toInt8.toInt32)), (.int ch1)]))
    rw [own_i2b hch1.2]
    refine Rch.st (fun _ hr => XS.icmpYes X393.here hx rfl (pc0 := 275) (pc' := 280) rfl (hb hby at_275) rfl (teq rfl).1 (by decide) (by decide) hr) ?_
    refine Rch.st (fun _ hr => XS.iload X393.here hx rfl (hb hby at_280) rfl hr) ?_
    refine Rch.st (fun _ hr => XS.iconst X393.here hx rfl (hb hby at_282) hr) ?_
    refine Rch.st (fun _ hr => XS.icmpNo X393.here hx rfl (hb hby at_283) rfl (flt (by decide : ¬ ((3 : Int32) < (2 : Int32)))).1 hr) ?_
    refine Rch.st (fun _ hr => XS.aload X393.here hx rfl (hb hby at_286) rfl rfl hr) ?_
    refine Rch.st (fun _ hr => XS.bipush X393.here hx rfl (hb hby at_288) hr) ?_
    refine Rch.st (fun _ hr => own_bal X393 hx hZ386 rfl Vk393 (v := (.int ch2)) rfl (by decide) (by decide) (hb hby at_290) hr) ?_
    show Rch p.tables e below _ (T393.setTop (mkF m 291 #[.val (.int p0), .val (.int p1), .val (.int p2), .val (.int p3), .val (.int p4), .val (.int (3 : Int32)), .val (.int ch1), .val (.int ch2), .val (.int ch3), .val (.int ch4), .val (.ref b1), .val (.ref r_17), .val (.ref b27), .val (.ref b83), .val (.ref b83), .val (.ref r_345), .val (.ref b352), .val (.ref b352), .val (.ref b352), .val (.ref r_393)] [(.int ch2)]))
    refine Rch.st (fun _ hr => XS.iload X393.here hx rfl (hb hby at_291) rfl hr) ?_
    refine Rch.st (fun _ hr => XS.i2b X393.here hx rfl (hb hby at_293) rfl hr) ?_
    show Rch p.tables e below _ (T393.setTop (mkF m 294 #[.val (.int p0), .val (.int p1), .val (.int p2), .val (.int p3), .val (.int p4), .val (.int (3 : Int32)), .val (.int ch1), .val (.int ch2), .val (.int ch3), .val (.int ch4), .val (.ref b1), .val (.ref r_17), .val (.ref b27), .val (.ref b83), .val (.ref b83), .val (.ref r_345), .val (.ref b352), .val (.ref b352), .val (.ref b352), .val (.ref r_393)] [(.int (ch2.toInt8.toInt32)), (.int ch2)]))
    rw [own_i2b hch2.2]
    refine Rch.st (fun _ hr => XS.icmpYes X393.here hx rfl (pc0 := 294) (pc' := 299) rfl (hb hby at_294) rfl (teq rfl).1 (by decide) (by decide) hr) ?_
    refine Rch.st (fun _ hr => XS.iload X393.here hx rfl (hb hby at_299) rfl hr) ?_
    refine Rch.st (fun _ hr => XS.iconst X393.here hx rfl (hb hby at_301) hr) ?_
    refine Rch.st (fun _ hr => XS.icmpNo X393.here hx rfl (hb hby at_302) rfl (flt (by decide : ¬ ((3 : Int32) < (3 : Int32)))).1 hr) ?_
    refine Rch.st (fun _ hr => XS.aload X393.here hx rfl (hb hby at_305) rfl rfl hr) ?_
    refine Rch.st (fun _ hr => XS.bipush X393.here hx rfl (hb hby at_307) hr) ?_
    refine Rch.st (fun _ hr => own_bal X393 hx hZ386 rfl Vk393 (v := (.int ch3)) rfl (by decide) (by decide) (hb hby at_309) hr) ?_
    show Rch p.tables e below _ (T393.setTop (mkF m 310 #[.val (.int p0), .val (.int p1), .val (.int p2), .val (.int p3), .val (.int p4), .val (.int (3 : Int32)), .val (.int ch1), .val (.int ch2), .val (.int ch3), .val (.int ch4), .val (.ref b1), .val (.ref r_17), .val (.ref b27), .val (.ref b83), .val (.ref b83), .val (.ref r_345), .val (.ref b352), .val (.ref b352), .val (.ref b352), .val (.ref r_393)] [(.int ch3)]))
    refine Rch.st (fun _ hr => XS.iload X393.here hx rfl (hb hby at_310) rfl hr) ?_
    refine Rch.st (fun _ hr => XS.i2b X393.here hx rfl (hb hby at_312) rfl hr) ?_
    show Rch p.tables e below _ (T393.setTop (mkF m 313 #[.val (.int p0), .val (.int p1), .val (.int p2), .val (.int p3), .val (.int p4), .val (.int (3 : Int32)), .val (.int ch1), .val (.int ch2), .val (.int ch3), .val (.int ch4), .val (.ref b1), .val (.ref r_17), .val (.ref b27), .val (.ref b83), .val (.ref b83), .val (.ref r_345), .val (.ref b352), .val (.ref b352), .val (.ref b352), .val (.ref r_393)] [(.int (ch3.toInt8.toInt32)), (.int ch3)]))
    rw [own_i2b hch3.2]
    refine Rch.st (fun _ hr => XS.icmpYes X393.here hx rfl (pc0 := 313) (pc' := 318) rfl (hb hby at_313) rfl (teq rfl).1 (by decide) (by decide) hr) ?_
    refine Rch.st (fun _ hr => XS.aload X393.here hx rfl (hb hby at_318) rfl rfl hr) ?_
    refine Rch.st (fun _ hr => XS.bipush X393.here hx rfl (hb hby at_320) hr) ?_
    refine Rch.st (fun _ hr => XS.iload X393.here hx rfl (hb hby at_322) rfl hr) ?_
    refine Rch.st (fun _ hr => XS.iadd X393.here hx rfl (hb hby at_324) rfl hr) ?_
    refine Rch.st (fun _ hr => own_bal X393 hx hZ386 rfl Vk393 (v := (.int (62 : Int32))) rfl (by decide) (by decide) (hb hby at_325) hr) ?_
    refine Rch.st (fun _ hr => XS.bipush X393.here hx rfl (hb hby at_326) hr) ?_
    show Rch p.tables e below _ (T393.setTop (mkF m 328 #[.val (.int p0), .val (.int p1), .val (.int p2), .val (.int p3), .val (.int p4), .val (.int (3 : Int32)), .val (.int ch1), .val (.int ch2), .val (.int ch3), .val (.int ch4), .val (.ref b1), .val (.ref r_17), .val (.ref b27), .val (.ref b83), .val (.ref b83), .val (.ref r_345), .val (.ref b352), .val (.ref b352), .val (.ref b352), .val (.ref r_393)] [(.int (62 : Int32)), (.int (62 : Int32))]))
    refine Rch.st (fun _ hr => XS.icmpYes X393.here hx rfl (pc0 := 328) (pc' := 333) rfl (hb hby at_328) rfl (teq (by decide : (62 : Int32) = (62 : Int32))).1 (by decide) (by decide) hr) ?_
    refine Rch.st (fun _ hr => XS.aload X393.here hx rfl (hb hby at_333) rfl rfl hr) ?_
    refine Rch.st (fun _ hr => XS.bipush X393.here hx rfl (hb hby at_335) hr) ?_
    refine Rch.st (fun _ hr => XS.iload X393.here hx rfl (hb hby at_337) rfl hr) ?_
    refine Rch.st (fun _ hr => XS.iadd X393.here hx rfl (hb hby at_339) rfl hr) ?_
    refine Rch.st (fun _ hr => own_bal X393 hx hZ386 rfl Vk393 (v := (.int (60 : Int32))) rfl (by decide) (by decide) (hb hby at_340) hr) ?_
    refine Rch.st (fun _ hr => XS.bipush X393.here hx rfl (hb hby at_341) hr) ?_
    refine Rch.st (fun _ hr => XS.icmpNo X393.here hx rfl (hb hby at_343) rfl (teq (by decide : (60 : Int32) = (60 : Int32))).2 hr) ?_
    show Rch p.tables e below _ (T393.setTop (mkF m 346 #[.val (.int p0), .val (.int p1), .val (.int p2), .val (.int p3), .val (.int p4), .val (.int (3 : Int32)), .val (.int ch1), .val (.int ch2), .val (.int ch3), .val (.int ch4), .val (.ref b1), .val (.ref r_17), .val (.ref b27), .val (.ref b83), .val (.ref b83), .val (.ref r_345), .val (.ref b352), .val (.ref b352), .val (.ref b352), .val (.ref r_393)] []))
    refine Rch.st (fun _ hr => XS.aload X393.here hx rfl (hb hby at_346) rfl rfl hr) ?_
    refine Rch.st (fun _ hr => XS.bipush X393.here hx rfl (hb hby at_348) hr) ?_
    refine Rch.st (fun _ hr => XS.iload X393.here hx rfl (hb hby at_350) rfl hr) ?_
    refine Rch.st (fun _ hr => XS.iadd X393.here hx rfl (hb hby at_352) rfl hr) ?_
    refine Rch.st (fun _ hr => own_bal X393 hx hZ386 rfl Vk393 (v := (.int (47 : Int32))) rfl (by decide) (by decide) (hb hby at_353) hr) ?_
    refine Rch.st (fun _ hr => XS.bipush X393.here hx rfl (hb hby at_354) hr) ?_
    refine Rch.st (fun _ hr => XS.icmpYes X393.here hx rfl (pc0 := 356) (pc' := 361) rfl (hb hby at_356) rfl (teq (by decide : (47 : Int32) = (47 : Int32))).1 (by decide) (by decide) hr) ?_
    refine Rch.st (fun _ hr => XS.aload X393.here hx rfl (hb hby at_361) rfl rfl hr) ?_
    show Rch p.tables e below _ (T393.setTop (mkF m 363 #[.val (.int p0), .val (.int p1), .val (.int p2), .val (.int p3), .val (.int p4), .val (.int (3 : Int32)), .val (.int ch1), .val (.int ch2), .val (.int ch3), .val (.int ch4), .val (.ref b1), .val (.ref r_17), .val (.ref b27), .val (.ref b83), .val (.ref b83), .val (.ref r_345), .val (.ref b352), .val (.ref b352), .val (.ref b352), .val (.ref r_393)] [(.ref r_393)]))
    refine Rch.st (fun _ hr => XS.bipush X393.here hx rfl (hb hby at_363) hr) ?_
    refine Rch.st (fun _ hr => XS.iload X393.here hx rfl (hb hby at_365) rfl hr) ?_
    refine Rch.st (fun _ hr => XS.iadd X393.here hx rfl (hb hby at_367) rfl hr) ?_
    refine Rch.st (fun _ hr => own_bal X393 hx hZ386 rfl Vk393 (v := (.int ch4)) rfl (by decide) (by decide) (hb hby at_368) hr) ?_
    refine Rch.st (fun _ hr => XS.iload X393.here hx rfl (hb hby at_369) rfl hr) ?_
    refine Rch.st (fun _ hr => XS.i2b X393.here hx rfl (hb hby at_371) rfl hr) ?_
    show Rch p.tables e below _ (T393.setTop (mkF m 372 #[.val (.int p0), .val (.int p1), .val (.int p2), .val (.int p3), .val (.int p4), .val (.int (3 : Int32)), .val (.int ch1), .val (.int ch2), .val (.int ch3), .val (.int ch4), .val (.ref b1), .val (.ref r_17), .val (.ref b27), .val (.ref b83), .val (.ref b83), .val (.ref r_345), .val (.ref b352), .val (.ref b352), .val (.ref b352), .val (.ref r_393)] [(.int (ch4.toInt8.toInt32)), (.int ch4)]))
    rw [own_i2b hch4.2]
    refine Rch.st (fun _ hr => XS.icmpYes X393.here hx rfl (pc0 := 372) (pc' := 377) rfl (hb hby at_372) rfl (teq rfl).1 (by decide) (by decide) hr) ?_
    refine Rch.st (fun _ hr => XS.aload X393.here hx rfl (hb hby at_377) rfl rfl hr) ?_
    refine Rch.st (fun _ hr => XS.bipush X393.here hx rfl (hb hby at_379) hr) ?_
    refine Rch.st (fun _ hr => XS.iload X393.here hx rfl (hb hby at_381) rfl hr) ?_
    refine Rch.st (fun _ hr => XS.iadd X393.here hx rfl (hb hby at_383) rfl hr) ?_
    refine Rch.st (fun _ hr => own_bal X393 hx hZ386 rfl Vk393 (v := (.int (62 : Int32))) rfl (by decide) (by decide) (hb hby at_384) hr) ?_
    refine Rch.st (fun _ hr => XS.bipush X393.here hx rfl (hb hby at_385) hr) ?_
    show Rch p.tables e below _ (T393.setTop (mkF m 387 #[.val (.int p0), .val (.int p1), .val (.int p2), .val (.int p3), .val (.int p4), .val (.int (3 : Int32)), .val (.int ch1), .val (.int ch2), .val (.int ch3), .val (.int ch4), .val (.ref b1), .val (.ref r_17), .val (.ref b27), .val (.ref b83), .val (.ref b83), .val (.ref r_345), .val (.ref b352), .val (.ref b352), .val (.ref b352), .val (.ref r_393)] [(.int (62 : Int32)), (.int (62 : Int32))]))
    refine Rch.st (fun _ hr => XS.icmpNo X393.here hx rfl (hb hby at_387) rfl (teq (by decide : (62 : Int32) = (62 : Int32))).2 hr) ?_
    refine Rch.st (fun _ hr => XS.iconst X393.here hx rfl (hb hby at_390) hr) ?_
    refine Rch.st (fun _ hr => XS.goto X393.here hx rfl (pc0 := 391) (pc' := 395) rfl (hb hby at_391) (by decide) (by decide) hr) ?_
    obtain ⟨fs, hr, hrun, hended, hREW⟩ := Jvm.Stand.leaveW (s := s) (vm₁ := T386.vm) X393 hS386 (Nat.le_trans (Nat.le_refl _) Kp393.1) (v := some (.int (1 : Int32))) (fun h => by rw [Bd.returns] at h; cases h)
    have hCE : CHr Z consts_1 s.vm s.heap T393.vm T393.heap := by rw [hh]; exact CR405.trans (CHv.at (s := s) (vm0 := T386.vm) X393 hZ386 (own_EW hw) CR405.1)
    refine Rch.fin (u := T393.setFrames fs) (retN X393 hx (t := .boolean) Bd.returns (by simp) (hb hby at_395) hr) ⟨_, hrun, hended, _, _, rfl, ?_, hCE, hREW.1, hREW.2.1, hREW.2.2.1, hREW.2.2.2.mono (by decide) (by decide)⟩
    show Q_claw Z p0 p1 p2 p3 p4 cs u h0 n0 _ T393.heap _ T393.vm
    exact ⟨rfl, N393, K406, Op393⟩
theorem own_eqR {t1 t2 : Term} {args : Array Value} {s : State} {a b : Addr} (h1 : t1.eval args s none [] s = some (.ref a)) (h2 : t2.eval args s none [] s = some (.ref b)) (h : (Cond.eq t1 t2).value args s none s [] = some true) : a = b := by
  simp [Cond.value, h1, h2] at h
  exact h
theorem own_ne0 {t : Term} {n cs : Int32} {args : Array Value} {s : State} (h1 : t.eval args s none [] s = some (.int cs)) (h : (Cond.not (Cond.eq t (.int n))).value args s none s [] = some true) : ¬ cs = n := fun q => by
  have hn : (Term.int n).eval args s none [] s = some (.int n) := rfl
  subst q
  simp [Cond.value, h1, hn] at h
set_option maxRecDepth 65536 in
set_option maxHeartbeats 40000000 in
theorem comes_1 {Post : Tables → Env → Array Value → State → Outcome → State → Prop} (hpost : ∀ tb e args s v u, (limb_1_1.after args s (.returned v) u = true ∧ limb_1_2.after args s (.returned v) u = true ∧ True) → ReturnedEndW s (.returned v) u (Jvm.fieldLocs frame_1_writes args s ++ Jvm.arrayLocs frame_1_arrays args s ++ Jvm.staticLocs frame_1_statics s) 56 3456 → Post tb e args s (.returned v) u) :
    ArmFor flags0 classFile x code maxLocals ret World_1 tables_1 room_1 Calls_1 rest_1 Pre_1 Post := by
  intro l hfl _ _ p e ha hc hk s m args below hf hA hF happ hP
  obtain ⟨hcalls, hrest, hpre⟩ := hP
  obtain ⟨-, -, -, hnamed, -, -, -, hat⟩ := (Spec.applies_iff hf).mp happ
  obtain ⟨hg, hn⟩ := and_e (Cond.before_iff.mp (show (Jvm.Cond.and given_1 narrow_1).before args s = true from hpre))
  obtain ⟨g1, g2⟩ := and_e hg
  obtain ⟨g3, g4⟩ := and_e g2
  obtain ⟨g5, g6⟩ := and_e g4
  obtain ⟨g7, g8⟩ := and_e g6
  obtain ⟨g9, g10⟩ := and_e g8
  obtain ⟨v0, v1, v2, v3, v4, rfl⟩ : ∃ v0 v1 v2 v3 v4 : Value, args = #[v0, v1, v2, v3, v4] := by
    have hs : args.size = 5 := by simpa [Cond.value, given_1] using g1
    obtain ⟨L⟩ := args
    match L, hs with
    | [v0, v1, v2, v3, v4], _ => exact ⟨v0, v1, v2, v3, v4, rfl⟩
  have hw := fun d (hd : d ∈ tables_1) => atoms_spec (ws := Jvm.Cond.code x code maxLocals ret :: tables_1) hat d (List.mem_cons_of_mem _ hd)
  have hfit : Fit s := fun {y c} hc i hi => by
    obtain ⟨ha, rfl⟩ := Array.getElem?_eq_some_iff.mp hc
    have q := List.all_eq_true.mp ((Array.all_eq_true_iff_forall_mem.mp hF) _ (Array.getElem_mem ha)) i (List.mem_range.mpr hi)
    simpa [Array.getElem?_eq_getElem hi] using q
  obtain ⟨hsets, hown0⟩ := atoms_of _ (rest_1_c_eq ▸ (show rest_1_c.before _ s = true from hrest))
  obtain ⟨i0, ei0⟩ := is_v g3
  obtain rfl : v0 = (.int i0) := Option.some.inj ei0
  obtain ⟨i1, ei1⟩ := is_v g5
  obtain rfl : v1 = (.int i1) := Option.some.inj ei1
  obtain ⟨i2, ei2⟩ := is_v g7
  obtain rfl : v2 = (.int i2) := Option.some.inj ei2
  obtain ⟨i3, ei3⟩ := is_v g9
  obtain rfl : v3 = (.int i3) := Option.some.inj ei3
  obtain ⟨i4, ei4⟩ := is_v g10
  obtain rfl : v4 = (.int i4) := Option.some.inj ei4
  obtain ⟨cs, ev_cs⟩ := is_v (Cond.before_iff.mp (own_w hsets 1 rfl))
  have D0 := Sta.start ev_cs (Or.inl (own_w hsets 0 rfl))
  have hcs : ¬ cs = (0 : Int32) := own_ne0 ev_cs (Cond.before_iff.mp (own_w hsets 2 rfl))
  obtain ⟨u, ev_us⟩ := exa_v (Cond.before_iff.mp (own_w hsets 14 rfl))
  obtain ⟨u2, ev_ui⟩ := exa_v (Cond.before_iff.mp (own_w hsets 17 rfl))
  obtain rfl : u = u2 := own_eqR ev_us ev_ui (Cond.before_iff.mp (own_w hsets 13 rfl))
  have D1 := Sta.start ev_ui (Or.inl (own_w hsets 12 rfl))
  have D2 := Sta.start ev_us (Or.inl (own_w hsets 10 rfl))
  have hCH0 : CHv s consts_1 s.vm s.heap := CHv.start (own_EW hw) (fun p hp => hcalls.1 p hp) (own_w hsets 2 rfl) (own_w hw 15 rfl) (own_w hw 1 rfl)
  obtain ⟨n, o, h1, h2, h3, _, L, rfl, hQ, -, hq⟩ := claw l s _ hw tables_1 i0 i1 i2 i3 i4 cs u s.heap s.heap.size D0 D1 D2 (Old.start s) hcs p e ha hc hk s m _ below hf ((Spec.applies_iff_loose hf).mp happ).1 ⟨rfl, State.Warmed39.refl s, rfl, hCH0, all0⟩ trivial
  obtain ⟨rfl, N, -⟩ := hQ
  refine ⟨n, _, h1, h2, h3, hpost _ _ _ _ _ _ ⟨Cond.after_iff.mpr rfl, Cond.after_iff.mpr (eq_i res_at (Term.int_eval (1)) rfl), trivial⟩ ⟨hq.1, hq.2.1, hq.2.2.1, (hq.2.2.2.sift fun y hy => Or.inr (N y hy)).mono (by decide) (by decide)⟩⟩
theorem main_1_1 : Claimed_1_1 := comes_1 fun _ _ _ _ _ _ h hF => ⟨h.1, hF⟩
theorem main_1_2 : Claimed_1_2 := comes_1 fun _ _ _ _ _ _ h hF => ⟨h.2.1, hF⟩
end Jvm.Pilot.@@N@@
namespace Jvm.Pilot.@@N@@
open Jvm Jvm.ClassFile Sem Op Lib Jvm.Free Jvm.Stand Jvm.Pilot.@@N@@.Jvm.D
/-! MADE BY PROGRAM (witnessworld.py) out of the Statement's table words and the real class files: 32 classes; the members and pool entries that the words name. The judged class is class 1, her method 1. -/
namespace start1
open Jvm.ClassFile
def u (s : String) : CpInfo := .utf8 (stringToUtf16 s)
/-- a pool by its gaps: so many unusable entries, then the entry; so many at the end -/
def gap : Nat → List CpInfo → List CpInfo
  | 0, r => r
  | n + 1, r => .unusable :: gap n r
def poolList (es : List (Nat × CpInfo)) (last : Nat) : List CpInfo := es.foldr (fun e r => gap e.1 (e.2 :: r)) (gap last [])
def pool (es : List (Nat × CpInfo)) (last : Nat) : Array CpInfo := ⟨poolList es last⟩
def fileOf (pool : Array CpInfo) (this : Nat) (attrs : Array Attribute := #[]) (ms : Array MethodInfo := #[]) (fl : Nat := 33) (sup : Nat := 0) (ifs : Array Nat := #[]) (fds : Array FieldInfo := #[]) : ClassFile where
  minorVersion := 0
  majorVersion := 65
  constantPool := pool
  accessFlags := fl
  thisClass := this
  superClass := sup
  interfaces := ifs
  fields := fds
  methods := ms
  attributes := attrs
def plain (name : String) (sup : Option ClassId) : Class where
  name := name
  kind := .ordinary
  loader := none
  accessFlags := 33
  super := sup
  interfaces := #[]
  cf := none
  fields := #[]
  methods := #[]
  instanceTypes := #[]
  staticTypes := #[]
  resolved := #[]
  callSites := []
  init := .initialized
  statics := none
  mirror := none

def pool0 : Array CpInfo := pool [(5, u "<init>"), (0, u "()V"), (1, .class_ 10), (1, u "java/lang/Object"), (85, u "clone"), (0, u "()Ljava/lang/Object;")] 26

def k0c0 : Code := { maxStack := 0, maxLocals := 1, code := object_method_1_code, exceptionTable := #[], attributes := #[] }
def k0m0 : Method := { name := "<init>", desc := "()V", sig := { parameters := [], returnType := none }, accessFlags := 1, code := some k0c0 }
def k0m1 : Method := { name := "clone", desc := "()Ljava/lang/Object;", sig := { parameters := [], returnType := some (.object "java/lang/Object") }, accessFlags := 260, code := none }
/-- java/lang/Object -/
def k0 : Class := { plain "java/lang/Object" none with
  accessFlags := 33
  interfaces := #[]
  cf := some (fileOf pool0 8 #[] #[{ accessFlags := 1, nameIndex := 5, descriptorIndex := 6, attributes := #[] }, { accessFlags := 260, nameIndex := 96, descriptorIndex := 97, attributes := #[] }] 33 0 #[] #[])
  fields := #[]
  methods := #[k0m0, k0m1]
  instanceTypes := #[]
  staticTypes := #[]
  resolved := Array.replicate 124 none
  statics := none }

def pool1 : Array CpInfo := pool [(2, .class_ 4), (0, .nameAndType 5 6), (0, u "java/lang/Object"), (0, u "<init>"), (0, u "()V"), (0, .class_ 8), (0, u "java/lang/String"), (0, .methodref 7 10), (0, .nameAndType 5 11), (0, u "([C)V"), (0, .methodref 7 13), (0, .nameAndType 14 15), (0, u "valueOf"), (0, u "(C)Ljava/lang/String;"), (0, .class_ 17), (0, u "com/example/orrery/orrery/server/Html"), (0, .methodref 16 3), (0, .methodref 16 20), (0, .nameAndType 21 22), (0, u "close"), (0, u "(Ljava/lang/String;)Lcom/example/orrery/orrery/server/Html;"), (0, .methodref 16 24), (0, .nameAndType 25 26), (0, u "bytes"), (0, u "()[B"), (0, .class_ 28), (0, u "com/example/orrery/orrery/server/HtmlClosePinLaw"), (2, u "law"), (0, u "(IIIII)Z")] 5

def k1m0 : Method := { name := "<init>", desc := "()V", sig := { parameters := [], returnType := none }, accessFlags := 1, code := none }
def k1c1 : Code := { maxStack := 6, maxLocals := 20, code := code, exceptionTable := #[], attributes := #[] }
def k1m1 : Method := { name := "law", desc := "(IIIII)Z", sig := { parameters := [.int, .int, .int, .int, .int], returnType := some .boolean }, accessFlags := 9, code := some k1c1 }
/-- com/example/orrery/orrery/server/HtmlClosePinLaw -/
def k1 : Class := { plain "com/example/orrery/orrery/server/HtmlClosePinLaw" (some 0) with
  accessFlags := 49
  interfaces := #[]
  cf := some (fileOf pool1 27 #[] #[{ accessFlags := 1, nameIndex := 5, descriptorIndex := 6, attributes := #[] }, { accessFlags := 9, nameIndex := 31, descriptorIndex := 32, attributes := #[] }] 49 2 #[] #[])
  fields := #[]
  methods := #[k1m0, k1m1]
  instanceTypes := #[]
  staticTypes := #[]
  resolved := Array.replicate 38 none
  statics := none }

def pool2 : Array CpInfo := pool [(1, .class_ 2), (0, u "java/io/Serializable"), (0, .class_ 4), (0, u "java/lang/Object")] 2

/-- java/io/Serializable -/
def k2 : Class := { plain "java/io/Serializable" (some 0) with
  accessFlags := 1537
  interfaces := #[]
  cf := some (fileOf pool2 1 #[] #[] 1537 3 #[] #[])
  fields := #[]
  methods := #[]
  instanceTypes := #[]
  staticTypes := #[]
  resolved := Array.replicate 7 none
  statics := none }

def pool3 : Array CpInfo := pool [(1, .class_ 2), (0, u "java/lang/Comparable"), (0, .class_ 4), (0, u "java/lang/Object")] 7

/-- java/lang/Comparable -/
def k3 : Class := { plain "java/lang/Comparable" (some 0) with
  accessFlags := 1537
  interfaces := #[]
  cf := some (fileOf pool3 1 #[] #[] 1537 3 #[] #[])
  fields := #[]
  methods := #[]
  instanceTypes := #[]
  staticTypes := #[]
  resolved := Array.replicate 12 none
  statics := none }

def pool4 : Array CpInfo := pool [(2, .class_ 4), (1, u "java/lang/CharSequence"), (42, .class_ 48), (0, u "java/lang/CharSequence$1CodePointIterator"), (10, .class_ 60), (0, u "java/lang/CharSequence$1CharIterator"), (5, .class_ 67), (0, u "java/lang/Object")] 63

/-- java/lang/CharSequence -/
def k4 : Class := { plain "java/lang/CharSequence" (some 0) with
  accessFlags := 1537
  interfaces := #[]
  cf := some (fileOf pool4 2 #[.nestMembers #[47, 59]] #[] 1537 66 #[] #[])
  fields := #[]
  methods := #[]
  instanceTypes := #[]
  staticTypes := #[]
  resolved := Array.replicate 131 none
  statics := none }

def pool5 : Array CpInfo := pool [(1, .class_ 2), (0, u "java/lang/constant/Constable"), (0, .class_ 4), (0, u "java/lang/Object")] 6

/-- java/lang/constant/Constable -/
def k5 : Class := { plain "java/lang/constant/Constable" (some 0) with
  accessFlags := 1537
  interfaces := #[]
  cf := some (fileOf pool5 1 #[] #[] 1537 3 #[] #[])
  fields := #[]
  methods := #[]
  instanceTypes := #[]
  staticTypes := #[]
  resolved := Array.replicate 11 none
  statics := none }

def pool6 : Array CpInfo := pool [(1, .class_ 2), (0, u "java/lang/constant/ConstantDesc"), (0, .class_ 4), (0, u "java/lang/Object")] 32

/-- java/lang/constant/ConstantDesc -/
def k6 : Class := { plain "java/lang/constant/ConstantDesc" (some 0) with
  accessFlags := 1537
  interfaces := #[]
  cf := some (fileOf pool6 1 #[] #[] 1537 3 #[] #[])
  fields := #[]
  methods := #[]
  instanceTypes := #[]
  staticTypes := #[]
  resolved := Array.replicate 37 none
  statics := none }

def pool7 : Array CpInfo := pool [(1, .methodref 2 3), (0, .class_ 4), (0, .nameAndType 5 6), (0, u "java/lang/Object"), (0, u "<init>"), (0, u "()V"), (0, .string 8), (0, u ""), (0, .fieldref 10 11), (0, .class_ 12), (0, .nameAndType 13 14), (0, u "java/lang/String"), (0, u "value"), (0, u "[B"), (0, .fieldref 10 16), (0, .nameAndType 17 18), (0, u "coder"), (0, u "B"), (2, u "hash"), (0, u "I"), (2, u "hashIsZero"), (0, u "Z"), (0, .methodref 10 28), (0, .nameAndType 5 29), (0, u "([CIILjava/lang/Void;)V"), (8, .fieldref 10 39), (0, .nameAndType 40 26), (0, u "COMPACT_STRINGS"), (1, .class_ 44), (1, u "java/lang/StringUTF16"), (0, u "compress"), (1, .methodref 42 48), (0, .nameAndType 49 50), (0, u "coderFromArrayLen"), (0, u "([BI)B"), (2, u "toBytes"), (0, .methodref 55 56), (0, .class_ 57), (0, .nameAndType 58 59), (0, u "java/util/Arrays"), (0, u "copyOfRange"), (0, u "([BII)[B"), (26, .fieldref 87 88), (0, .class_ 89), (0, .nameAndType 90 91), (0, u "sun/nio/cs/UTF_8"), (0, u "INSTANCE"), (0, u "Lsun/nio/cs/UTF_8;"), (1, .class_ 95), (1, u "java/lang/StringCoding"), (11, .class_ 109), (1, u "java/lang/StringLatin1"), (18, .methodref 93 129), (0, .nameAndType 130 131), (0, u "hasNegatives"), (0, u "([BII)Z"), (10, u "()Z"), (34, .methodref 42 178), (0, .nameAndType 45 179), (0, u "([CII)[B"), (13, .class_ 195), (1, u "java/lang/System"), (13, .methodref 10 210), (0, .nameAndType 5 211), (0, u "([BB)V"), (0, .methodref 193 213), (0, .nameAndType 214 215), (0, u "arraycopy"), (0, u "(Ljava/lang/Object;ILjava/lang/Object;II)V"), (36, .methodref 10 253), (0, .nameAndType 254 255), (0, u "encodeUTF8"), (0, u "(B[BZ)[B"), (23, .methodref 280 281), (0, .class_ 14), (0, .nameAndType 282 283), (0, u "clone"), (0, u "()Ljava/lang/Object;"), (33, u "encode"), (16, u "()I"), (0, .methodref 10 336), (0, .nameAndType 17 337), (0, u "()B"), (2, u "()[B"), (28, u "(C)Z"), (119, .methodref 10 490), (0, .nameAndType 5 491), (0, u "(Ljava/lang/AbstractStringBuilder;Ljava/lang/Void;)V"), (1, .nameAndType 494 142), (0, u "isLatin1"), (11, .nameAndType 507 334), (0, u "length"), (24, u "getBytes"), (2, .methodref 10 536), (0, .nameAndType 317 537), (0, u "(Ljava/nio/charset/Charset;B[B)[B"), (11, .methodref 550 506), (0, .class_ 551), (0, u "java/lang/AbstractStringBuilder"), (0, .methodref 550 553), (0, .nameAndType 554 340), (0, u "getValue"), (20, .class_ 576), (0, u "java/lang/CharSequence"), (22, u "CASE_INSENSITIVE_ORDER"), (0, u "Ljava/util/Comparator;"), (181, u "valueOf"), (0, u "(C)Ljava/lang/String;"), (37, u "([BIB)V"), (188, u "([C)V"), (4, .methodref 107 1016), (0, .nameAndType 1017 369), (0, u "canEncode"), (0, .methodref 107 1019), (0, .nameAndType 53 1020), (0, u "(C)[B"), (26, .methodref 550 493), (53, u "serialPersistentFields"), (0, u "[Ljava/io/ObjectStreamField;"), (0, .class_ 1104), (0, u "java/lang/String$CaseInsensitiveComparator"), (1, .class_ 1107), (0, u "java/io/Serializable"), (0, .class_ 1109), (0, u "java/lang/Comparable"), (0, .class_ 1111), (0, u "java/lang/constant/Constable"), (0, .class_ 1113), (0, u "java/lang/constant/ConstantDesc"), (2, u "serialVersionUID"), (0, u "J"), (3, u "REPL"), (0, u "C"), (2, u "LATIN1"), (1, u "UTF16"), (105, u "(Ljava/lang/StringBuilder;)V"), (11, u "(Ljava/nio/charset/Charset;)[B")] 205

def k7m0 : Method := { name := "<init>", desc := "()V", sig := { parameters := [], returnType := none }, accessFlags := 1, code := none }
def k7c1 : Code := { maxStack := 5, maxLocals := 2, code := jdk_42_method_3_code, exceptionTable := #[], attributes := #[] }
def k7m1 : Method := { name := "<init>", desc := "([C)V", sig := { parameters := [(.array .char)], returnType := none }, accessFlags := 1, code := some k7c1 }
def k7c2 : Code := { maxStack := 4, maxLocals := 3, code := jdk_42_method_18_code, exceptionTable := #[], attributes := #[] }
def k7m2 : Method := { name := "encode", desc := "(Ljava/nio/charset/Charset;B[B)[B", sig := { parameters := [(.object "java/nio/charset/Charset"), .byte, (.array .byte)], returnType := some (.array .byte) }, accessFlags := 10, code := some k7c2 }
def k7c3 : Code := { maxStack := 5, maxLocals := 9, code := jdk_42_method_46_code, exceptionTable := #[], attributes := #[] }
def k7m3 : Method := { name := "encodeUTF8", desc := "(B[BZ)[B", sig := { parameters := [.byte, (.array .byte), .boolean], returnType := some (.array .byte) }, accessFlags := 10, code := some k7c3 }
def k7c4 : Code := { maxStack := 3, maxLocals := 2, code := jdk_42_method_53_code, exceptionTable := #[], attributes := #[] }
def k7m4 : Method := { name := "<init>", desc := "(Ljava/lang/StringBuilder;)V", sig := { parameters := [(.object "java/lang/StringBuilder")], returnType := none }, accessFlags := 1, code := some k7c4 }
def k7c5 : Code := { maxStack := 2, maxLocals := 1, code := jdk_42_method_54_code, exceptionTable := #[], attributes := #[] }
def k7m5 : Method := { name := "length", desc := "()I", sig := { parameters := [], returnType := some .int }, accessFlags := 1, code := some k7c5 }
def k7c6 : Code := { maxStack := 3, maxLocals := 2, code := jdk_42_method_64_code, exceptionTable := #[], attributes := #[] }
def k7m6 : Method := { name := "getBytes", desc := "(Ljava/nio/charset/Charset;)[B", sig := { parameters := [(.object "java/nio/charset/Charset")], returnType := some (.array .byte) }, accessFlags := 1, code := some k7c6 }
def k7c7 : Code := { maxStack := 4, maxLocals := 1, code := jdk_42_method_139_code, exceptionTable := #[], attributes := #[] }
def k7m7 : Method := { name := "valueOf", desc := "(C)Ljava/lang/String;", sig := { parameters := [.char], returnType := some (.object "java/lang/String") }, accessFlags := 9, code := some k7c7 }
def k7c8 : Code := { maxStack := 5, maxLocals := 4, code := jdk_42_method_147_code, exceptionTable := #[], attributes := #[] }
def k7m8 : Method := { name := "getBytes", desc := "([BIB)V", sig := { parameters := [(.array .byte), .int, .byte], returnType := none }, accessFlags := 0, code := some k7c8 }
def k7c9 : Code := { maxStack := 4, maxLocals := 6, code := jdk_42_method_149_code, exceptionTable := #[], attributes := #[] }
def k7m9 : Method := { name := "<init>", desc := "([CIILjava/lang/Void;)V", sig := { parameters := [(.array .char), .int, .int, (.object "java/lang/Void")], returnType := none }, accessFlags := 2, code := some k7c9 }
def k7c10 : Code := { maxStack := 5, maxLocals := 5, code := jdk_42_method_150_code, exceptionTable := #[], attributes := #[] }
def k7m10 : Method := { name := "<init>", desc := "(Ljava/lang/AbstractStringBuilder;Ljava/lang/Void;)V", sig := { parameters := [(.object "java/lang/AbstractStringBuilder"), (.object "java/lang/Void")], returnType := none }, accessFlags := 0, code := some k7c10 }
def k7c11 : Code := { maxStack := 2, maxLocals := 3, code := jdk_42_method_151_code, exceptionTable := #[], attributes := #[] }
def k7m11 : Method := { name := "<init>", desc := "([BB)V", sig := { parameters := [(.array .byte), .byte], returnType := none }, accessFlags := 0, code := some k7c11 }
def k7c12 : Code := { maxStack := 1, maxLocals := 1, code := jdk_42_method_152_code, exceptionTable := #[], attributes := #[] }
def k7m12 : Method := { name := "coder", desc := "()B", sig := { parameters := [], returnType := some .byte }, accessFlags := 0, code := some k7c12 }
/-- java/lang/String -/
def k7 : Class := { plain "java/lang/String" (some 0) with
  accessFlags := 49
  interfaces := #[2, 3, 4, 5, 6]
  cf := some (fileOf pool7 10 #[.nestMembers #[1103]] #[{ accessFlags := 1, nameIndex := 5, descriptorIndex := 6, attributes := #[] }, { accessFlags := 1, nameIndex := 5, descriptorIndex := 1010, attributes := #[] }, { accessFlags := 10, nameIndex := 317, descriptorIndex := 537, attributes := #[] }, { accessFlags := 10, nameIndex := 254, descriptorIndex := 255, attributes := #[] }, { accessFlags := 1, nameIndex := 5, descriptorIndex := 1233, attributes := #[] }, { accessFlags := 1, nameIndex := 507, descriptorIndex := 334, attributes := #[] }, { accessFlags := 1, nameIndex := 532, descriptorIndex := 1245, attributes := #[] }, { accessFlags := 9, nameIndex := 782, descriptorIndex := 783, attributes := #[] }, { accessFlags := 0, nameIndex := 532, descriptorIndex := 821, attributes := #[] }, { accessFlags := 2, nameIndex := 5, descriptorIndex := 29, attributes := #[] }, { accessFlags := 0, nameIndex := 5, descriptorIndex := 491, attributes := #[] }, { accessFlags := 0, nameIndex := 5, descriptorIndex := 211, attributes := #[] }, { accessFlags := 0, nameIndex := 17, descriptorIndex := 337, attributes := #[] }] 49 2 #[1106, 1108, 575, 1110, 1112] #[{ accessFlags := 18, nameIndex := 13, descriptorIndex := 14, attributes := #[] }, { accessFlags := 18, nameIndex := 17, descriptorIndex := 18, attributes := #[] }, { accessFlags := 2, nameIndex := 21, descriptorIndex := 22, attributes := #[] }, { accessFlags := 2, nameIndex := 25, descriptorIndex := 26, attributes := #[] }, { accessFlags := 26, nameIndex := 1116, descriptorIndex := 1117, attributes := #[] }, { accessFlags := 24, nameIndex := 40, descriptorIndex := 26, attributes := #[] }, { accessFlags := 26, nameIndex := 1101, descriptorIndex := 1102, attributes := #[] }, { accessFlags := 26, nameIndex := 1121, descriptorIndex := 1122, attributes := #[] }, { accessFlags := 25, nameIndex := 599, descriptorIndex := 600, attributes := #[] }, { accessFlags := 24, nameIndex := 1125, descriptorIndex := 18, attributes := #[] }, { accessFlags := 24, nameIndex := 1127, descriptorIndex := 18, attributes := #[] }])
  fields := #[{ name := "value", type := (.array .byte), accessFlags := 18, slot := 0, constantValue := 0 }, { name := "coder", type := .byte, accessFlags := 18, slot := 1, constantValue := 0 }, { name := "hash", type := .int, accessFlags := 2, slot := 2, constantValue := 0 }, { name := "hashIsZero", type := .boolean, accessFlags := 2, slot := 3, constantValue := 0 }, { name := "serialVersionUID", type := .long, accessFlags := 26, slot := 0, constantValue := 0 }, { name := "COMPACT_STRINGS", type := .boolean, accessFlags := 24, slot := 1, constantValue := 0 }, { name := "serialPersistentFields", type := (.array (.object "java/io/ObjectStreamField")), accessFlags := 26, slot := 2, constantValue := 0 }, { name := "REPL", type := .char, accessFlags := 26, slot := 3, constantValue := 0 }, { name := "CASE_INSENSITIVE_ORDER", type := (.object "java/util/Comparator"), accessFlags := 25, slot := 4, constantValue := 0 }, { name := "LATIN1", type := .byte, accessFlags := 24, slot := 5, constantValue := 0 }, { name := "UTF16", type := .byte, accessFlags := 24, slot := 6, constantValue := 0 }]
  methods := #[k7m0, k7m1, k7m2, k7m3, k7m4, k7m5, k7m6, k7m7, k7m8, k7m9, k7m10, k7m11, k7m12]
  instanceTypes := #[(.array .byte), .byte, .int, .boolean]
  staticTypes := #[.long, .boolean, (.array (.object "java/io/ObjectStreamField")), .char, (.object "java/util/Comparator"), .byte, .byte]
  resolved := Array.replicate 1451 none
  statics := some 0 }

def pool8 : Array CpInfo := pool [(4, .class_ 6), (1, u "java/lang/Object"), (0, u "<init>"), (0, u "()V"), (5, .class_ 16), (1, u "java/lang/StringLatin1"), (73, u "canEncode"), (14, u "(C)Z"), (15, u "$assertionsDisabled"), (0, u "Z"), (98, .class_ 223), (1, u "java/lang/StringLatin1$LinesSpliterator"), (156, u "toBytes"), (1, u "(C)[B"), (7, .class_ 391), (0, u "java/lang/StringLatin1$CharsSpliterator")] 3

def k8m0 : Method := { name := "<init>", desc := "()V", sig := { parameters := [], returnType := none }, accessFlags := 0, code := none }
def k8c1 : Code := { maxStack := 2, maxLocals := 1, code := jdk_43_method_3_code, exceptionTable := #[], attributes := #[] }
def k8m1 : Method := { name := "canEncode", desc := "(C)Z", sig := { parameters := [.char], returnType := some .boolean }, accessFlags := 9, code := some k8c1 }
def k8c2 : Code := { maxStack := 4, maxLocals := 1, code := jdk_43_method_46_code, exceptionTable := #[], attributes := #[] }
def k8m2 : Method := { name := "toBytes", desc := "(C)[B", sig := { parameters := [.char], returnType := some (.array .byte) }, accessFlags := 9, code := some k8c2 }
/-- java/lang/StringLatin1 -/
def k8 : Class := { plain "java/lang/StringLatin1" (some 0) with
  accessFlags := 48
  interfaces := #[]
  cf := some (fileOf pool8 14 #[.nestMembers #[390, 221]] #[{ accessFlags := 0, nameIndex := 7, descriptorIndex := 8, attributes := #[] }, { accessFlags := 9, nameIndex := 90, descriptorIndex := 105, attributes := #[] }, { accessFlags := 9, nameIndex := 380, descriptorIndex := 382, attributes := #[] }] 48 4 #[] #[{ accessFlags := 4120, nameIndex := 121, descriptorIndex := 122, attributes := #[] }])
  fields := #[{ name := "$assertionsDisabled", type := .boolean, accessFlags := 4120, slot := 0, constantValue := 0 }]
  methods := #[k8m0, k8m1, k8m2]
  instanceTypes := #[]
  staticTypes := #[.boolean]
  resolved := Array.replicate 395 none
  statics := none }

def pool9 : Array CpInfo := pool [(6, .class_ 8), (1, u "java/lang/Object"), (0, u "<init>"), (0, u "()V"), (1, .class_ 14), (1, u "java/lang/StringUTF16"), (31, u "$assertionsDisabled"), (0, u "Z"), (13, u "HI_BYTE_SHIFT"), (0, u "I"), (2, u "LO_BYTE_SHIFT"), (49, .methodref 12 116), (0, .nameAndType 117 118), (0, u "compress"), (0, u "([CI[BII)I"), (3, u "([CII)[B"), (138, u "coderFromArrayLen"), (0, u "([BI)B"), (106, .class_ 371), (1, u "java/lang/StringUTF16$LinesSpliterator"), (58, u "MAX_LENGTH"), (196, .class_ 628), (0, u "java/lang/StringUTF16$CodePointsSpliterator"), (0, .class_ 630), (0, u "java/lang/StringUTF16$CharsSpliterator")] 4

def k9m0 : Method := { name := "<init>", desc := "()V", sig := { parameters := [], returnType := none }, accessFlags := 0, code := none }
def k9c1 : Code := { maxStack := 2, maxLocals := 2, code := jdk_52_method_15_code, exceptionTable := #[], attributes := #[] }
def k9m1 : Method := { name := "coderFromArrayLen", desc := "([BI)B", sig := { parameters := [(.array .byte), .int], returnType := some .byte }, accessFlags := 8, code := some k9c1 }
def k9c2 : Code := { maxStack := 5, maxLocals := 6, code := jdk_52_method_16_code, exceptionTable := #[], attributes := #[] }
def k9m2 : Method := { name := "compress", desc := "([CII)[B", sig := { parameters := [(.array .char), .int, .int], returnType := some (.array .byte) }, accessFlags := 9, code := some k9c2 }
def k9c3 : Code := { maxStack := 3, maxLocals := 7, code := jdk_52_method_21_code, exceptionTable := #[], attributes := #[] }
def k9m3 : Method := { name := "compress", desc := "([CI[BII)I", sig := { parameters := [(.array .char), .int, (.array .byte), .int, .int], returnType := some .int }, accessFlags := 9, code := some k9c3 }
/-- java/lang/StringUTF16 -/
def k9 : Class := { plain "java/lang/StringUTF16" (some 0) with
  accessFlags := 48
  interfaces := #[]
  cf := some (fileOf pool9 12 #[.nestMembers #[627, 629, 369]] #[{ accessFlags := 0, nameIndex := 9, descriptorIndex := 10, attributes := #[] }, { accessFlags := 8, nameIndex := 261, descriptorIndex := 262, attributes := #[] }, { accessFlags := 9, nameIndex := 117, descriptorIndex := 122, attributes := #[] }, { accessFlags := 9, nameIndex := 117, descriptorIndex := 118, attributes := #[] }] 48 6 #[] #[{ accessFlags := 26, nameIndex := 61, descriptorIndex := 62, attributes := #[] }, { accessFlags := 26, nameIndex := 65, descriptorIndex := 62, attributes := #[] }, { accessFlags := 24, nameIndex := 430, descriptorIndex := 62, attributes := #[] }, { accessFlags := 4120, nameIndex := 46, descriptorIndex := 47, attributes := #[] }])
  fields := #[{ name := "HI_BYTE_SHIFT", type := .int, accessFlags := 26, slot := 0, constantValue := 0 }, { name := "LO_BYTE_SHIFT", type := .int, accessFlags := 26, slot := 1, constantValue := 0 }, { name := "MAX_LENGTH", type := .int, accessFlags := 24, slot := 2, constantValue := 0 }, { name := "$assertionsDisabled", type := .boolean, accessFlags := 4120, slot := 3, constantValue := 0 }]
  methods := #[k9m0, k9m1, k9m2, k9m3]
  instanceTypes := #[]
  staticTypes := #[.int, .int, .int, .boolean]
  resolved := Array.replicate 635 none
  statics := none }

def pool10 : Array CpInfo := pool [(1, .methodref 2 3), (0, .class_ 4), (0, .nameAndType 5 6), (0, u "java/lang/Object"), (0, u "<init>"), (0, u "()V"), (0, .class_ 8), (0, u "java/lang/StringBuilder"), (0, .string 10), (0, u "<!DOCTYPE html>\n"), (0, .methodref 7 12), (0, .nameAndType 5 13), (0, u "(Ljava/lang/String;)V"), (0, .fieldref 15 16), (0, .class_ 17), (0, .nameAndType 18 19), (0, u "com/example/orrery/orrery/server/Html"), (0, u "out"), (0, u "Ljava/lang/StringBuilder;"), (0, .methodref 7 21), (0, .nameAndType 22 23), (0, u "append"), (0, u "(C)Ljava/lang/StringBuilder;"), (0, .methodref 7 25), (0, .nameAndType 22 26), (0, u "(Ljava/lang/String;)Ljava/lang/StringBuilder;"), (5, .string 33), (0, u "</"), (7, u "(Ljava/lang/String;)Lcom/example/orrery/orrery/server/Html;"), (2, u "close"), (0, .methodref 7 46), (0, .nameAndType 47 48), (0, u "toString"), (0, u "()Ljava/lang/String;"), (0, .fieldref 50 51), (0, .class_ 52), (0, .nameAndType 53 54), (0, u "java/nio/charset/StandardCharsets"), (0, u "UTF_8"), (0, u "Ljava/nio/charset/Charset;"), (0, .methodref 56 57), (0, .class_ 58), (0, .nameAndType 59 60), (0, u "java/lang/String"), (0, u "getBytes"), (0, u "(Ljava/nio/charset/Charset;)[B"), (23, u "bytes"), (0, u "()[B")] 2

def k10c0 : Code := { maxStack := 4, maxLocals := 1, code := prog_17_method_1_code, exceptionTable := #[], attributes := #[] }
def k10m0 : Method := { name := "<init>", desc := "()V", sig := { parameters := [], returnType := none }, accessFlags := 0, code := some k10c0 }
def k10c1 : Code := { maxStack := 2, maxLocals := 2, code := prog_17_method_3_code, exceptionTable := #[], attributes := #[] }
def k10m1 : Method := { name := "close", desc := "(Ljava/lang/String;)Lcom/example/orrery/orrery/server/Html;", sig := { parameters := [(.object "java/lang/String")], returnType := some (.object "com/example/orrery/orrery/server/Html") }, accessFlags := 0, code := some k10c1 }
def k10c2 : Code := { maxStack := 2, maxLocals := 1, code := prog_17_method_6_code, exceptionTable := #[], attributes := #[] }
def k10m2 : Method := { name := "bytes", desc := "()[B", sig := { parameters := [], returnType := some (.array .byte) }, accessFlags := 0, code := some k10c2 }
/-- com/example/orrery/orrery/server/Html -/
def k10 : Class := { plain "com/example/orrery/orrery/server/Html" (some 0) with
  accessFlags := 48
  interfaces := #[]
  cf := some (fileOf pool10 15 #[] #[{ accessFlags := 0, nameIndex := 5, descriptorIndex := 6, attributes := #[] }, { accessFlags := 0, nameIndex := 44, descriptorIndex := 41, attributes := #[] }, { accessFlags := 0, nameIndex := 84, descriptorIndex := 85, attributes := #[] }] 48 2 #[] #[{ accessFlags := 18, nameIndex := 18, descriptorIndex := 19, attributes := #[] }])
  fields := #[{ name := "out", type := (.object "java/lang/StringBuilder"), accessFlags := 18, slot := 0, constantValue := 0 }]
  methods := #[k10m0, k10m1, k10m2]
  instanceTypes := #[(.object "java/lang/StringBuilder")]
  staticTypes := #[]
  resolved := Array.replicate 88 none
  statics := none }

def pool11 : Array CpInfo := pool [(1, .class_ 2), (0, u "java/lang/Appendable"), (0, .class_ 4), (0, u "java/lang/Object")] 9

/-- java/lang/Appendable -/
def k11 : Class := { plain "java/lang/Appendable" (some 0) with
  accessFlags := 1537
  interfaces := #[]
  cf := some (fileOf pool11 1 #[] #[] 1537 3 #[] #[])
  fields := #[]
  methods := #[]
  instanceTypes := #[]
  staticTypes := #[]
  resolved := Array.replicate 14 none
  statics := none }

def pool12 : Array CpInfo := pool [(1, .class_ 2), (0, u "java/lang/String"), (0, .methodref 4 5), (0, .class_ 6), (0, .nameAndType 7 8), (0, u "java/lang/Object"), (0, u "<init>"), (0, u "()V"), (1, .class_ 12), (1, u "java/lang/AbstractStringBuilder"), (0, u "EMPTYVALUE"), (0, u "[B"), (0, .fieldref 10 16), (0, .nameAndType 17 14), (0, u "value"), (0, .fieldref 1 19), (0, .nameAndType 20 21), (0, u "COMPACT_STRINGS"), (0, u "Z"), (0, .fieldref 10 23), (0, .nameAndType 24 25), (0, u "coder"), (0, u "B"), (6, .methodref 1 33), (0, .nameAndType 34 35), (0, u "length"), (0, u "()I"), (2, .integer 2147483631), (1, .methodref 1 41), (0, .nameAndType 24 42), (0, u "()B"), (0, .methodref 10 44), (0, .nameAndType 45 46), (0, u "append"), (0, u "(Ljava/lang/String;)Ljava/lang/AbstractStringBuilder;"), (1, .class_ 49), (0, u "java/lang/CharSequence"), (19, u "(Ljava/lang/String;)V"), (5, u "maybeLatin1"), (3, .fieldref 10 80), (0, .nameAndType 81 82), (0, u "count"), (0, u "I"), (0, .methodref 10 84), (0, .nameAndType 85 86), (0, u "isLatin1"), (0, u "()Z"), (1, .class_ 90), (1, u "java/lang/StringLatin1"), (9, .methodref 10 101), (0, .nameAndType 102 103), (0, u "ensureCapacityInternal"), (0, u "(I)V"), (87, .methodref 88 192), (0, .nameAndType 193 194), (0, u "canEncode"), (0, u "(C)Z"), (13, .methodref 10 209), (0, .nameAndType 210 211), (0, u "putStringAt"), (0, u "(ILjava/lang/String;)V"), (5, u "inflateIfNeededFor"), (2, .nameAndType 221 222), (0, u "getBytes"), (0, u "([BIB)V"), (69, u "(C)Ljava/lang/AbstractStringBuilder;"), (104, .methodref 10 398), (0, .nameAndType 217 69), (0, .methodref 1 220), (3, u "()[B"), (40, .class_ 445), (0, u "java/lang/Appendable"), (106, u "getValue")] 56

def k12m0 : Method := { name := "<init>", desc := "()V", sig := { parameters := [], returnType := none }, accessFlags := 0, code := none }
def k12c1 : Code := { maxStack := 2, maxLocals := 5, code := jdk_68_method_3_code, exceptionTable := #[], attributes := #[] }
def k12m1 : Method := { name := "<init>", desc := "(Ljava/lang/String;)V", sig := { parameters := [(.object "java/lang/String")], returnType := none }, accessFlags := 0, code := some k12c1 }
def k12c2 : Code := { maxStack := 1, maxLocals := 1, code := jdk_68_method_6_code, exceptionTable := #[], attributes := #[] }
def k12m2 : Method := { name := "length", desc := "()I", sig := { parameters := [], returnType := some .int }, accessFlags := 1, code := some k12c2 }
def k12c3 : Code := { maxStack := 4, maxLocals := 3, code := jdk_68_method_9_code, exceptionTable := #[], attributes := #[] }
def k12m3 : Method := { name := "ensureCapacityInternal", desc := "(I)V", sig := { parameters := [.int], returnType := none }, accessFlags := 2, code := some k12c3 }
def k12c4 : Code := { maxStack := 3, maxLocals := 3, code := jdk_68_method_22_code, exceptionTable := #[], attributes := #[] }
def k12m4 : Method := { name := "append", desc := "(Ljava/lang/String;)Ljava/lang/AbstractStringBuilder;", sig := { parameters := [(.object "java/lang/String")], returnType := some (.object "java/lang/AbstractStringBuilder") }, accessFlags := 1, code := some k12c4 }
def k12c5 : Code := { maxStack := 5, maxLocals := 2, code := jdk_68_method_31_code, exceptionTable := #[], attributes := #[] }
def k12m5 : Method := { name := "append", desc := "(C)Ljava/lang/AbstractStringBuilder;", sig := { parameters := [.char], returnType := some (.object "java/lang/AbstractStringBuilder") }, accessFlags := 1, code := some k12c5 }
def k12c6 : Code := { maxStack := 1, maxLocals := 1, code := jdk_68_method_64_code, exceptionTable := #[], attributes := #[] }
def k12m6 : Method := { name := "getValue", desc := "()[B", sig := { parameters := [], returnType := some (.array .byte) }, accessFlags := 16, code := some k12c6 }
def k12c7 : Code := { maxStack := 1, maxLocals := 1, code := jdk_68_method_68_code, exceptionTable := #[], attributes := #[] }
def k12m7 : Method := { name := "isLatin1", desc := "()Z", sig := { parameters := [], returnType := some .boolean }, accessFlags := 16, code := some k12c7 }
def k12c8 : Code := { maxStack := 2, maxLocals := 2, code := jdk_68_method_71_code, exceptionTable := #[], attributes := #[] }
def k12m8 : Method := { name := "inflateIfNeededFor", desc := "(Ljava/lang/String;)V", sig := { parameters := [(.object "java/lang/String")], returnType := none }, accessFlags := 2, code := some k12c8 }
def k12c9 : Code := { maxStack := 4, maxLocals := 3, code := jdk_68_method_73_code, exceptionTable := #[], attributes := #[] }
def k12m9 : Method := { name := "putStringAt", desc := "(ILjava/lang/String;)V", sig := { parameters := [.int, (.object "java/lang/String")], returnType := none }, accessFlags := 2, code := some k12c9 }
/-- java/lang/AbstractStringBuilder -/
def k12 : Class := { plain "java/lang/AbstractStringBuilder" (some 0) with
  accessFlags := 1056
  interfaces := #[11, 4]
  cf := some (fileOf pool12 10 #[] #[{ accessFlags := 0, nameIndex := 7, descriptorIndex := 8, attributes := #[] }, { accessFlags := 0, nameIndex := 7, descriptorIndex := 69, attributes := #[] }, { accessFlags := 1, nameIndex := 34, descriptorIndex := 35, attributes := #[] }, { accessFlags := 2, nameIndex := 102, descriptorIndex := 103, attributes := #[] }, { accessFlags := 1, nameIndex := 45, descriptorIndex := 46, attributes := #[] }, { accessFlags := 1, nameIndex := 45, descriptorIndex := 292, attributes := #[] }, { accessFlags := 16, nameIndex := 552, descriptorIndex := 403, attributes := #[] }, { accessFlags := 16, nameIndex := 85, descriptorIndex := 86, attributes := #[] }, { accessFlags := 2, nameIndex := 217, descriptorIndex := 69, attributes := #[] }, { accessFlags := 2, nameIndex := 210, descriptorIndex := 211, attributes := #[] }] 1056 4 #[444, 48] #[{ accessFlags := 0, nameIndex := 17, descriptorIndex := 14, attributes := #[] }, { accessFlags := 0, nameIndex := 24, descriptorIndex := 25, attributes := #[] }, { accessFlags := 0, nameIndex := 75, descriptorIndex := 21, attributes := #[] }, { accessFlags := 0, nameIndex := 81, descriptorIndex := 82, attributes := #[] }, { accessFlags := 26, nameIndex := 13, descriptorIndex := 14, attributes := #[] }])
  fields := #[{ name := "value", type := (.array .byte), accessFlags := 0, slot := 0, constantValue := 0 }, { name := "coder", type := .byte, accessFlags := 0, slot := 1, constantValue := 0 }, { name := "maybeLatin1", type := .boolean, accessFlags := 0, slot := 2, constantValue := 0 }, { name := "count", type := .int, accessFlags := 0, slot := 3, constantValue := 0 }, { name := "EMPTYVALUE", type := (.array .byte), accessFlags := 26, slot := 0, constantValue := 0 }]
  methods := #[k12m0, k12m1, k12m2, k12m3, k12m4, k12m5, k12m6, k12m7, k12m8, k12m9]
  instanceTypes := #[(.array .byte), .byte, .boolean, .int]
  staticTypes := #[(.array .byte)]
  resolved := Array.replicate 609 none
  statics := none }

def pool13 : Array CpInfo := pool [(2, .class_ 4), (1, u "java/lang/AbstractStringBuilder"), (0, u "<init>"), (1, .methodref 2 8), (0, .nameAndType 5 9), (0, u "(Ljava/lang/String;)V"), (8, .class_ 20), (1, u "java/lang/String"), (2, .methodref 24 25), (0, .class_ 26), (0, .nameAndType 27 28), (0, u "java/lang/StringBuilder"), (0, u "append"), (0, u "(Ljava/lang/String;)Ljava/lang/StringBuilder;"), (0, .methodref 2 30), (0, .nameAndType 27 31), (0, u "(Ljava/lang/String;)Ljava/lang/AbstractStringBuilder;"), (18, .methodref 2 51), (0, .nameAndType 27 52), (0, u "(C)Ljava/lang/AbstractStringBuilder;"), (84, .methodref 18 138), (0, .nameAndType 5 139), (0, u "(Ljava/lang/StringBuilder;)V"), (5, u "()V"), (10, u "()I"), (129, u "(C)Ljava/lang/StringBuilder;"), (56, .methodref 2 344), (0, .nameAndType 345 156), (0, u "length"), (3, .class_ 350), (0, u "java/lang/Appendable"), (0, .class_ 352), (0, u "java/io/Serializable"), (0, .class_ 354), (0, u "java/lang/Comparable"), (0, .class_ 356), (0, u "java/lang/CharSequence"), (0, u "serialVersionUID"), (0, u "J"), (40, u "toString"), (0, u "()Ljava/lang/String;")] 21

def k13m0 : Method := { name := "<init>", desc := "()V", sig := { parameters := [], returnType := none }, accessFlags := 1, code := none }
def k13c1 : Code := { maxStack := 2, maxLocals := 2, code := jdk_67_method_3_code, exceptionTable := #[], attributes := #[] }
def k13m1 : Method := { name := "<init>", desc := "(Ljava/lang/String;)V", sig := { parameters := [(.object "java/lang/String")], returnType := none }, accessFlags := 1, code := some k13c1 }
def k13c2 : Code := { maxStack := 2, maxLocals := 2, code := jdk_67_method_7_code, exceptionTable := #[], attributes := #[] }
def k13m2 : Method := { name := "append", desc := "(Ljava/lang/String;)Ljava/lang/StringBuilder;", sig := { parameters := [(.object "java/lang/String")], returnType := some (.object "java/lang/StringBuilder") }, accessFlags := 1, code := some k13c2 }
def k13c3 : Code := { maxStack := 2, maxLocals := 2, code := jdk_67_method_14_code, exceptionTable := #[], attributes := #[] }
def k13m3 : Method := { name := "append", desc := "(C)Ljava/lang/StringBuilder;", sig := { parameters := [.char], returnType := some (.object "java/lang/StringBuilder") }, accessFlags := 1, code := some k13c3 }
def k13c4 : Code := { maxStack := 3, maxLocals := 1, code := jdk_67_method_42_code, exceptionTable := #[], attributes := #[] }
def k13m4 : Method := { name := "toString", desc := "()Ljava/lang/String;", sig := { parameters := [], returnType := some (.object "java/lang/String") }, accessFlags := 1, code := some k13c4 }
def k13c5 : Code := { maxStack := 2, maxLocals := 2, code := jdk_67_method_80_code, exceptionTable := #[], attributes := #[] }
def k13m5 : Method := { name := "append", desc := "(Ljava/lang/String;)Ljava/lang/AbstractStringBuilder;", sig := { parameters := [(.object "java/lang/String")], returnType := some (.object "java/lang/AbstractStringBuilder") }, accessFlags := 4161, code := some k13c5 }
def k13c6 : Code := { maxStack := 1, maxLocals := 1, code := jdk_67_method_93_code, exceptionTable := #[], attributes := #[] }
def k13m6 : Method := { name := "length", desc := "()I", sig := { parameters := [], returnType := some .int }, accessFlags := 4161, code := some k13c6 }
/-- java/lang/StringBuilder -/
def k13 : Class := { plain "java/lang/StringBuilder" (some 12) with
  accessFlags := 49
  interfaces := #[11, 2, 3, 4]
  cf := some (fileOf pool13 24 #[] #[{ accessFlags := 1, nameIndex := 5, descriptorIndex := 145, attributes := #[] }, { accessFlags := 1, nameIndex := 5, descriptorIndex := 9, attributes := #[] }, { accessFlags := 1, nameIndex := 27, descriptorIndex := 28, attributes := #[] }, { accessFlags := 1, nameIndex := 27, descriptorIndex := 286, attributes := #[] }, { accessFlags := 1, nameIndex := 399, descriptorIndex := 400, attributes := #[] }, { accessFlags := 4161, nameIndex := 27, descriptorIndex := 31, attributes := #[] }, { accessFlags := 4161, nameIndex := 345, descriptorIndex := 156, attributes := #[] }] 49 2 #[349, 351, 353, 355] #[{ accessFlags := 24, nameIndex := 357, descriptorIndex := 358, attributes := #[] }])
  fields := #[{ name := "serialVersionUID", type := .long, accessFlags := 24, slot := 0, constantValue := 0 }]
  methods := #[k13m0, k13m1, k13m2, k13m3, k13m4, k13m5, k13m6]
  instanceTypes := #[(.array .byte), .byte, .boolean, .int]
  staticTypes := #[.long]
  resolved := Array.replicate 422 none
  statics := none }

def pool14 : Array CpInfo := pool [(2, .class_ 4), (1, u "java/lang/Object"), (0, u "<init>"), (0, u "()V"), (1, .class_ 10), (1, u "java/lang/System"), (0, u "allowSecurityManager"), (0, u "I"), (16, u "cons"), (0, u "Ljava/io/Console;"), (77, .class_ 110), (1, u "java/lang/System$CallersHolder"), (43, u "initialErrStream"), (0, u "Ljava/io/PrintStream;"), (19, u "security"), (0, u "Ljava/lang/SecurityManager;"), (31, .class_ 209), (0, u "java/lang/System$1"), (7, u "props"), (0, u "Ljava/util/Properties;"), (2, u "lineSeparator"), (0, u "Ljava/lang/String;"), (96, .class_ 321), (1, u "java/lang/System$LoggerFinder"), (5, .class_ 328), (0, u "java/lang/System$Logger"), (67, u "err"), (2, u "out"), (91, u "notSupportedJnuEncoding"), (15, u "in"), (17, u "initialIn"), (0, u "Ljava/io/InputStream;"), (35, u "bootLayer"), (0, u "Ljava/lang/ModuleLayer;"), (99, .class_ 664), (0, u "java/lang/System$2"), (9, u "NEVER"), (2, u "MAYBE"), (49, u "arraycopy"), (0, u "(Ljava/lang/Object;ILjava/lang/Object;II)V"), (72, .class_ 802), (0, u "java/lang/System$Logger$Level")] 31

def k14m0 : Method := { name := "<init>", desc := "()V", sig := { parameters := [], returnType := none }, accessFlags := 2, code := none }
def k14m1 : Method := { name := "arraycopy", desc := "(Ljava/lang/Object;ILjava/lang/Object;II)V", sig := { parameters := [(.object "java/lang/Object"), .int, (.object "java/lang/Object"), .int, .int], returnType := none }, accessFlags := 265, code := none }
/-- java/lang/System -/
def k14 : Class := { plain "java/lang/System" (some 0) with
  accessFlags := 49
  interfaces := #[]
  cf := some (fileOf pool14 8 #[.nestMembers #[319, 327, 801, 108, 663, 208]] #[{ accessFlags := 2, nameIndex := 5, descriptorIndex := 6, attributes := #[] }, { accessFlags := 265, nameIndex := 727, descriptorIndex := 728, attributes := #[] }] 49 2 #[] #[{ accessFlags := 25, nameIndex := 507, descriptorIndex := 526, attributes := #[] }, { accessFlags := 25, nameIndex := 399, descriptorIndex := 155, attributes := #[] }, { accessFlags := 25, nameIndex := 396, descriptorIndex := 155, attributes := #[] }, { accessFlags := 10, nameIndex := 525, descriptorIndex := 526, attributes := #[] }, { accessFlags := 26, nameIndex := 674, descriptorIndex := 12, attributes := #[] }, { accessFlags := 26, nameIndex := 677, descriptorIndex := 12, attributes := #[] }, { accessFlags := 10, nameIndex := 11, descriptorIndex := 12, attributes := #[] }, { accessFlags := 74, nameIndex := 175, descriptorIndex := 176, attributes := #[] }, { accessFlags := 10, nameIndex := 491, descriptorIndex := 222, attributes := #[] }, { accessFlags := 74, nameIndex := 29, descriptorIndex := 30, attributes := #[] }, { accessFlags := 74, nameIndex := 154, descriptorIndex := 155, attributes := #[] }, { accessFlags := 10, nameIndex := 217, descriptorIndex := 218, attributes := #[] }, { accessFlags := 10, nameIndex := 221, descriptorIndex := 222, attributes := #[] }, { accessFlags := 8, nameIndex := 562, descriptorIndex := 563, attributes := #[] }])
  fields := #[{ name := "in", type := (.object "java/io/InputStream"), accessFlags := 25, slot := 0, constantValue := 0 }, { name := "out", type := (.object "java/io/PrintStream"), accessFlags := 25, slot := 1, constantValue := 0 }, { name := "err", type := (.object "java/io/PrintStream"), accessFlags := 25, slot := 2, constantValue := 0 }, { name := "initialIn", type := (.object "java/io/InputStream"), accessFlags := 10, slot := 3, constantValue := 0 }, { name := "NEVER", type := .int, accessFlags := 26, slot := 4, constantValue := 0 }, { name := "MAYBE", type := .int, accessFlags := 26, slot := 5, constantValue := 0 }, { name := "allowSecurityManager", type := .int, accessFlags := 10, slot := 6, constantValue := 0 }, { name := "security", type := (.object "java/lang/SecurityManager"), accessFlags := 74, slot := 7, constantValue := 0 }, { name := "notSupportedJnuEncoding", type := (.object "java/lang/String"), accessFlags := 10, slot := 8, constantValue := 0 }, { name := "cons", type := (.object "java/io/Console"), accessFlags := 74, slot := 9, constantValue := 0 }, { name := "initialErrStream", type := (.object "java/io/PrintStream"), accessFlags := 74, slot := 10, constantValue := 0 }, { name := "props", type := (.object "java/util/Properties"), accessFlags := 10, slot := 11, constantValue := 0 }, { name := "lineSeparator", type := (.object "java/lang/String"), accessFlags := 10, slot := 12, constantValue := 0 }, { name := "bootLayer", type := (.object "java/lang/ModuleLayer"), accessFlags := 8, slot := 13, constantValue := 0 }]
  methods := #[k14m0, k14m1]
  instanceTypes := #[]
  staticTypes := #[(.object "java/io/InputStream"), (.object "java/io/PrintStream"), (.object "java/io/PrintStream"), (.object "java/io/InputStream"), .int, .int, .int, (.object "java/lang/SecurityManager"), (.object "java/lang/String"), (.object "java/io/Console"), (.object "java/io/PrintStream"), (.object "java/util/Properties"), (.object "java/lang/String"), (.object "java/lang/ModuleLayer")]
  resolved := Array.replicate 834 none
  statics := none }

def pool15 : Array CpInfo := pool [(2, .class_ 4), (1, u "java/lang/Object"), (0, u "<init>"), (0, u "()V"), (7, .class_ 16), (1, u "java/util/Arrays"), (57, .class_ 76), (1, u "java/util/Arrays$NaturalOrder"), (36, .class_ 115), (1, u "java/util/Arrays$LegacyMergeSort"), (1, u "Z"), (21, u "copyOfRange"), (10, .methodref 151 152), (0, .class_ 153), (0, .nameAndType 154 155), (0, u "java/lang/System"), (0, u "arraycopy"), (0, u "(Ljava/lang/Object;ILjava/lang/Object;II)V"), (148, .methodref 305 306), (0, .class_ 307), (0, .nameAndType 308 309), (0, u "java/lang/Math"), (0, u "min"), (0, u "(II)I"), (29, .methodref 14 340), (0, .nameAndType 341 342), (0, u "copyOfRangeByte"), (0, u "([BII)[B"), (0, .methodref 14 344), (0, .nameAndType 345 346), (0, u "checkLength"), (0, u "(II)V"), (28, .class_ 376), (0, u "java/util/Arrays$ArrayList"), (68, u "$assertionsDisabled"), (269, u "MIN_ARRAY_SORT_GRAN"), (0, u "I"), (2, u "INSERTIONSORT_THRESHOLD"), (255, .class_ 976), (0, u "java/util/Arrays$ArrayItr")] 52

def k15m0 : Method := { name := "<init>", desc := "()V", sig := { parameters := [], returnType := none }, accessFlags := 2, code := none }
def k15c1 : Code := { maxStack := 4, maxLocals := 2, code := jdk_65_method_131_code, exceptionTable := #[], attributes := #[] }
def k15m1 : Method := { name := "checkLength", desc := "(II)V", sig := { parameters := [.int, .int], returnType := none }, accessFlags := 10, code := some k15c1 }
def k15c2 : Code := { maxStack := 3, maxLocals := 3, code := jdk_65_method_132_code, exceptionTable := #[], attributes := #[] }
def k15m2 : Method := { name := "copyOfRange", desc := "([BII)[B", sig := { parameters := [(.array .byte), .int, .int], returnType := some (.array .byte) }, accessFlags := 9, code := some k15c2 }
def k15c3 : Code := { maxStack := 6, maxLocals := 5, code := jdk_65_method_133_code, exceptionTable := #[], attributes := #[] }
def k15m3 : Method := { name := "copyOfRangeByte", desc := "([BII)[B", sig := { parameters := [(.array .byte), .int, .int], returnType := some (.array .byte) }, accessFlags := 10, code := some k15c3 }
/-- java/util/Arrays -/
def k15 : Class := { plain "java/util/Arrays" (some 0) with
  accessFlags := 49
  interfaces := #[]
  cf := some (fileOf pool15 14 #[.nestMembers #[975, 375, 113, 74]] #[{ accessFlags := 2, nameIndex := 5, descriptorIndex := 6, attributes := #[] }, { accessFlags := 10, nameIndex := 345, descriptorIndex := 346, attributes := #[] }, { accessFlags := 9, nameIndex := 139, descriptorIndex := 342, attributes := #[] }, { accessFlags := 10, nameIndex := 341, descriptorIndex := 342, attributes := #[] }] 49 2 #[] #[{ accessFlags := 26, nameIndex := 715, descriptorIndex := 716, attributes := #[] }, { accessFlags := 26, nameIndex := 719, descriptorIndex := 716, attributes := #[] }, { accessFlags := 4120, nameIndex := 445, descriptorIndex := 117, attributes := #[] }])
  fields := #[{ name := "MIN_ARRAY_SORT_GRAN", type := .int, accessFlags := 26, slot := 0, constantValue := 0 }, { name := "INSERTIONSORT_THRESHOLD", type := .int, accessFlags := 26, slot := 1, constantValue := 0 }, { name := "$assertionsDisabled", type := .boolean, accessFlags := 4120, slot := 2, constantValue := 0 }]
  methods := #[k15m0, k15m1, k15m2, k15m3]
  instanceTypes := #[]
  staticTypes := #[.int, .int, .boolean]
  resolved := Array.replicate 1029 none
  statics := none }

def pool16 : Array CpInfo := pool [(1, .class_ 2), (0, u "java/lang/Math"), (1, .class_ 6), (1, u "java/lang/Object"), (0, u "<init>"), (0, u "()V"), (89, .class_ 100), (1, u "java/lang/Math$RandomNumberGeneratorHolder"), (71, u "negativeZeroFloatBits"), (0, u "J"), (2, u "negativeZeroDoubleBits"), (24, u "min"), (43, u "$assertionsDisabled"), (0, u "Z"), (88, u "(II)I"), (2, u "twoToTheDoubleScaleDown"), (0, u "D"), (4, u "twoToTheDoubleScaleUp"), (9, u "E"), (3, u "PI"), (2, u "TAU"), (2, u "DEGREES_TO_RADIANS"), (0, u "RADIANS_TO_DEGREES")] 94

def k16m0 : Method := { name := "<init>", desc := "()V", sig := { parameters := [], returnType := none }, accessFlags := 2, code := none }
def k16c1 : Code := { maxStack := 2, maxLocals := 2, code := jdk_29_method_69_code, exceptionTable := #[], attributes := #[] }
def k16m1 : Method := { name := "min", desc := "(II)I", sig := { parameters := [.int, .int], returnType := some .int }, accessFlags := 9, code := some k16c1 }
/-- java/lang/Math -/
def k16 : Class := { plain "java/lang/Math" (some 0) with
  accessFlags := 49
  interfaces := #[]
  cf := some (fileOf pool16 1 #[.nestMembers #[98]] #[{ accessFlags := 2, nameIndex := 7, descriptorIndex := 8, attributes := #[] }, { accessFlags := 9, nameIndex := 201, descriptorIndex := 335, attributes := #[] }] 49 4 #[] #[{ accessFlags := 25, nameIndex := 354, descriptorIndex := 339, attributes := #[] }, { accessFlags := 25, nameIndex := 358, descriptorIndex := 339, attributes := #[] }, { accessFlags := 25, nameIndex := 361, descriptorIndex := 339, attributes := #[] }, { accessFlags := 26, nameIndex := 364, descriptorIndex := 339, attributes := #[] }, { accessFlags := 26, nameIndex := 365, descriptorIndex := 339, attributes := #[] }, { accessFlags := 26, nameIndex := 172, descriptorIndex := 173, attributes := #[] }, { accessFlags := 26, nameIndex := 176, descriptorIndex := 173, attributes := #[] }, { accessFlags := 8, nameIndex := 344, descriptorIndex := 339, attributes := #[] }, { accessFlags := 8, nameIndex := 338, descriptorIndex := 339, attributes := #[] }, { accessFlags := 4120, nameIndex := 245, descriptorIndex := 246, attributes := #[] }])
  fields := #[{ name := "E", type := .double, accessFlags := 25, slot := 0, constantValue := 0 }, { name := "PI", type := .double, accessFlags := 25, slot := 1, constantValue := 0 }, { name := "TAU", type := .double, accessFlags := 25, slot := 2, constantValue := 0 }, { name := "DEGREES_TO_RADIANS", type := .double, accessFlags := 26, slot := 3, constantValue := 0 }, { name := "RADIANS_TO_DEGREES", type := .double, accessFlags := 26, slot := 4, constantValue := 0 }, { name := "negativeZeroFloatBits", type := .long, accessFlags := 26, slot := 5, constantValue := 0 }, { name := "negativeZeroDoubleBits", type := .long, accessFlags := 26, slot := 6, constantValue := 0 }, { name := "twoToTheDoubleScaleUp", type := .double, accessFlags := 8, slot := 7, constantValue := 0 }, { name := "twoToTheDoubleScaleDown", type := .double, accessFlags := 8, slot := 8, constantValue := 0 }, { name := "$assertionsDisabled", type := .boolean, accessFlags := 4120, slot := 9, constantValue := 0 }]
  methods := #[k16m0, k16m1]
  instanceTypes := #[]
  staticTypes := #[.double, .double, .double, .double, .double, .long, .long, .double, .double, .boolean]
  resolved := Array.replicate 460 none
  statics := none }

def pool17 : Array CpInfo := pool [(2, .class_ 4), (1, u "java/lang/Object"), (0, u "<init>"), (0, u "()V"), (14, .class_ 23), (1, u "java/nio/charset/StandardCharsets"), (0, u "US_ASCII"), (0, u "Ljava/nio/charset/Charset;"), (7, u "ISO_8859_1"), (7, u "UTF_8"), (5, u "UTF_16BE"), (5, u "UTF_16LE"), (5, u "UTF_16")] 8

def k17m0 : Method := { name := "<init>", desc := "()V", sig := { parameters := [], returnType := none }, accessFlags := 2, code := none }
/-- java/nio/charset/StandardCharsets -/
def k17 : Class := { plain "java/nio/charset/StandardCharsets" (some 0) with
  accessFlags := 49
  interfaces := #[]
  cf := some (fileOf pool17 21 #[] #[{ accessFlags := 2, nameIndex := 5, descriptorIndex := 6, attributes := #[] }] 49 2 #[] #[{ accessFlags := 25, nameIndex := 24, descriptorIndex := 25, attributes := #[] }, { accessFlags := 25, nameIndex := 33, descriptorIndex := 25, attributes := #[] }, { accessFlags := 25, nameIndex := 41, descriptorIndex := 25, attributes := #[] }, { accessFlags := 25, nameIndex := 47, descriptorIndex := 25, attributes := #[] }, { accessFlags := 25, nameIndex := 53, descriptorIndex := 25, attributes := #[] }, { accessFlags := 25, nameIndex := 59, descriptorIndex := 25, attributes := #[] }])
  fields := #[{ name := "US_ASCII", type := (.object "java/nio/charset/Charset"), accessFlags := 25, slot := 0, constantValue := 0 }, { name := "ISO_8859_1", type := (.object "java/nio/charset/Charset"), accessFlags := 25, slot := 1, constantValue := 0 }, { name := "UTF_8", type := (.object "java/nio/charset/Charset"), accessFlags := 25, slot := 2, constantValue := 0 }, { name := "UTF_16BE", type := (.object "java/nio/charset/Charset"), accessFlags := 25, slot := 3, constantValue := 0 }, { name := "UTF_16LE", type := (.object "java/nio/charset/Charset"), accessFlags := 25, slot := 4, constantValue := 0 }, { name := "UTF_16", type := (.object "java/nio/charset/Charset"), accessFlags := 25, slot := 5, constantValue := 0 }]
  methods := #[k17m0]
  instanceTypes := #[]
  staticTypes := #[(.object "java/nio/charset/Charset"), (.object "java/nio/charset/Charset"), (.object "java/nio/charset/Charset"), (.object "java/nio/charset/Charset"), (.object "java/nio/charset/Charset"), (.object "java/nio/charset/Charset")]
  resolved := Array.replicate 68 none
  statics := some 1 }

def pool18 : Array CpInfo := pool [(18, .class_ 20), (1, u "java/nio/charset/Charset"), (0, u "cache1"), (0, u "[Ljava/lang/Object;"), (2, u "cache2"), (0, .class_ 27), (0, u "java/lang/Object"), (0, .class_ 29), (0, u "java/nio/charset/Charset$1"), (4, .class_ 36), (1, u "java/nio/charset/Charset$ThreadTrackHolder"), (21, .class_ 59), (0, u "java/nio/charset/Charset$2"), (11, .class_ 73), (1, u "java/nio/charset/Charset$ExtendedProviderHolder"), (22, u "standardProvider"), (0, u "Ljava/nio/charset/spi/CharsetProvider;"), (29, u "name"), (7, .class_ 136), (0, u "java/nio/charset/Charset$3"), (5, u "defaultCharset"), (0, u "Ljava/nio/charset/Charset;"), (14, u "zeroAliases"), (0, u "[Ljava/lang/String;"), (29, u "Ljava/lang/String;"), (2, u "aliases"), (2, u "aliasSet"), (0, u "Ljava/util/Set;"), (82, .class_ 280), (0, u "java/lang/Comparable"), (84, .class_ 366), (0, u "java/nio/charset/Charset$ExtendedProviderHolder$1")] 3

/-- java/nio/charset/Charset -/
def k18 : Class := { plain "java/nio/charset/Charset" (some 0) with
  accessFlags := 1057
  interfaces := #[3]
  cf := some (fileOf pool18 18 #[.nestMembers #[71, 365, 34, 135, 58, 28]] #[] 1057 26 #[279] #[{ accessFlags := 26, nameIndex := 96, descriptorIndex := 97, attributes := #[] }, { accessFlags := 26, nameIndex := 158, descriptorIndex := 159, attributes := #[] }, { accessFlags := 74, nameIndex := 21, descriptorIndex := 22, attributes := #[] }, { accessFlags := 74, nameIndex := 25, descriptorIndex := 22, attributes := #[] }, { accessFlags := 10, nameIndex := 142, descriptorIndex := 143, attributes := #[] }, { accessFlags := 18, nameIndex := 127, descriptorIndex := 189, attributes := #[] }, { accessFlags := 18, nameIndex := 192, descriptorIndex := 159, attributes := #[] }, { accessFlags := 2, nameIndex := 195, descriptorIndex := 196, attributes := #[] }])
  fields := #[{ name := "standardProvider", type := (.object "java/nio/charset/spi/CharsetProvider"), accessFlags := 26, slot := 0, constantValue := 0 }, { name := "zeroAliases", type := (.array (.object "java/lang/String")), accessFlags := 26, slot := 1, constantValue := 0 }, { name := "cache1", type := (.array (.object "java/lang/Object")), accessFlags := 74, slot := 2, constantValue := 0 }, { name := "cache2", type := (.array (.object "java/lang/Object")), accessFlags := 74, slot := 3, constantValue := 0 }, { name := "defaultCharset", type := (.object "java/nio/charset/Charset"), accessFlags := 10, slot := 4, constantValue := 0 }, { name := "name", type := (.object "java/lang/String"), accessFlags := 18, slot := 0, constantValue := 0 }, { name := "aliases", type := (.array (.object "java/lang/String")), accessFlags := 18, slot := 1, constantValue := 0 }, { name := "aliasSet", type := (.object "java/util/Set"), accessFlags := 2, slot := 2, constantValue := 0 }]
  methods := #[]
  instanceTypes := #[(.object "java/lang/String"), (.array (.object "java/lang/String")), (.object "java/util/Set")]
  staticTypes := #[(.object "java/nio/charset/spi/CharsetProvider"), (.array (.object "java/lang/String")), (.array (.object "java/lang/Object")), (.array (.object "java/lang/Object")), (.object "java/nio/charset/Charset")]
  resolved := Array.replicate 370 none
  statics := none }

def pool19 : Array CpInfo := pool [(1, .class_ 2), (0, u "sun/nio/cs/HistoricallyNamedCharset"), (0, .class_ 4), (0, u "java/lang/Object")] 4

/-- sun/nio/cs/HistoricallyNamedCharset -/
def k19 : Class := { plain "sun/nio/cs/HistoricallyNamedCharset" (some 0) with
  accessFlags := 1537
  interfaces := #[]
  cf := some (fileOf pool19 1 #[] #[] 1537 3 #[] #[])
  fields := #[]
  methods := #[]
  instanceTypes := #[]
  staticTypes := #[]
  resolved := Array.replicate 9 none
  statics := none }

def pool20 : Array CpInfo := pool [(2, .class_ 4), (1, u "java/nio/charset/Charset"), (130, .class_ 136), (0, u "sun/nio/cs/Unicode"), (0, .class_ 138), (0, u "sun/nio/cs/HistoricallyNamedCharset")] 15

/-- sun/nio/cs/Unicode -/
def k20 : Class := { plain "sun/nio/cs/Unicode" (some 18) with
  accessFlags := 1056
  interfaces := #[19]
  cf := some (fileOf pool20 135 #[] #[] 1056 2 #[137] #[])
  fields := #[]
  methods := #[]
  instanceTypes := #[(.object "java/lang/String"), (.array (.object "java/lang/String")), (.object "java/util/Set")]
  staticTypes := #[]
  resolved := Array.replicate 154 none
  statics := none }

def pool21 : Array CpInfo := pool [(10, .class_ 12), (1, u "sun/nio/cs/Unicode"), (0, u "<init>"), (3, .class_ 18), (0, u "sun/nio/cs/UTF_8$Decoder"), (3, .class_ 23), (0, u "sun/nio/cs/UTF_8$Encoder"), (15, .class_ 40), (0, u "sun/nio/cs/UTF_8"), (2, u "()V"), (2, u "INSTANCE"), (0, u "Lsun/nio/cs/UTF_8;"), (8, u "JLA"), (0, u "Ljdk/internal/access/JavaLangAccess;")] 26

def k21m0 : Method := { name := "<init>", desc := "()V", sig := { parameters := [], returnType := none }, accessFlags := 1, code := none }
/-- sun/nio/cs/UTF_8 -/
def k21 : Class := { plain "sun/nio/cs/UTF_8" (some 20) with
  accessFlags := 49
  interfaces := #[]
  cf := some (fileOf pool21 39 #[.nestMembers #[22, 17]] #[{ accessFlags := 1, nameIndex := 13, descriptorIndex := 43, attributes := #[] }] 49 10 #[] #[{ accessFlags := 25, nameIndex := 46, descriptorIndex := 47, attributes := #[] }, { accessFlags := 26, nameIndex := 56, descriptorIndex := 57, attributes := #[] }])
  fields := #[{ name := "INSTANCE", type := (.object "sun/nio/cs/UTF_8"), accessFlags := 25, slot := 0, constantValue := 0 }, { name := "JLA", type := (.object "jdk/internal/access/JavaLangAccess"), accessFlags := 26, slot := 1, constantValue := 0 }]
  methods := #[k21m0]
  instanceTypes := #[(.object "java/lang/String"), (.array (.object "java/lang/String")), (.object "java/util/Set")]
  staticTypes := #[(.object "sun/nio/cs/UTF_8"), (.object "jdk/internal/access/JavaLangAccess")]
  resolved := Array.replicate 84 none
  statics := some 2 }

def pool22 : Array CpInfo := pool [(2, .class_ 4), (1, u "java/lang/Object"), (0, u "<init>"), (0, u "()V"), (0, .methodref 8 9), (0, .class_ 10), (0, .nameAndType 11 12), (0, u "java/lang/StringCoding"), (0, u "countPositives"), (0, u "([BII)I"), (11, u "hasNegatives"), (0, u "([BII)Z")] 23

def k22m0 : Method := { name := "<init>", desc := "()V", sig := { parameters := [], returnType := none }, accessFlags := 2, code := none }
def k22c1 : Code := { maxStack := 3, maxLocals := 3, code := jdk_123_method_2_code, exceptionTable := #[], attributes := #[] }
def k22m1 : Method := { name := "hasNegatives", desc := "([BII)Z", sig := { parameters := [(.array .byte), .int, .int], returnType := some .boolean }, accessFlags := 9, code := some k22c1 }
def k22c2 : Code := { maxStack := 2, maxLocals := 5, code := jdk_123_method_3_code, exceptionTable := #[], attributes := #[] }
def k22m2 : Method := { name := "countPositives", desc := "([BII)I", sig := { parameters := [(.array .byte), .int, .int], returnType := some .int }, accessFlags := 9, code := some k22c2 }
/-- java/lang/StringCoding -/
def k22 : Class := { plain "java/lang/StringCoding" (some 0) with
  accessFlags := 32
  interfaces := #[]
  cf := some (fileOf pool22 8 #[] #[{ accessFlags := 2, nameIndex := 5, descriptorIndex := 6, attributes := #[] }, { accessFlags := 9, nameIndex := 24, descriptorIndex := 25, attributes := #[] }, { accessFlags := 9, nameIndex := 11, descriptorIndex := 12, attributes := #[] }] 32 2 #[] #[])
  fields := #[]
  methods := #[k22m0, k22m1, k22m2]
  instanceTypes := #[]
  staticTypes := #[]
  resolved := Array.replicate 49 none
  statics := none }

def pool23 : Array CpInfo := pool [(1, .class_ 2), (0, u "java/lang/Cloneable"), (0, .class_ 4), (0, u "java/lang/Object")] 2

/-- java/lang/Cloneable -/
def k23 : Class := { plain "java/lang/Cloneable" (some 0) with
  accessFlags := 1537
  interfaces := #[]
  cf := some (fileOf pool23 1 #[] #[] 1537 3 #[] #[])
  fields := #[]
  methods := #[]
  instanceTypes := #[]
  staticTypes := #[]
  resolved := Array.replicate 7 none
  statics := none }

def pool24 : Array CpInfo := pool [(2, .class_ 4), (1, u "java/lang/Object"), (0, u "<init>"), (0, u "()V"), (17, .class_ 26), (1, u "jdk/internal/util/Preconditions"), (28, .class_ 56), (0, u "jdk/internal/util/Preconditions$4"), (57, .class_ 115), (0, u "jdk/internal/util/Preconditions$1"), (7, u "SIOOBE_FORMATTER"), (0, u "Ljava/util/function/BiFunction;"), (0, .class_ 126), (0, u "jdk/internal/util/Preconditions$2"), (3, u "AIOOBE_FORMATTER"), (0, .class_ 132), (0, u "jdk/internal/util/Preconditions$3"), (3, u "IOOBE_FORMATTER")] 57

def k24m0 : Method := { name := "<init>", desc := "()V", sig := { parameters := [], returnType := none }, accessFlags := 1, code := none }
/-- jdk/internal/util/Preconditions -/
def k24 : Class := { plain "jdk/internal/util/Preconditions" (some 0) with
  accessFlags := 33
  interfaces := #[]
  cf := some (fileOf pool24 24 #[.nestMembers #[55, 131, 125, 114]] #[{ accessFlags := 1, nameIndex := 5, descriptorIndex := 6, attributes := #[] }] 33 2 #[] #[{ accessFlags := 25, nameIndex := 123, descriptorIndex := 124, attributes := #[] }, { accessFlags := 25, nameIndex := 130, descriptorIndex := 124, attributes := #[] }, { accessFlags := 25, nameIndex := 136, descriptorIndex := 124, attributes := #[] }])
  fields := #[{ name := "SIOOBE_FORMATTER", type := (.object "java/util/function/BiFunction"), accessFlags := 25, slot := 0, constantValue := 0 }, { name := "AIOOBE_FORMATTER", type := (.object "java/util/function/BiFunction"), accessFlags := 25, slot := 1, constantValue := 0 }, { name := "IOOBE_FORMATTER", type := (.object "java/util/function/BiFunction"), accessFlags := 25, slot := 2, constantValue := 0 }]
  methods := #[k24m0]
  instanceTypes := #[]
  staticTypes := #[(.object "java/util/function/BiFunction"), (.object "java/util/function/BiFunction"), (.object "java/util/function/BiFunction")]
  resolved := Array.replicate 194 none
  statics := some 3 }

def pool25 : Array CpInfo := pool [(9, u "<init>"), (6, .class_ 18), (1, u "java/lang/Object"), (0, u "()V"), (1, .class_ 23), (1, u "jdk/internal/util/ArraysSupport"), (0, u "LOG2_ARRAY_LONG_INDEX_SCALE"), (0, u "I"), (2, u "U"), (0, u "Ljdk/internal/misc/Unsafe;"), (8, u "BIG_ENDIAN"), (0, u "Z"), (8, u "LOG2_BYTE_BIT_SIZE"), (4, u "LOG2_ARRAY_INT_INDEX_SCALE"), (54, u "JLA"), (0, u "Ljdk/internal/access/JavaLangAccess;"), (11, u "LOG2_ARRAY_BOOLEAN_INDEX_SCALE"), (9, u "LOG2_ARRAY_BYTE_INDEX_SCALE"), (5, u "LOG2_ARRAY_CHAR_INDEX_SCALE"), (5, u "LOG2_ARRAY_SHORT_INDEX_SCALE"), (18, u "LOG2_ARRAY_FLOAT_INDEX_SCALE"), (24, u "LOG2_ARRAY_DOUBLE_INDEX_SCALE"), (89, u "T_BOOLEAN"), (2, u "T_CHAR"), (1, u "T_FLOAT"), (1, u "T_DOUBLE"), (1, u "T_BYTE"), (1, u "T_SHORT"), (1, u "T_INT"), (1, u "T_LONG"), (1, u "SOFT_MAX_ARRAY_LENGTH")] 83

def k25m0 : Method := { name := "<init>", desc := "()V", sig := { parameters := [], returnType := none }, accessFlags := 2, code := none }
/-- jdk/internal/util/ArraysSupport -/
def k25 : Class := { plain "jdk/internal/util/ArraysSupport" (some 0) with
  accessFlags := 33
  interfaces := #[]
  cf := some (fileOf pool25 21 #[] #[{ accessFlags := 2, nameIndex := 9, descriptorIndex := 19, attributes := #[] }] 33 16 #[] #[{ accessFlags := 24, nameIndex := 28, descriptorIndex := 29, attributes := #[] }, { accessFlags := 26, nameIndex := 38, descriptorIndex := 39, attributes := #[] }, { accessFlags := 25, nameIndex := 121, descriptorIndex := 25, attributes := #[] }, { accessFlags := 25, nameIndex := 131, descriptorIndex := 25, attributes := #[] }, { accessFlags := 25, nameIndex := 137, descriptorIndex := 25, attributes := #[] }, { accessFlags := 25, nameIndex := 143, descriptorIndex := 25, attributes := #[] }, { accessFlags := 25, nameIndex := 53, descriptorIndex := 25, attributes := #[] }, { accessFlags := 25, nameIndex := 24, descriptorIndex := 25, attributes := #[] }, { accessFlags := 25, nameIndex := 162, descriptorIndex := 25, attributes := #[] }, { accessFlags := 25, nameIndex := 187, descriptorIndex := 25, attributes := #[] }, { accessFlags := 26, nameIndex := 48, descriptorIndex := 25, attributes := #[] }, { accessFlags := 25, nameIndex := 277, descriptorIndex := 25, attributes := #[] }, { accessFlags := 25, nameIndex := 280, descriptorIndex := 25, attributes := #[] }, { accessFlags := 25, nameIndex := 282, descriptorIndex := 25, attributes := #[] }, { accessFlags := 25, nameIndex := 284, descriptorIndex := 25, attributes := #[] }, { accessFlags := 25, nameIndex := 286, descriptorIndex := 25, attributes := #[] }, { accessFlags := 25, nameIndex := 288, descriptorIndex := 25, attributes := #[] }, { accessFlags := 25, nameIndex := 290, descriptorIndex := 25, attributes := #[] }, { accessFlags := 25, nameIndex := 292, descriptorIndex := 25, attributes := #[] }, { accessFlags := 26, nameIndex := 108, descriptorIndex := 109, attributes := #[] }, { accessFlags := 25, nameIndex := 294, descriptorIndex := 25, attributes := #[] }])
  fields := #[{ name := "U", type := (.object "jdk/internal/misc/Unsafe"), accessFlags := 24, slot := 0, constantValue := 0 }, { name := "BIG_ENDIAN", type := .boolean, accessFlags := 26, slot := 1, constantValue := 0 }, { name := "LOG2_ARRAY_BOOLEAN_INDEX_SCALE", type := .int, accessFlags := 25, slot := 2, constantValue := 0 }, { name := "LOG2_ARRAY_BYTE_INDEX_SCALE", type := .int, accessFlags := 25, slot := 3, constantValue := 0 }, { name := "LOG2_ARRAY_CHAR_INDEX_SCALE", type := .int, accessFlags := 25, slot := 4, constantValue := 0 }, { name := "LOG2_ARRAY_SHORT_INDEX_SCALE", type := .int, accessFlags := 25, slot := 5, constantValue := 0 }, { name := "LOG2_ARRAY_INT_INDEX_SCALE", type := .int, accessFlags := 25, slot := 6, constantValue := 0 }, { name := "LOG2_ARRAY_LONG_INDEX_SCALE", type := .int, accessFlags := 25, slot := 7, constantValue := 0 }, { name := "LOG2_ARRAY_FLOAT_INDEX_SCALE", type := .int, accessFlags := 25, slot := 8, constantValue := 0 }, { name := "LOG2_ARRAY_DOUBLE_INDEX_SCALE", type := .int, accessFlags := 25, slot := 9, constantValue := 0 }, { name := "LOG2_BYTE_BIT_SIZE", type := .int, accessFlags := 26, slot := 10, constantValue := 0 }, { name := "T_BOOLEAN", type := .int, accessFlags := 25, slot := 11, constantValue := 0 }, { name := "T_CHAR", type := .int, accessFlags := 25, slot := 12, constantValue := 0 }, { name := "T_FLOAT", type := .int, accessFlags := 25, slot := 13, constantValue := 0 }, { name := "T_DOUBLE", type := .int, accessFlags := 25, slot := 14, constantValue := 0 }, { name := "T_BYTE", type := .int, accessFlags := 25, slot := 15, constantValue := 0 }, { name := "T_SHORT", type := .int, accessFlags := 25, slot := 16, constantValue := 0 }, { name := "T_INT", type := .int, accessFlags := 25, slot := 17, constantValue := 0 }, { name := "T_LONG", type := .int, accessFlags := 25, slot := 18, constantValue := 0 }, { name := "JLA", type := (.object "jdk/internal/access/JavaLangAccess"), accessFlags := 26, slot := 19, constantValue := 0 }, { name := "SOFT_MAX_ARRAY_LENGTH", type := .int, accessFlags := 25, slot := 20, constantValue := 0 }]
  methods := #[k25m0]
  instanceTypes := #[]
  staticTypes := #[(.object "jdk/internal/misc/Unsafe"), .boolean, .int, .int, .int, .int, .int, .int, .int, .int, .int, .int, .int, .int, .int, .int, .int, .int, .int, (.object "jdk/internal/access/JavaLangAccess"), .int]
  resolved := Array.replicate 378 none
  statics := none }

/-- the primitive byte -/
def k26 : Class := { plain "byte" none with kind := .primitive 'B', accessFlags := 0x411 }
/-- [B -/
def k27 : Class := { plain "[B" (some 0) with kind := .array 26 .byte, interfaces := #[23, 2], accessFlags := 1041 }

/-- the primitive char -/
def k28 : Class := { plain "char" none with kind := .primitive 'C', accessFlags := 0x411 }
/-- [C -/
def k29 : Class := { plain "[C" (some 0) with kind := .array 28 .char, interfaces := #[23, 2], accessFlags := 1041 }

/-- the primitive int -/
def k30 : Class := { plain "int" none with kind := .primitive 'I', accessFlags := 0x411 }
/-- [I -/
def k31 : Class := { plain "[I" (some 0) with kind := .array 30 .int, interfaces := #[23, 2], accessFlags := 1041 }

def heap : Heap := #[{ cls := 7, slots := #[.long 0, .int 1, .null, .int 0, .null, .int 0, .int 0], vm := .statics 7 },
  { cls := 17, slots := #[.null, .null, .ref 4, .null, .null, .null], vm := .statics 17 },
  { cls := 21, slots := #[.ref 4, .null], vm := .statics 21 },
  { cls := 24, slots := #[.null, .null, .null], vm := .statics 24 },
  { cls := 21, slots := #[.null, .null, .null], vm := .none }]
def classes : Array Class := #[k0, k1, k2, k3, k4, k5, k6, k7, k8, k9, k10, k11, k12, k13, k14, k15, k16, k17, k18, k19, k20, k21, k22, k23, k24, k25, k26, k27, k28, k29, k30, k31]
def interned : List (Array UInt16 × Addr) := []
def slotsUsed : Nat := 21
def theMethod : MethodId := ⟨1, 1⟩
def args0 : Array Value := #[.int 1, .int 2, .int 3, .int 4, .int 5]
def aboutOver (below : List Frame) : State where
  vm := { classes := classes, interned := interned.toArray }
  heap := heap
  slotsUsed := slotsUsed
  threads := #[{ frames := .invoking theMethod args0 :: below }]
def below0 : List Frame := [.native { method := ⟨0, 0⟩, args := #[] }]
def about1 : State := aboutOver below0
def p0 : Program := .bare "" "" ""
def e0 : Env := launch0.env 0 0 0
theorem w_frames : about1.frames = Frame.invoking theMethod args0 :: below0 := rfl
set_option maxRecDepth 65536 in
theorem w_args : argsFit about1.vm theMethod args0 = true := by decide +kernel
set_option maxRecDepth 65536 in
theorem w_heap : heapFits about1 = true := by decide +kernel
set_option maxRecDepth 65536 in
theorem w_runnable : about1.curStatus? = some .runnable := by decide +kernel
set_option maxRecDepth 65536 in
theorem w_alone : about1.alone = true := by decide +kernel
set_option maxRecDepth 65536 in
theorem w_named : about1.methodNamed? x = some theMethod := by decide +kernel
set_option maxRecDepth 65536 in
theorem w_hears : about1.hears theMethod below0 = true := by decide +kernel
set_option maxRecDepth 65536 in
theorem w_ripe : about1.ripe theMethod args0 below0 = true := by decide +kernel
theorem w_running : about1.status = .running := rfl
set_option maxRecDepth 65536 in
theorem w_room : about1.hasRoom e0.platform room_1 = true :=
  launch0.hasRoom_least _ room_1 (by decide +kernel) (by decide +kernel) (by decide +kernel) (by decide +kernel) (by decide +kernel) (by decide +kernel)
theorem allAtoms_all (ts : List Jvm.Cond) (a : Array Jvm.Value) (st : Jvm.State) : (allAtoms ts).before a st = ts.all (fun c => c.before a st) := by
  induction ts with
  | nil => rfl
  | cons c t ih =>
    show (Jvm.Cond.and c (allAtoms t)).before a st = _
    rw [Jvm.Cond.before_and, ih, List.all_cons]
def words1 : List Jvm.Cond := Jvm.Cond.code x code maxLocals ret :: tables_1
/-- a 'code' word, met by the world's own term for the bytes: nothing is compared byte by byte -/
theorem code_word {y : MethodName} {bytes : ByteArray} {mx : Nat} {rt : Option FieldType} {a : Array Value} {s : State} {m : MethodId} {meth : Method} {c : Code} (h1 : s.methodNamed? y = some m) (h2 : s.vm.method? m = some meth) (h3 : meth.code = some c) (h4 : c.code = bytes)
    (h5 : (c.maxLocals == mx && c.exceptionTable.isEmpty && decide (c.maxStack ≤ mostOperands) && decide (meth.sig.returnType = rt) && !meth.locks && decide (parseMethodDescriptor y.desc = some meth.sig)) = true) : (Jvm.Cond.code y bytes mx rt).before a s = true := by
  simp only [Bool.and_eq_true, beq_iff_eq, Bool.not_eq_true', decide_eq_true_eq] at h5
  obtain ⟨⟨⟨⟨⟨g1, g2⟩, g3⟩, g4⟩, g5⟩, g6⟩ := h5
  simp [Cond.before, Cond.holds, Cond.value, h1, h2, h3, h4, g1, g2, g3, g4, g5, g6]
def isCode : Jvm.Cond → Bool
  | .code _ _ _ _ => true
  | _ => false
theorem all_split {L : List Jvm.Cond} {P : Jvm.Cond → Bool} (h1 : L.all (fun c => isCode c || P c) = true) (h2 : ∀ c ∈ L.filter isCode, P c = true) : L.all P = true := by
  refine List.all_eq_true.mpr fun c hc => ?_
  have h := List.all_eq_true.mp h1 c hc
  rcases Bool.eq_false_or_eq_true (isCode c) with hi | hi
  · exact h2 c (List.mem_filter.mpr ⟨hc, hi⟩)
  · simpa [hi] using h
set_option maxRecDepth 65536 in
theorem w_c0 : (Jvm.Cond.code x code maxLocals ret).before args0 about1 = true := code_word (m := ⟨1, 1⟩) (meth := k1m1) (c := k1c1) (by decide +kernel) rfl rfl rfl (by decide +kernel)
set_option maxRecDepth 65536 in
theorem w_c1 : (Jvm.Cond.code ({ cls := "java/lang/String", name := "<init>", desc := "([C)V" } : Jvm.MethodName) jdk_42_method_3_code (2 : Nat) (Option.none : Option Jvm.ClassFile.FieldType)).before args0 about1 = true := code_word (m := ⟨7, 1⟩) (meth := k7m1) (c := k7c1) (by decide +kernel) rfl rfl rfl (by decide +kernel)
set_option maxRecDepth 65536 in
theorem w_c2 : (Jvm.Cond.code ({ cls := "java/lang/String", name := "<init>", desc := "([CIILjava/lang/Void;)V" } : Jvm.MethodName) jdk_42_method_149_code (6 : Nat) (Option.none : Option Jvm.ClassFile.FieldType)).before args0 about1 = true := code_word (m := ⟨7, 9⟩) (meth := k7m9) (c := k7c9) (by decide +kernel) rfl rfl rfl (by decide +kernel)
set_option maxRecDepth 65536 in
theorem w_c3 : (Jvm.Cond.code ({ cls := "java/lang/Object", name := "<init>", desc := "()V" } : Jvm.MethodName) object_method_1_code (1 : Nat) (Option.none : Option Jvm.ClassFile.FieldType)).before args0 about1 = true := code_word (m := ⟨0, 0⟩) (meth := k0m0) (c := k0c0) (by decide +kernel) rfl rfl rfl (by decide +kernel)
set_option maxRecDepth 65536 in
theorem w_c4 : (Jvm.Cond.code ({ cls := "java/lang/String", name := "valueOf", desc := "(C)Ljava/lang/String;" } : Jvm.MethodName) jdk_42_method_139_code (1 : Nat) (Option.some (Jvm.ClassFile.FieldType.object "java/lang/String"))).before args0 about1 = true := code_word (m := ⟨7, 7⟩) (meth := k7m7) (c := k7c7) (by decide +kernel) rfl rfl rfl (by decide +kernel)
set_option maxRecDepth 65536 in
theorem w_c5 : (Jvm.Cond.code ({ cls := "java/lang/StringLatin1", name := "canEncode", desc := "(C)Z" } : Jvm.MethodName) jdk_43_method_3_code (1 : Nat) (Option.some Jvm.ClassFile.FieldType.boolean)).before args0 about1 = true := code_word (m := ⟨8, 1⟩) (meth := k8m1) (c := k8c1) (by decide +kernel) rfl rfl rfl (by decide +kernel)
set_option maxRecDepth 65536 in
theorem w_c6 : (Jvm.Cond.code ({ cls := "java/lang/StringLatin1", name := "toBytes", desc := "(C)[B" } : Jvm.MethodName) jdk_43_method_46_code (1 : Nat) (Option.some (Jvm.ClassFile.FieldType.array Jvm.ClassFile.FieldType.byte))).before args0 about1 = true := code_word (m := ⟨8, 2⟩) (meth := k8m2) (c := k8c2) (by decide +kernel) rfl rfl rfl (by decide +kernel)
set_option maxRecDepth 65536 in
theorem w_c7 : (Jvm.Cond.code ({ cls := "java/lang/String", name := "<init>", desc := "([BB)V" } : Jvm.MethodName) jdk_42_method_151_code (3 : Nat) (Option.none : Option Jvm.ClassFile.FieldType)).before args0 about1 = true := code_word (m := ⟨7, 11⟩) (meth := k7m11) (c := k7c11) (by decide +kernel) rfl rfl rfl (by decide +kernel)
set_option maxRecDepth 65536 in
theorem w_c8 : (Jvm.Cond.code ({ cls := "java/lang/StringUTF16", name := "compress", desc := "([CII)[B" } : Jvm.MethodName) jdk_52_method_16_code (6 : Nat) (Option.some (Jvm.ClassFile.FieldType.array Jvm.ClassFile.FieldType.byte))).before args0 about1 = true := code_word (m := ⟨9, 2⟩) (meth := k9m2) (c := k9c2) (by decide +kernel) rfl rfl rfl (by decide +kernel)
set_option maxRecDepth 65536 in
theorem w_c9 : (Jvm.Cond.code ({ cls := "java/lang/StringUTF16", name := "compress", desc := "([CI[BII)I" } : Jvm.MethodName) jdk_52_method_21_code (7 : Nat) (Option.some Jvm.ClassFile.FieldType.int)).before args0 about1 = true := code_word (m := ⟨9, 3⟩) (meth := k9m3) (c := k9c3) (by decide +kernel) rfl rfl rfl (by decide +kernel)
set_option maxRecDepth 65536 in
theorem w_c10 : (Jvm.Cond.code ({ cls := "java/lang/StringUTF16", name := "coderFromArrayLen", desc := "([BI)B" } : Jvm.MethodName) jdk_52_method_15_code (2 : Nat) (Option.some Jvm.ClassFile.FieldType.byte)).before args0 about1 = true := code_word (m := ⟨9, 1⟩) (meth := k9m1) (c := k9c1) (by decide +kernel) rfl rfl rfl (by decide +kernel)
set_option maxRecDepth 65536 in
theorem w_c11 : (Jvm.Cond.code ({ cls := "com/example/orrery/orrery/server/Html", name := "<init>", desc := "()V" } : Jvm.MethodName) prog_17_method_1_code (1 : Nat) (Option.none : Option Jvm.ClassFile.FieldType)).before args0 about1 = true := code_word (m := ⟨10, 0⟩) (meth := k10m0) (c := k10c0) (by decide +kernel) rfl rfl rfl (by decide +kernel)
set_option maxRecDepth 65536 in
theorem w_c12 : (Jvm.Cond.code ({ cls := "java/lang/StringBuilder", name := "<init>", desc := "(Ljava/lang/String;)V" } : Jvm.MethodName) jdk_67_method_3_code (2 : Nat) (Option.none : Option Jvm.ClassFile.FieldType)).before args0 about1 = true := code_word (m := ⟨13, 1⟩) (meth := k13m1) (c := k13c1) (by decide +kernel) rfl rfl rfl (by decide +kernel)
set_option maxRecDepth 65536 in
theorem w_c13 : (Jvm.Cond.code ({ cls := "java/lang/AbstractStringBuilder", name := "<init>", desc := "(Ljava/lang/String;)V" } : Jvm.MethodName) jdk_68_method_3_code (5 : Nat) (Option.none : Option Jvm.ClassFile.FieldType)).before args0 about1 = true := code_word (m := ⟨12, 1⟩) (meth := k12m1) (c := k12c1) (by decide +kernel) rfl rfl rfl (by decide +kernel)
set_option maxRecDepth 65536 in
theorem w_c14 : (Jvm.Cond.code ({ cls := "java/lang/String", name := "length", desc := "()I" } : Jvm.MethodName) jdk_42_method_54_code (1 : Nat) (Option.some Jvm.ClassFile.FieldType.int)).before args0 about1 = true := code_word (m := ⟨7, 5⟩) (meth := k7m5) (c := k7c5) (by decide +kernel) rfl rfl rfl (by decide +kernel)
set_option maxRecDepth 65536 in
theorem w_c15 : (Jvm.Cond.code ({ cls := "java/lang/String", name := "coder", desc := "()B" } : Jvm.MethodName) jdk_42_method_152_code (1 : Nat) (Option.some Jvm.ClassFile.FieldType.byte)).before args0 about1 = true := code_word (m := ⟨7, 12⟩) (meth := k7m12) (c := k7c12) (by decide +kernel) rfl rfl rfl (by decide +kernel)
set_option maxRecDepth 65536 in
theorem w_c16 : (Jvm.Cond.code ({ cls := "java/lang/StringBuilder", name := "append", desc := "(Ljava/lang/String;)Ljava/lang/AbstractStringBuilder;" } : Jvm.MethodName) jdk_67_method_80_code (2 : Nat) (Option.some (Jvm.ClassFile.FieldType.object "java/lang/AbstractStringBuilder"))).before args0 about1 = true := code_word (m := ⟨13, 5⟩) (meth := k13m5) (c := k13c5) (by decide +kernel) rfl rfl rfl (by decide +kernel)
set_option maxRecDepth 65536 in
theorem w_c17 : (Jvm.Cond.code ({ cls := "java/lang/StringBuilder", name := "append", desc := "(Ljava/lang/String;)Ljava/lang/StringBuilder;" } : Jvm.MethodName) jdk_67_method_7_code (2 : Nat) (Option.some (Jvm.ClassFile.FieldType.object "java/lang/StringBuilder"))).before args0 about1 = true := code_word (m := ⟨13, 2⟩) (meth := k13m2) (c := k13c2) (by decide +kernel) rfl rfl rfl (by decide +kernel)
set_option maxRecDepth 65536 in
theorem w_c18 : (Jvm.Cond.code ({ cls := "java/lang/AbstractStringBuilder", name := "append", desc := "(Ljava/lang/String;)Ljava/lang/AbstractStringBuilder;" } : Jvm.MethodName) jdk_68_method_22_code (3 : Nat) (Option.some (Jvm.ClassFile.FieldType.object "java/lang/AbstractStringBuilder"))).before args0 about1 = true := code_word (m := ⟨12, 4⟩) (meth := k12m4) (c := k12c4) (by decide +kernel) rfl rfl rfl (by decide +kernel)
set_option maxRecDepth 65536 in
theorem w_c19 : (Jvm.Cond.code ({ cls := "java/lang/AbstractStringBuilder", name := "ensureCapacityInternal", desc := "(I)V" } : Jvm.MethodName) jdk_68_method_9_code (3 : Nat) (Option.none : Option Jvm.ClassFile.FieldType)).before args0 about1 = true := code_word (m := ⟨12, 3⟩) (meth := k12m3) (c := k12c3) (by decide +kernel) rfl rfl rfl (by decide +kernel)
set_option maxRecDepth 65536 in
theorem w_c20 : (Jvm.Cond.code ({ cls := "java/lang/AbstractStringBuilder", name := "putStringAt", desc := "(ILjava/lang/String;)V" } : Jvm.MethodName) jdk_68_method_73_code (3 : Nat) (Option.none : Option Jvm.ClassFile.FieldType)).before args0 about1 = true := code_word (m := ⟨12, 9⟩) (meth := k12m9) (c := k12c9) (by decide +kernel) rfl rfl rfl (by decide +kernel)
set_option maxRecDepth 65536 in
theorem w_c21 : (Jvm.Cond.code ({ cls := "java/lang/AbstractStringBuilder", name := "inflateIfNeededFor", desc := "(Ljava/lang/String;)V" } : Jvm.MethodName) jdk_68_method_71_code (2 : Nat) (Option.none : Option Jvm.ClassFile.FieldType)).before args0 about1 = true := code_word (m := ⟨12, 8⟩) (meth := k12m8) (c := k12c8) (by decide +kernel) rfl rfl rfl (by decide +kernel)
set_option maxRecDepth 65536 in
theorem w_c22 : (Jvm.Cond.code ({ cls := "java/lang/String", name := "getBytes", desc := "([BIB)V" } : Jvm.MethodName) jdk_42_method_147_code (4 : Nat) (Option.none : Option Jvm.ClassFile.FieldType)).before args0 about1 = true := code_word (m := ⟨7, 8⟩) (meth := k7m8) (c := k7c8) (by decide +kernel) rfl rfl rfl (by decide +kernel)
set_option maxRecDepth 65536 in
theorem w_c23 : (Jvm.Cond.code ({ cls := "com/example/orrery/orrery/server/Html", name := "close", desc := "(Ljava/lang/String;)Lcom/example/orrery/orrery/server/Html;" } : Jvm.MethodName) prog_17_method_3_code (2 : Nat) (Option.some (Jvm.ClassFile.FieldType.object "com/example/orrery/orrery/server/Html"))).before args0 about1 = true := code_word (m := ⟨10, 1⟩) (meth := k10m1) (c := k10c1) (by decide +kernel) rfl rfl rfl (by decide +kernel)
set_option maxRecDepth 65536 in
theorem w_c24 : (Jvm.Cond.code ({ cls := "java/lang/StringBuilder", name := "append", desc := "(C)Ljava/lang/StringBuilder;" } : Jvm.MethodName) jdk_67_method_14_code (2 : Nat) (Option.some (Jvm.ClassFile.FieldType.object "java/lang/StringBuilder"))).before args0 about1 = true := code_word (m := ⟨13, 3⟩) (meth := k13m3) (c := k13c3) (by decide +kernel) rfl rfl rfl (by decide +kernel)
set_option maxRecDepth 65536 in
theorem w_c25 : (Jvm.Cond.code ({ cls := "java/lang/AbstractStringBuilder", name := "append", desc := "(C)Ljava/lang/AbstractStringBuilder;" } : Jvm.MethodName) jdk_68_method_31_code (2 : Nat) (Option.some (Jvm.ClassFile.FieldType.object "java/lang/AbstractStringBuilder"))).before args0 about1 = true := code_word (m := ⟨12, 5⟩) (meth := k12m5) (c := k12c5) (by decide +kernel) rfl rfl rfl (by decide +kernel)
set_option maxRecDepth 65536 in
theorem w_c26 : (Jvm.Cond.code ({ cls := "java/lang/AbstractStringBuilder", name := "isLatin1", desc := "()Z" } : Jvm.MethodName) jdk_68_method_68_code (1 : Nat) (Option.some Jvm.ClassFile.FieldType.boolean)).before args0 about1 = true := code_word (m := ⟨12, 7⟩) (meth := k12m7) (c := k12c7) (by decide +kernel) rfl rfl rfl (by decide +kernel)
set_option maxRecDepth 65536 in
theorem w_c27 : (Jvm.Cond.code ({ cls := "com/example/orrery/orrery/server/Html", name := "bytes", desc := "()[B" } : Jvm.MethodName) prog_17_method_6_code (1 : Nat) (Option.some (Jvm.ClassFile.FieldType.array Jvm.ClassFile.FieldType.byte))).before args0 about1 = true := code_word (m := ⟨10, 2⟩) (meth := k10m2) (c := k10c2) (by decide +kernel) rfl rfl rfl (by decide +kernel)
set_option maxRecDepth 65536 in
theorem w_c28 : (Jvm.Cond.code ({ cls := "java/lang/StringBuilder", name := "toString", desc := "()Ljava/lang/String;" } : Jvm.MethodName) jdk_67_method_42_code (1 : Nat) (Option.some (Jvm.ClassFile.FieldType.object "java/lang/String"))).before args0 about1 = true := code_word (m := ⟨13, 4⟩) (meth := k13m4) (c := k13c4) (by decide +kernel) rfl rfl rfl (by decide +kernel)
set_option maxRecDepth 65536 in
theorem w_c29 : (Jvm.Cond.code ({ cls := "java/lang/String", name := "<init>", desc := "(Ljava/lang/StringBuilder;)V" } : Jvm.MethodName) jdk_42_method_53_code (2 : Nat) (Option.none : Option Jvm.ClassFile.FieldType)).before args0 about1 = true := code_word (m := ⟨7, 4⟩) (meth := k7m4) (c := k7c4) (by decide +kernel) rfl rfl rfl (by decide +kernel)
set_option maxRecDepth 65536 in
theorem w_c30 : (Jvm.Cond.code ({ cls := "java/lang/String", name := "<init>", desc := "(Ljava/lang/AbstractStringBuilder;Ljava/lang/Void;)V" } : Jvm.MethodName) jdk_42_method_150_code (5 : Nat) (Option.none : Option Jvm.ClassFile.FieldType)).before args0 about1 = true := code_word (m := ⟨7, 10⟩) (meth := k7m10) (c := k7c10) (by decide +kernel) rfl rfl rfl (by decide +kernel)
set_option maxRecDepth 65536 in
theorem w_c31 : (Jvm.Cond.code ({ cls := "java/lang/AbstractStringBuilder", name := "getValue", desc := "()[B" } : Jvm.MethodName) jdk_68_method_64_code (1 : Nat) (Option.some (Jvm.ClassFile.FieldType.array Jvm.ClassFile.FieldType.byte))).before args0 about1 = true := code_word (m := ⟨12, 6⟩) (meth := k12m6) (c := k12c6) (by decide +kernel) rfl rfl rfl (by decide +kernel)
set_option maxRecDepth 65536 in
theorem w_c32 : (Jvm.Cond.code ({ cls := "java/lang/StringBuilder", name := "length", desc := "()I" } : Jvm.MethodName) jdk_67_method_93_code (1 : Nat) (Option.some Jvm.ClassFile.FieldType.int)).before args0 about1 = true := code_word (m := ⟨13, 6⟩) (meth := k13m6) (c := k13c6) (by decide +kernel) rfl rfl rfl (by decide +kernel)
set_option maxRecDepth 65536 in
theorem w_c33 : (Jvm.Cond.code ({ cls := "java/lang/AbstractStringBuilder", name := "length", desc := "()I" } : Jvm.MethodName) jdk_68_method_6_code (1 : Nat) (Option.some Jvm.ClassFile.FieldType.int)).before args0 about1 = true := code_word (m := ⟨12, 2⟩) (meth := k12m2) (c := k12c2) (by decide +kernel) rfl rfl rfl (by decide +kernel)
set_option maxRecDepth 65536 in
theorem w_c34 : (Jvm.Cond.code ({ cls := "java/util/Arrays", name := "copyOfRange", desc := "([BII)[B" } : Jvm.MethodName) jdk_65_method_132_code (3 : Nat) (Option.some (Jvm.ClassFile.FieldType.array Jvm.ClassFile.FieldType.byte))).before args0 about1 = true := code_word (m := ⟨15, 2⟩) (meth := k15m2) (c := k15c2) (by decide +kernel) rfl rfl rfl (by decide +kernel)
set_option maxRecDepth 65536 in
theorem w_c35 : (Jvm.Cond.code ({ cls := "java/util/Arrays", name := "copyOfRangeByte", desc := "([BII)[B" } : Jvm.MethodName) jdk_65_method_133_code (5 : Nat) (Option.some (Jvm.ClassFile.FieldType.array Jvm.ClassFile.FieldType.byte))).before args0 about1 = true := code_word (m := ⟨15, 3⟩) (meth := k15m3) (c := k15c3) (by decide +kernel) rfl rfl rfl (by decide +kernel)
set_option maxRecDepth 65536 in
theorem w_c36 : (Jvm.Cond.code ({ cls := "java/util/Arrays", name := "checkLength", desc := "(II)V" } : Jvm.MethodName) jdk_65_method_131_code (2 : Nat) (Option.none : Option Jvm.ClassFile.FieldType)).before args0 about1 = true := code_word (m := ⟨15, 1⟩) (meth := k15m1) (c := k15c1) (by decide +kernel) rfl rfl rfl (by decide +kernel)
set_option maxRecDepth 65536 in
theorem w_c37 : (Jvm.Cond.code ({ cls := "java/lang/Math", name := "min", desc := "(II)I" } : Jvm.MethodName) jdk_29_method_69_code (2 : Nat) (Option.some Jvm.ClassFile.FieldType.int)).before args0 about1 = true := code_word (m := ⟨16, 1⟩) (meth := k16m1) (c := k16c1) (by decide +kernel) rfl rfl rfl (by decide +kernel)
set_option maxRecDepth 65536 in
theorem w_c38 : (Jvm.Cond.code ({ cls := "java/lang/String", name := "getBytes", desc := "(Ljava/nio/charset/Charset;)[B" } : Jvm.MethodName) jdk_42_method_64_code (2 : Nat) (Option.some (Jvm.ClassFile.FieldType.array Jvm.ClassFile.FieldType.byte))).before args0 about1 = true := code_word (m := ⟨7, 6⟩) (meth := k7m6) (c := k7c6) (by decide +kernel) rfl rfl rfl (by decide +kernel)
set_option maxRecDepth 65536 in
theorem w_c39 : (Jvm.Cond.code ({ cls := "java/lang/String", name := "encode", desc := "(Ljava/nio/charset/Charset;B[B)[B" } : Jvm.MethodName) jdk_42_method_18_code (3 : Nat) (Option.some (Jvm.ClassFile.FieldType.array Jvm.ClassFile.FieldType.byte))).before args0 about1 = true := code_word (m := ⟨7, 2⟩) (meth := k7m2) (c := k7c2) (by decide +kernel) rfl rfl rfl (by decide +kernel)
set_option maxRecDepth 65536 in
theorem w_c40 : (Jvm.Cond.code ({ cls := "java/lang/String", name := "encodeUTF8", desc := "(B[BZ)[B" } : Jvm.MethodName) jdk_42_method_46_code (9 : Nat) (Option.some (Jvm.ClassFile.FieldType.array Jvm.ClassFile.FieldType.byte))).before args0 about1 = true := code_word (m := ⟨7, 3⟩) (meth := k7m3) (c := k7c3) (by decide +kernel) rfl rfl rfl (by decide +kernel)
set_option maxRecDepth 65536 in
theorem w_c41 : (Jvm.Cond.code ({ cls := "java/lang/StringCoding", name := "hasNegatives", desc := "([BII)Z" } : Jvm.MethodName) jdk_123_method_2_code (3 : Nat) (Option.some Jvm.ClassFile.FieldType.boolean)).before args0 about1 = true := code_word (m := ⟨22, 1⟩) (meth := k22m1) (c := k22c1) (by decide +kernel) rfl rfl rfl (by decide +kernel)
set_option maxRecDepth 65536 in
theorem w_c42 : (Jvm.Cond.code ({ cls := "java/lang/StringCoding", name := "countPositives", desc := "([BII)I" } : Jvm.MethodName) jdk_123_method_3_code (5 : Nat) (Option.some Jvm.ClassFile.FieldType.int)).before args0 about1 = true := code_word (m := ⟨22, 2⟩) (meth := k22m2) (c := k22c2) (by decide +kernel) rfl rfl rfl (by decide +kernel)
def codes1 : List Jvm.Cond := [Jvm.Cond.code x code maxLocals ret, Jvm.Cond.code ({ cls := "java/lang/String", name := "<init>", desc := "([C)V" } : Jvm.MethodName) jdk_42_method_3_code (2 : Nat) (Option.none : Option Jvm.ClassFile.FieldType), Jvm.Cond.code ({ cls := "java/lang/String", name := "<init>", desc := "([CIILjava/lang/Void;)V" } : Jvm.MethodName) jdk_42_method_149_code (6 : Nat) (Option.none : Option Jvm.ClassFile.FieldType), Jvm.Cond.code ({ cls := "java/lang/Object", name := "<init>", desc := "()V" } : Jvm.MethodName) object_method_1_code (1 : Nat) (Option.none : Option Jvm.ClassFile.FieldType), Jvm.Cond.code ({ cls := "java/lang/String", name := "valueOf", desc := "(C)Ljava/lang/String;" } : Jvm.MethodName) jdk_42_method_139_code (1 : Nat) (Option.some (Jvm.ClassFile.FieldType.object "java/lang/String")), Jvm.Cond.code ({ cls := "java/lang/StringLatin1", name := "canEncode", desc := "(C)Z" } : Jvm.MethodName) jdk_43_method_3_code (1 : Nat) (Option.some Jvm.ClassFile.FieldType.boolean), Jvm.Cond.code ({ cls := "java/lang/StringLatin1", name := "toBytes", desc := "(C)[B" } : Jvm.MethodName) jdk_43_method_46_code (1 : Nat) (Option.some (Jvm.ClassFile.FieldType.array Jvm.ClassFile.FieldType.byte)), Jvm.Cond.code ({ cls := "java/lang/String", name := "<init>", desc := "([BB)V" } : Jvm.MethodName) jdk_42_method_151_code (3 : Nat) (Option.none : Option Jvm.ClassFile.FieldType), Jvm.Cond.code ({ cls := "java/lang/StringUTF16", name := "compress", desc := "([CII)[B" } : Jvm.MethodName) jdk_52_method_16_code (6 : Nat) (Option.some (Jvm.ClassFile.FieldType.array Jvm.ClassFile.FieldType.byte)), Jvm.Cond.code ({ cls := "java/lang/StringUTF16", name := "compress", desc := "([CI[BII)I" } : Jvm.MethodName) jdk_52_method_21_code (7 : Nat) (Option.some Jvm.ClassFile.FieldType.int), Jvm.Cond.code ({ cls := "java/lang/StringUTF16", name := "coderFromArrayLen", desc := "([BI)B" } : Jvm.MethodName) jdk_52_method_15_code (2 : Nat) (Option.some Jvm.ClassFile.FieldType.byte), Jvm.Cond.code ({ cls := "com/example/orrery/orrery/server/Html", name := "<init>", desc := "()V" } : Jvm.MethodName) prog_17_method_1_code (1 : Nat) (Option.none : Option Jvm.ClassFile.FieldType), Jvm.Cond.code ({ cls := "java/lang/StringBuilder", name := "<init>", desc := "(Ljava/lang/String;)V" } : Jvm.MethodName) jdk_67_method_3_code (2 : Nat) (Option.none : Option Jvm.ClassFile.FieldType), Jvm.Cond.code ({ cls := "java/lang/AbstractStringBuilder", name := "<init>", desc := "(Ljava/lang/String;)V" } : Jvm.MethodName) jdk_68_method_3_code (5 : Nat) (Option.none : Option Jvm.ClassFile.FieldType), Jvm.Cond.code ({ cls := "java/lang/String", name := "length", desc := "()I" } : Jvm.MethodName) jdk_42_method_54_code (1 : Nat) (Option.some Jvm.ClassFile.FieldType.int), Jvm.Cond.code ({ cls := "java/lang/String", name := "coder", desc := "()B" } : Jvm.MethodName) jdk_42_method_152_code (1 : Nat) (Option.some Jvm.ClassFile.FieldType.byte), Jvm.Cond.code ({ cls := "java/lang/StringBuilder", name := "append", desc := "(Ljava/lang/String;)Ljava/lang/AbstractStringBuilder;" } : Jvm.MethodName) jdk_67_method_80_code (2 : Nat) (Option.some (Jvm.ClassFile.FieldType.object "java/lang/AbstractStringBuilder")), Jvm.Cond.code ({ cls := "java/lang/StringBuilder", name := "append", desc := "(Ljava/lang/String;)Ljava/lang/StringBuilder;" } : Jvm.MethodName) jdk_67_method_7_code (2 : Nat) (Option.some (Jvm.ClassFile.FieldType.object "java/lang/StringBuilder")), Jvm.Cond.code ({ cls := "java/lang/AbstractStringBuilder", name := "append", desc := "(Ljava/lang/String;)Ljava/lang/AbstractStringBuilder;" } : Jvm.MethodName) jdk_68_method_22_code (3 : Nat) (Option.some (Jvm.ClassFile.FieldType.object "java/lang/AbstractStringBuilder")), Jvm.Cond.code ({ cls := "java/lang/AbstractStringBuilder", name := "ensureCapacityInternal", desc := "(I)V" } : Jvm.MethodName) jdk_68_method_9_code (3 : Nat) (Option.none : Option Jvm.ClassFile.FieldType), Jvm.Cond.code ({ cls := "java/lang/AbstractStringBuilder", name := "putStringAt", desc := "(ILjava/lang/String;)V" } : Jvm.MethodName) jdk_68_method_73_code (3 : Nat) (Option.none : Option Jvm.ClassFile.FieldType), Jvm.Cond.code ({ cls := "java/lang/AbstractStringBuilder", name := "inflateIfNeededFor", desc := "(Ljava/lang/String;)V" } : Jvm.MethodName) jdk_68_method_71_code (2 : Nat) (Option.none : Option Jvm.ClassFile.FieldType), Jvm.Cond.code ({ cls := "java/lang/String", name := "getBytes", desc := "([BIB)V" } : Jvm.MethodName) jdk_42_method_147_code (4 : Nat) (Option.none : Option Jvm.ClassFile.FieldType), Jvm.Cond.code ({ cls := "com/example/orrery/orrery/server/Html", name := "close", desc := "(Ljava/lang/String;)Lcom/example/orrery/orrery/server/Html;" } : Jvm.MethodName) prog_17_method_3_code (2 : Nat) (Option.some (Jvm.ClassFile.FieldType.object "com/example/orrery/orrery/server/Html")), Jvm.Cond.code ({ cls := "java/lang/StringBuilder", name := "append", desc := "(C)Ljava/lang/StringBuilder;" } : Jvm.MethodName) jdk_67_method_14_code (2 : Nat) (Option.some (Jvm.ClassFile.FieldType.object "java/lang/StringBuilder")), Jvm.Cond.code ({ cls := "java/lang/AbstractStringBuilder", name := "append", desc := "(C)Ljava/lang/AbstractStringBuilder;" } : Jvm.MethodName) jdk_68_method_31_code (2 : Nat) (Option.some (Jvm.ClassFile.FieldType.object "java/lang/AbstractStringBuilder")), Jvm.Cond.code ({ cls := "java/lang/AbstractStringBuilder", name := "isLatin1", desc := "()Z" } : Jvm.MethodName) jdk_68_method_68_code (1 : Nat) (Option.some Jvm.ClassFile.FieldType.boolean), Jvm.Cond.code ({ cls := "com/example/orrery/orrery/server/Html", name := "bytes", desc := "()[B" } : Jvm.MethodName) prog_17_method_6_code (1 : Nat) (Option.some (Jvm.ClassFile.FieldType.array Jvm.ClassFile.FieldType.byte)), Jvm.Cond.code ({ cls := "java/lang/StringBuilder", name := "toString", desc := "()Ljava/lang/String;" } : Jvm.MethodName) jdk_67_method_42_code (1 : Nat) (Option.some (Jvm.ClassFile.FieldType.object "java/lang/String")), Jvm.Cond.code ({ cls := "java/lang/String", name := "<init>", desc := "(Ljava/lang/StringBuilder;)V" } : Jvm.MethodName) jdk_42_method_53_code (2 : Nat) (Option.none : Option Jvm.ClassFile.FieldType), Jvm.Cond.code ({ cls := "java/lang/String", name := "<init>", desc := "(Ljava/lang/AbstractStringBuilder;Ljava/lang/Void;)V" } : Jvm.MethodName) jdk_42_method_150_code (5 : Nat) (Option.none : Option Jvm.ClassFile.FieldType), Jvm.Cond.code ({ cls := "java/lang/AbstractStringBuilder", name := "getValue", desc := "()[B" } : Jvm.MethodName) jdk_68_method_64_code (1 : Nat) (Option.some (Jvm.ClassFile.FieldType.array Jvm.ClassFile.FieldType.byte)), Jvm.Cond.code ({ cls := "java/lang/StringBuilder", name := "length", desc := "()I" } : Jvm.MethodName) jdk_67_method_93_code (1 : Nat) (Option.some Jvm.ClassFile.FieldType.int), Jvm.Cond.code ({ cls := "java/lang/AbstractStringBuilder", name := "length", desc := "()I" } : Jvm.MethodName) jdk_68_method_6_code (1 : Nat) (Option.some Jvm.ClassFile.FieldType.int), Jvm.Cond.code ({ cls := "java/util/Arrays", name := "copyOfRange", desc := "([BII)[B" } : Jvm.MethodName) jdk_65_method_132_code (3 : Nat) (Option.some (Jvm.ClassFile.FieldType.array Jvm.ClassFile.FieldType.byte)), Jvm.Cond.code ({ cls := "java/util/Arrays", name := "copyOfRangeByte", desc := "([BII)[B" } : Jvm.MethodName) jdk_65_method_133_code (5 : Nat) (Option.some (Jvm.ClassFile.FieldType.array Jvm.ClassFile.FieldType.byte)), Jvm.Cond.code ({ cls := "java/util/Arrays", name := "checkLength", desc := "(II)V" } : Jvm.MethodName) jdk_65_method_131_code (2 : Nat) (Option.none : Option Jvm.ClassFile.FieldType), Jvm.Cond.code ({ cls := "java/lang/Math", name := "min", desc := "(II)I" } : Jvm.MethodName) jdk_29_method_69_code (2 : Nat) (Option.some Jvm.ClassFile.FieldType.int), Jvm.Cond.code ({ cls := "java/lang/String", name := "getBytes", desc := "(Ljava/nio/charset/Charset;)[B" } : Jvm.MethodName) jdk_42_method_64_code (2 : Nat) (Option.some (Jvm.ClassFile.FieldType.array Jvm.ClassFile.FieldType.byte)), Jvm.Cond.code ({ cls := "java/lang/String", name := "encode", desc := "(Ljava/nio/charset/Charset;B[B)[B" } : Jvm.MethodName) jdk_42_method_18_code (3 : Nat) (Option.some (Jvm.ClassFile.FieldType.array Jvm.ClassFile.FieldType.byte)), Jvm.Cond.code ({ cls := "java/lang/String", name := "encodeUTF8", desc := "(B[BZ)[B" } : Jvm.MethodName) jdk_42_method_46_code (9 : Nat) (Option.some (Jvm.ClassFile.FieldType.array Jvm.ClassFile.FieldType.byte)), Jvm.Cond.code ({ cls := "java/lang/StringCoding", name := "hasNegatives", desc := "([BII)Z" } : Jvm.MethodName) jdk_123_method_2_code (3 : Nat) (Option.some Jvm.ClassFile.FieldType.boolean), Jvm.Cond.code ({ cls := "java/lang/StringCoding", name := "countPositives", desc := "([BII)I" } : Jvm.MethodName) jdk_123_method_3_code (5 : Nat) (Option.some Jvm.ClassFile.FieldType.int)]
set_option maxRecDepth 65536 in
theorem codes_eq : words1.filter isCode = codes1 := rfl
theorem w_codes : ∀ c ∈ words1.filter isCode, c.before args0 about1 = true := by
  rw [codes_eq]
  intro c hc
  simp only [codes1, List.mem_cons, List.not_mem_nil, or_false] at hc
  rcases hc with rfl | rfl | rfl | rfl | rfl | rfl | rfl | rfl | rfl | rfl | rfl | rfl | rfl | rfl | rfl | rfl | rfl | rfl | rfl | rfl | rfl | rfl | rfl | rfl | rfl | rfl | rfl | rfl | rfl | rfl | rfl | rfl | rfl | rfl | rfl | rfl | rfl | rfl | rfl | rfl | rfl | rfl | rfl
  · exact w_c0
  · exact w_c1
  · exact w_c2
  · exact w_c3
  · exact w_c4
  · exact w_c5
  · exact w_c6
  · exact w_c7
  · exact w_c8
  · exact w_c9
  · exact w_c10
  · exact w_c11
  · exact w_c12
  · exact w_c13
  · exact w_c14
  · exact w_c15
  · exact w_c16
  · exact w_c17
  · exact w_c18
  · exact w_c19
  · exact w_c20
  · exact w_c21
  · exact w_c22
  · exact w_c23
  · exact w_c24
  · exact w_c25
  · exact w_c26
  · exact w_c27
  · exact w_c28
  · exact w_c29
  · exact w_c30
  · exact w_c31
  · exact w_c32
  · exact w_c33
  · exact w_c34
  · exact w_c35
  · exact w_c36
  · exact w_c37
  · exact w_c38
  · exact w_c39
  · exact w_c40
  · exact w_c41
  · exact w_c42
set_option maxRecDepth 65536 in
theorem w_t1 : (words1.take 24).all (fun c => isCode c || c.before args0 about1) = true := by decide +kernel
set_option maxRecDepth 65536 in
theorem w_t2 : ((words1.drop 24).take 24).all (fun c => isCode c || c.before args0 about1) = true := by decide +kernel
set_option maxRecDepth 65536 in
theorem w_t3 : (((words1.drop 24).drop 24).take 24).all (fun c => isCode c || c.before args0 about1) = true := by decide +kernel
set_option maxRecDepth 65536 in
theorem w_t4 : ((((words1.drop 24).drop 24).drop 24).take 24).all (fun c => isCode c || c.before args0 about1) = true := by decide +kernel
set_option maxRecDepth 65536 in
theorem w_t5 : (((((words1.drop 24).drop 24).drop 24).drop 24).take 24).all (fun c => isCode c || c.before args0 about1) = true := by decide +kernel
set_option maxRecDepth 65536 in
theorem w_t6 : ((((((words1.drop 24).drop 24).drop 24).drop 24).drop 24).take 24).all (fun c => isCode c || c.before args0 about1) = true := by decide +kernel
set_option maxRecDepth 65536 in
theorem w_t7 : (((((((words1.drop 24).drop 24).drop 24).drop 24).drop 24).drop 24).take 24).all (fun c => isCode c || c.before args0 about1) = true := by decide +kernel
set_option maxRecDepth 65536 in
theorem w_t8 : ((((((((words1.drop 24).drop 24).drop 24).drop 24).drop 24).drop 24).drop 24).take 24).all (fun c => isCode c || c.before args0 about1) = true := by decide +kernel
set_option maxRecDepth 65536 in
theorem w_t9 : (((((((((words1.drop 24).drop 24).drop 24).drop 24).drop 24).drop 24).drop 24).drop 24).take 24).all (fun c => isCode c || c.before args0 about1) = true := by decide +kernel
set_option maxRecDepth 65536 in
theorem w_t10 : (((((((((words1.drop 24).drop 24).drop 24).drop 24).drop 24).drop 24).drop 24).drop 24).drop 24).all (fun c => isCode c || c.before args0 about1) = true := by decide +kernel
theorem w_tables : (allAtoms (Jvm.Cond.code x code maxLocals ret :: tables_1)).before args0 about1 = true := by
  rw [allAtoms_all]
  show words1.all (fun c => c.before args0 about1) = true
  refine all_split ?_ w_codes
  rw [← List.take_append_drop 24 words1, List.all_append, w_t1, ← List.take_append_drop 24 (words1.drop 24), List.all_append, w_t2, ← List.take_append_drop 24 ((words1.drop 24).drop 24), List.all_append, w_t3, ← List.take_append_drop 24 (((words1.drop 24).drop 24).drop 24), List.all_append, w_t4, ← List.take_append_drop 24 ((((words1.drop 24).drop 24).drop 24).drop 24), List.all_append, w_t5, ← List.take_append_drop 24 (((((words1.drop 24).drop 24).drop 24).drop 24).drop 24), List.all_append, w_t6, ← List.take_append_drop 24 ((((((words1.drop 24).drop 24).drop 24).drop 24).drop 24).drop 24), List.all_append, w_t7, ← List.take_append_drop 24 (((((((words1.drop 24).drop 24).drop 24).drop 24).drop 24).drop 24).drop 24), List.all_append, w_t8, ← List.take_append_drop 24 ((((((((words1.drop 24).drop 24).drop 24).drop 24).drop 24).drop 24).drop 24).drop 24), List.all_append, w_t9, w_t10]
  rfl
set_option maxRecDepth 65536 in
theorem w_rest : rest_1_c.before args0 about1 = true := by decide +kernel
set_option maxRecDepth 65536 in
theorem w_case : (Jvm.Cond.and given_1 narrow_1).before args0 about1 = true := by decide +kernel
set_option maxRecDepth 65536 in
theorem w_consts : constsHeld consts_1 about1 := Jvm.Lit.constsHeldB_iff.mp (by decide +kernel)
theorem w_applies : (headSpec (Jvm.Cond.code x code maxLocals ret :: tables_1) room_1).applies x e0.platform about1 = true :=
  (Spec.applies_iff w_frames).mpr ⟨w_running, w_runnable, w_alone, w_named, w_hears, w_ripe, w_room, w_tables⟩
theorem atStart : AtStart classFile x code maxLocals ret World_1 tables_1 room_1 Calls_1 rest_1 Pre_1 launch0 p0 e0 about1 theMethod args0 below0 :=
  ⟨lists_1, trivial, launch0.admits_env _ _ _, launch0.least_env, fairChoices_fair.cas, fairChoices_fair.clock, w_frames, w_args, w_heap, w_applies, ⟨w_consts, trivial⟩, w_rest, w_case⟩
end start1
theorem witness_1 : WitnessClaimed_1 := ⟨start1.p0, start1.e0, start1.about1, start1.theMethod, start1.args0, start1.below0, start1.atStart⟩
end Jvm.Pilot.@@N@@
