import JvmDerived
import JvmDerived.Pilot.@@N@@Statement
import JvmDerived.Pilot.@@N@@Code
set_option linter.unusedVariables false
set_option linter.unusedSimpArgs false
namespace Jvm.Pilot.@@N@@
open Jvm Jvm.ClassFile Sem Op Lib Jvm.Free Jvm.Stand Jvm.LawKit Jvm.RoadKit Bundle Jvm.Pilot.@@N@@.Jvm.D
section Own
variable {p : Program} {l : Launch} {e : Env} {R : Room} {s : State} {m : MethodId} {args : Array Value} {below : List Frame} {meth : Method} {c : Code} {T T' : State} {locs : List Loc} {cells slots : Nat} {F : State → Outcome → Prop} {g g' : JFrame} {Z : State} {a0 : Array Value} {h h0 : Heap}
/-- the run from T with g on top ends, and F holds of its end -/
def own_G (p : Program) (e : Env) (below : List Frame) (F : State → Outcome → Prop) (T : State) (g : JFrame) : Prop := ∃ t o, Steps p.tables e below (T.setTop g) t ∧ t.status = .running ∧ Ended t below o ∧ F t o
theorem own_st (h : ∀ t, Steps p.tables e below (T'.setTop g') t → Steps p.tables e below (T.setTop g) t) (k : own_G p e below F T' g') : own_G p e below F T g := by
  obtain ⟨t, o, h1, h2⟩ := k
  exact ⟨t, o, h t h1, h2⟩
theorem own_tr (h : Steps p.tables e below (T.setTop g) (T'.setTop g')) (k : own_G p e below F T' g') : own_G p e below F T g := own_st (fun _ q => h.trans q) k
def own_F (Q : Option Value → Heap → List Loc → Prop) (s : State) (k n : Nat) (t : State) (o : Outcome) : Prop := ∃ v L, o = .returned v ∧ Q v t.heap L ∧ FrameEnd s o t L k n
theorem own_ret {Q : Option Value → Heap → List Loc → Prop} {k n : Nat} {v : Option Value} (X : Stand p l e R s m args below meth c T locs cells slots) (hlk : meth.locks = false) (hv : meth.sig.returnType = none → v = none) (hq : Q v T.heap locs) (h1 : cells ≤ k) (h2 : slots ≤ n)
    (hs : ∀ fs, (∀ (f : JFrame) (acts : List Action), f.method = m → f.locked = none → f.entered = [] → (doReturn e (T.setTop f) acts v).1 = T.setFrames fs) → Steps p.tables e below (T.setTop g) (T.setFrames fs)) : own_G p e below (own_F Q s k n) T g := by
  obtain ⟨fs, hr, hrun, hended, hW, hsame⟩ := X.leave (v := v) hv hlk
  exact ⟨_, _, hs fs hr, hrun, hended, v, locs, rfl, hq, ⟨_, rfl⟩, hW, hsame.mono h1 h2⟩
theorem own_retI {Q : Option Value → Heap → List Loc → Prop} {k n pc : Nat} {Ls : Array Slot} {z : Int32} {rest : List Value} (X : Stand p l e R s m args below meth c T locs cells slots) (hx : p.tables.exec = Jvm.exec) (hlk : meth.locks = false) (hret : meth.sig.returnType = some .int) (hd : decode c.code pc = .ok (.ireturn, 1)) (h1 : cells ≤ k) (h2 : slots ≤ n) (hq : Q (some (.int z)) T.heap locs) :
    own_G p e below (own_F Q s k n) T (mkF m pc Ls (.int z :: rest)) :=
  own_ret X hlk (fun q => by rw [hret] at q; cases q) hq h1 h2 fun fs hr => retOut X hx hret rfl (Or.inl ⟨rfl, Or.inl rfl, _, rfl⟩) hd hr
theorem own_retB {Q : Option Value → Heap → List Loc → Prop} {k n pc : Nat} {Ls : Array Slot} {z w : Int32} {rest : List Value} (X : Stand p l e R s m args below meth c T locs cells slots) (hx : p.tables.exec = Jvm.exec) (hlk : meth.locks = false) (hret : meth.sig.returnType = some .boolean) (hd : decode c.code pc = .ok (.ireturn, 1)) (h1 : cells ≤ k) (h2 : slots ≤ n) (hz : nar .boolean z = w) (hq : Q (some (.int w)) T.heap locs) :
    own_G p e below (own_F Q s k n) T (mkF m pc Ls (.int z :: rest)) := by
  subst hz
  exact own_ret X hlk (fun q => by rw [hret] at q; cases q) hq h1 h2 fun fs hr => retN X hx (t := .boolean) hret (by simp) hd hr
theorem own_retR {Q : Option Value → Heap → List Loc → Prop} {k n pc : Nat} {Ls : Array Slot} {w : Value} {C : String} {rest : List Value} (X : Stand p l e R s m args below meth c T locs cells slots) (hx : p.tables.exec = Jvm.exec) (hlk : meth.locks = false) (hret : meth.sig.returnType = some (.object C)) (hd : decode c.code pc = .ok (.areturn, 1)) (h1 : cells ≤ k) (h2 : slots ≤ n) (hw : w.isRef = true) (hq : Q (some w) T.heap locs) :
    own_G p e below (own_F Q s k n) T (mkF m pc Ls (w :: rest)) :=
  own_ret X hlk (fun q => by rw [hret] at q; cases q) hq h1 h2 fun fs hr => retOut X hx hret rfl (Or.inr (Or.inr (Or.inr (Or.inr ⟨rfl, rfl, hw⟩)))) hd hr
theorem own_retA {Q : Option Value → Heap → List Loc → Prop} {k n pc : Nat} {Ls : Array Slot} {w : Value} {ty : FieldType} {rest : List Value} (X : Stand p l e R s m args below meth c T locs cells slots) (hx : p.tables.exec = Jvm.exec) (hlk : meth.locks = false) (hret : meth.sig.returnType = some (.array ty)) (hd : decode c.code pc = .ok (.areturn, 1)) (h1 : cells ≤ k) (h2 : slots ≤ n) (hw : w.isRef = true) (hq : Q (some w) T.heap locs) :
    own_G p e below (own_F Q s k n) T (mkF m pc Ls (w :: rest)) :=
  own_ret X hlk (fun q => by rw [hret] at q; cases q) hq h1 h2 fun fs hr => retOut X hx hret rfl (Or.inr (Or.inr (Or.inr (Or.inr ⟨rfl, rfl, hw⟩)))) hd hr
theorem own_retJ {Q : Option Value → Heap → List Loc → Prop} {k n pc : Nat} {Ls : Array Slot} {z : Int64} {rest : List Value} (X : Stand p l e R s m args below meth c T locs cells slots) (hx : p.tables.exec = Jvm.exec) (hlk : meth.locks = false) (hret : meth.sig.returnType = some .long) (hd : decode c.code pc = .ok (.lreturn, 1)) (h1 : cells ≤ k) (h2 : slots ≤ n) (hq : Q (some (.long z)) T.heap locs) :
    own_G p e below (own_F Q s k n) T (mkF m pc Ls (.long z :: rest)) :=
  own_ret X hlk (fun q => by rw [hret] at q; cases q) hq h1 h2 fun fs hr => retOut X hx hret rfl (Or.inr (Or.inl ⟨rfl, rfl, _, rfl⟩)) hd hr
theorem own_retV {Q : Option Value → Heap → List Loc → Prop} {k n pc : Nat} {Ls : Array Slot} (X : Stand p l e R s m args below meth c T locs cells slots) (hx : p.tables.exec = Jvm.exec) (hlk : meth.locks = false) (hret : meth.sig.returnType = none) (hd : decode c.code pc = .ok (.return_, 1)) (h1 : cells ≤ k) (h2 : slots ≤ n) (hq : Q none T.heap locs) :
    own_G p e below (own_F Q s k n) T (mkF m pc Ls []) :=
  own_ret X hlk (fun _ => rfl) hq h1 h2 fun fs hr => X.returnOut hx hret hd hr
/-- what a body promises at the heap h0 -/
abbrev own_C (l : Launch) (Z : State) (y : MethodName) (bytes : ByteArray) (ml : Nat) (rt : Option FieldType) (ws : List Jvm.Cond) (rm : Room) (as' : Array Value) (h0 : Heap) (Q : Option Value → Heap → List Loc → Prop) : Prop :=
  MetFree l y (head1 (Jvm.Cond.code y bytes ml rt :: ws) rm) (fun a U => a = as' ∧ Z.Warmed39 U.vm ∧ U.heap = h0) (fun _ _ _ _ _ => True) (fun _ U o U' => ∃ v L, o = .returned v ∧ Q v U'.heap L ∧ FrameEnd U o U' L rm.cells rm.slots)
theorem own_body {y : MethodName} {bytes : ByteArray} {ml : Nat} {rt : Option FieldType} {ws : List Jvm.Cond} {rm : Room} {as' : Array Value} {Q : Option Value → Heap → List Loc → Prop} (pn : plainFor y = true) {f0 : MethodId → JFrame} (hef : ∀ m, entryFrame m as' ml = f0 m)
    (body : ∀ (p : Program) (e : Env) (s : State) (m : MethodId) (below : List Frame) (meth : Method) (c : Code) (s₁ : State), p.tables.exec = Jvm.exec → c.code = bytes → c.maxLocals = ml → s.vm.findClass y.cls = some m.cls → meth.name = y.name → meth.sig.returnType = rt → meth.locks = false → Z.Warmed39 s.vm → Stand p l e rm s m as' below meth c s₁ [] 0 0 → s₁.heap = h0 →
      own_G p e below (own_F Q s rm.cells rm.slots) s₁ (f0 m)) : own_C l Z y bytes ml rt ws rm as' h0 Q := by
  refine MetFree.of_bodySF pn hisR ?_
  intro p e s m args below meth c s₁ Bd hml0 hP hK
  obtain ⟨rfl, hZ, hh⟩ := hP
  have e0 : s₁.heap = h0 := by rw [← hh, Bd.state]; rfl
  have hnm := (name_of_methodNamed Bd.named Bd.method).1
  have q := body p e s m below meth c s₁ Bd.exec Bd.bytes hml0 (findClass_of_methodNamed Bd.named) hnm Bd.returns Bd.notSynchronized hZ (Stand.of_body Bd) e0
  rw [← hef m] at q
  exact q
theorem own_callS {own : String} {index : Nat} {y : MethodName} {bytes : ByteArray} {ml : Nat} {rt : Option FieldType} {rm : Room} {Q : Option Value → Heap → List Loc → Prop} {argsL : List Value} (W : Nat) (rest : List Value)
    (C : own_C l Z y bytes ml rt [] rm argsL.toArray h Q) (X : Stand p l e R s m args below meth c T locs cells slots) (hx : p.tables.exec = Jvm.exec) (hZ : Z.Warmed39 s.vm) (hown : s.vm.findClass own = some m.cls)
    (w1 : (Jvm.Cond.methodLink own index y).before a0 Z = true) (w2 : (Jvm.Cond.static y).before a0 Z = true) (w3 : (Jvm.Cond.initialized y.cls).before a0 Z = true) (w4 : (Jvm.Cond.code y bytes ml rt).before a0 Z = true) (hy : y.cls ≠ "java/lang/invoke/MethodHandle" ∧ y.cls ≠ "java/lang/invoke/VarHandle")
    (hf : rm.frames + 1 ≤ R.frames) (hlo : W + (ml + 11) + rm.locals ≤ R.locals) (hc : cells + rm.cells ≤ R.cells) (hsl : slots + rm.slots ≤ R.slots) (eT : T.heap = h)
    (hg : g.method = m) (hsize : g.locals.size = c.maxLocals) (hlen : ∀ sig, parseMethodDescriptor y.desc = some sig → argsL.length = sig.parameters.length) (hstack : g.stack = argsL.reverse ++ rest) (hW : 2 * g.monitorRoom + (rest.map fun v => v.category).sum ≤ W)
    (hd : decode c.code g.pc = .ok (.invokestatic index, 3)) :
    ∃ v T' L, Q v T'.heap L ∧ Stand p l e R s m args below meth c T' (locs ++ L) (cells + rm.cells) (slots + rm.slots) ∧ ∀ t, Steps p.tables e below (T'.setTop { g with pc := g.pc + 3, stack := v.toList ++ rest }) t → Steps p.tables e below (T.setTop g) t := by
  obtain ⟨v, _, ⟨T4, L4, k4, n4⟩, -, X4, ⟨Lc4, hQ4, l4, y4, z4⟩, st4⟩ := Jvm.LawKit.callS X hx (y := y) hown (mvT hZ w1) (mvT hZ w2) (mvT hZ w3) (mvT hZ w4) hy (backOf (W := W) C hZ w4 w3 hf hlo) hg hsize hlen hstack hW hd (fun _ _ => ⟨rfl, eT, hc, hsl⟩)
  dsimp only [Pt.U, Pt.locs, Pt.cells, Pt.slots] at X4 l4 y4 z4 st4 hQ4
  subst l4 y4 z4
  exact ⟨v, T4, Lc4, hQ4, X4, st4⟩
theorem own_callV {own : String} {index : Nat} {y z : MethodName} {bytes : ByteArray} {ml : Nat} {rt : Option FieldType} {rm : Room} {Q : Option Value → Heap → List Loc → Prop} {b : Addr} {argsL : List Value} (W : Nat) (rest : List Value) {K : String}
    (C : own_C l Z z bytes ml rt [] rm (.ref b :: argsL).toArray h Q) (X : Stand p l e R s m args below meth c T locs cells slots) (hx : p.tables.exec = Jvm.exec) (hZ : Z.Warmed39 s.vm) (hown : s.vm.findClass own = some m.cls)
    (w1 : (Jvm.Cond.methodLink own index y).before a0 Z = true) (w2 : (Jvm.Cond.declares y).before a0 Z = true) (hnf : NotFace s y) (w3 : (Jvm.Cond.selects K y z).before a0 Z = true) (w5 : (Jvm.Cond.instanceMethod z).before a0 Z = true) (w4 : (Jvm.Cond.code z bytes ml rt).before a0 Z = true) (w6 : (Jvm.Cond.initialized z.cls).before a0 Z = true) (hy : y.cls ≠ "java/lang/invoke/MethodHandle" ∧ y.cls ≠ "java/lang/invoke/VarHandle")
    (hf : rm.frames + 1 ≤ R.frames) (hlo : W + (ml + 11) + rm.locals ≤ R.locals) (hc : cells + rm.cells ≤ R.cells) (hsl : slots + rm.slots ≤ R.slots) (eT : T.heap = h) (E : Exa Z h b K)
    (hg : g.method = m) (hsize : g.locals.size = c.maxLocals) (hlen : ∀ sig, parseMethodDescriptor y.desc = some sig → argsL.length = sig.parameters.length) (hstack : g.stack = argsL.reverse ++ .ref b :: rest) (hW : 2 * g.monitorRoom + (rest.map fun v => v.category).sum ≤ W)
    (hd : decode c.code g.pc = .ok (.invokevirtual index, 3)) :
    ∃ v T' L, Q v T'.heap L ∧ Stand p l e R s m args below meth c T' (locs ++ L) (cells + rm.cells) (slots + rm.slots) ∧ ∀ t, Steps p.tables e below (T'.setTop { g with pc := g.pc + 3, stack := v.toList ++ rest }) t → Steps p.tables e below (T.setTop g) t := by
  obtain ⟨cq4, kq4, q4a, q4b, q4c⟩ := isOf hZ eT E
  obtain ⟨v, _, ⟨T4, L4, k4, n4⟩, -, X4, ⟨Lc4, hQ4, l4, y4, z4⟩, st4⟩ := X.virtualBack hx (y := y) (z := z) hown (mvT hZ w1) (mvT hZ w2) hnf (mvT hZ w3) (mvT hZ w5) hy (backOf (W := W) C hZ w4 w6 hf hlo) q4a q4c hg hsize (Steps.refl _) hlen hstack hW hd (fun _ _ => ⟨rfl, eT, hc, hsl⟩)
  dsimp only [Pt.U, Pt.locs, Pt.cells, Pt.slots] at X4 l4 y4 z4 st4 hQ4
  subst l4 y4 z4
  exact ⟨v, T4, Lc4, hQ4, X4, fun t k => st4.trans k⟩
theorem own_callI {own : String} {index : Nat} {y : MethodName} {bytes : ByteArray} {ml : Nat} {rm : Room} {Q : Option Value → Heap → List Loc → Prop} {b : Addr} {argsL : List Value} (W : Nat) (rest : List Value)
    (C : own_C l Z y bytes ml none [] rm (.ref b :: argsL).toArray h Q) (X : Stand p l e R s m args below meth c T locs cells slots) (hx : p.tables.exec = Jvm.exec) (hZ : Z.Warmed39 s.vm) (hown : s.vm.findClass own = some m.cls) (hy1 : y.name = "<init>")
    (w1 : (Jvm.Cond.methodLink own index y).before a0 Z = true) (w5 : (Jvm.Cond.instanceMethod y).before a0 Z = true) (w4 : (Jvm.Cond.code y bytes ml none).before a0 Z = true) (w6 : (Jvm.Cond.initialized y.cls).before a0 Z = true) (hy : y.cls ≠ "java/lang/invoke/MethodHandle" ∧ y.cls ≠ "java/lang/invoke/VarHandle")
    (hf : rm.frames + 1 ≤ R.frames) (hlo : W + (ml + 11) + rm.locals ≤ R.locals) (hc : cells + rm.cells ≤ R.cells) (hsl : slots + rm.slots ≤ R.slots) (eT : T.heap = h)
    (hg : g.method = m) (hsize : g.locals.size = c.maxLocals) (hlen : ∀ sig, parseMethodDescriptor y.desc = some sig → argsL.length = sig.parameters.length) (hstack : g.stack = argsL.reverse ++ .ref b :: rest) (hW : 2 * g.monitorRoom + (rest.map fun v => v.category).sum ≤ W)
    (hd : decode c.code g.pc = .ok (.invokespecial index, 3)) :
    ∃ v T' L, Q v T'.heap L ∧ Stand p l e R s m args below meth c T' (locs ++ L) (cells + rm.cells) (slots + rm.slots) ∧ ∀ t, Steps p.tables e below (T'.setTop { g with pc := g.pc + 3, stack := v.toList ++ rest }) t → Steps p.tables e below (T.setTop g) t := by
  obtain ⟨v, _, ⟨T4, L4, k4, n4⟩, -, X4, ⟨Lc4, hQ4, l4, y4, z4⟩, st4⟩ := X.specialBack hx (y := y) hy1 hown (mvT hZ w1) (mvT hZ w5) (mvT hZ w4) hy (backOf (W := W) C hZ w4 w6 hf hlo) hg hsize (Steps.refl _) (a := b) hlen hstack hW hd (fun _ _ => ⟨rfl, eT, hc, hsl⟩)
  dsimp only [Pt.U, Pt.locs, Pt.cells, Pt.slots] at X4 l4 y4 z4 st4 hQ4
  subst l4 y4 z4
  exact ⟨v, T4, Lc4, hQ4, X4, fun t k => st4.trans k⟩
theorem own_sta {C n d K : String} {args : Array Value} (hx : (Jvm.Cond.exactly (Term.static C n d) K).value args Z none Z [] = some true) (hi : (Jvm.Cond.initialized C).before args Z = true) (hl : (Jvm.Cond.laysStatic C n d).before args Z = true) :
    ∃ a, (Term.static C n d).eval args Z none [] Z = some (.ref a) ∧ Sta Z Z.heap C n d (.ref a) ∧ Exa Z Z.heap a K := by
  obtain ⟨a', c', cell, k, e1, -⟩ := Cond.exactly_spec (Cond.before_iff.mpr hx)
  exact ⟨a', e1, Sta.start e1 (Or.inr ⟨hi, hl⟩), Exa.start e1 hx⟩
theorem own_fld {args : Array Value} {t : Term} {a : Addr} {C n d : String} {z : Int32} (ev : t.eval args Z none [] Z = some (.ref a)) (hx : (Jvm.Cond.eq (Term.field t C n d) (Term.int z)).value args Z none Z [] = some true) : Fld Z Z.heap a C n d (.int z) := by
  apply Fld.start
  cases hf : Z.fieldOf? a C n d with
  | none => simp [Cond.value, Term.eval, ev, hf] at hx
  | some v => cases v <;> simp [Cond.value, Term.eval, ev, hf] at hx ⊢; exact hx
/-- a body that writes nothing: it returns r -/
def own_P (r : Value) (h0 : Heap) (v : Option Value) (h : Heap) (L : List Loc) : Prop := v = some r ∧ h = h0 ∧ L = []
theorem own_ite {q : Prop} [Decidable q] {x y : Addr} {K : String} (h1 : Exa Z h x K) (h2 : Exa Z h y K) : Exa Z h (if q then x else y) K := by split <;> assumption
theorem own_or {q : Prop} [Decidable q] {r x y : α} (h : r = if q then x else y) : r = x ∨ r = y := by rw [h]; split <;> simp
theorem own_bit (x : Int32) : x &&& 1 = 0 ∨ x &&& 1 = 1 := by
  have h1 : (x &&& 1).toBitVec = x.toBitVec &&& 1#32 := rfl
  have h2 : (x.toBitVec &&& 1#32).toNat = x.toBitVec.toNat % 2 := by rw [BitVec.toNat_and]; exact Nat.and_two_pow_sub_one_eq_mod _ 1
  rcases Nat.mod_two_eq_zero_or_one x.toBitVec.toNat with h | h
  · left; apply Int32.toBitVec_inj.mp; apply BitVec.eq_of_toNat_eq; rw [h1, h2, h]; rfl
  · right; apply Int32.toBitVec_inj.mp; apply BitVec.eq_of_toNat_eq; rw [h1, h2, h]; rfl
theorem own_plain {a : Addr} {C : String} (E : Exa Z h a C) : ∀ cell : Cell, h[a]? = some cell → cell.vm.isStatics = false := fun cell hc => by
  obtain ⟨c1, _, h1, -, -, h4, -⟩ := E
  cases h1.symm.trans hc; exact h4
theorem own_sta_keep {h' : Heap} {ws : List Addr} {C n d : String} {v : Value} (F : Sta Z h C n d v) (K : Keep h h' ws) (q : ∀ x ∈ ws, ∀ cell : Cell, h'[x]? = some cell → cell.vm.isStatics = false) : Sta Z h' C n d v := by
  obtain ⟨cf, i, k, f, st, cell, h1, h2, h3, h4, h5, h6, h7⟩ := F
  refine ⟨cf, i, k, f, st, cell, h1, h2, h3, h4, K.2.1 st cell h5 (fun m => ?_), h6, h7⟩
  obtain ⟨c', e1, -, e3, -⟩ := K.2.2 st cell h5
  have := q st m c' e1
  rw [e3, h6] at this; cases this
theorem own_ext {h' : Heap} (K : Keep h h' []) : Ext h h' := ⟨K.1, fun a c q => K.2.1 a c q nin0⟩
theorem own_keep {h' : Heap} (E : Ext h h') : Keep h h' [] := (Keep.refl h []).ext E
/-- a body that returns nothing and writes nothing -/
def own_V (h0 : Heap) (v : Option Value) (h : Heap) (L : List Loc) : Prop := v = none ∧ h = h0 ∧ L = []
theorem own_nar {z : Int32} (h : z = 0 ∨ z = 1) : nar .boolean z = z := by rcases h with rfl | rfl <;> rfl
theorem own_01 {q : Prop} [Decidable q] {x y : Int32} (h1 : x = 0 ∨ x = 1) (h2 : y = 0 ∨ y = 1) : (if q then x else y) = 0 ∨ (if q then x else y) = 1 := by split <;> assumption
end Own
def own_pf (k f : Int32) : Int32 := if k = 0 then -3 else if k = 1 then -2 else if k = 2 then -4 else f
def own_el (Z : State) (a : Addr) (x1 x2 x3 x4 x5 : Int32) (h : Heap) : Prop := Exa Z h a "com/example/nullward/nullward/Elements" ∧ Fld Z h a "com/example/nullward/nullward/Elements" "length" "I" (.int x1) ∧ Fld Z h a "com/example/nullward/nullward/Elements" "filled" "I" (.int x2) ∧ Fld Z h a "com/example/nullward/nullward/Elements" "lengthLocal" "I" (.int x3) ∧ Fld Z h a "com/example/nullward/nullward/Elements" "indexLocal" "I" (.int x4) ∧ Fld Z h a "com/example/nullward/nullward/Elements" "past" "I" (.int x5)
def own_qi (Z : State) (a : Addr) (x1 x2 x3 x4 x5 : Int32) (h0 : Heap) (n0 : Nat) (v : Option Value) (h : Heap) (L : List Loc) : Prop := v = none ∧ Fr n0 L ∧ Keep h0 h [a] ∧ own_el Z a x1 x2 x3 x4 x5 h
def own_qm (Z : State) (x1 x2 x3 x4 x5 : Int32) (h0 : Heap) (n0 : Nat) (v : Option Value) (h : Heap) (L : List Loc) : Prop := ∃ b, v = some (.ref b) ∧ Fr n0 L ∧ Ext h0 h ∧ h0.size ≤ b ∧ own_el Z b x1 x2 x3 x4 x5 h
def own_nonNull (z : Int32) : Int32 := if z = 2147483647 then 1 else 0
def own_inLoop (z : Int32) : Int32 := if z = (-3) then 1 else 0
theorem own_l2 {z : Int32} (h : ¬ own_inLoop z = 0) : own_nonNull z = 0 := by
  unfold own_inLoop at h; unfold own_nonNull
  by_cases q : z = -3
  · subst q; decide
  · simp [q] at h
def own_qr (r : Value) (n0 : Nat) (v : Option Value) (h : Heap) (L : List Loc) : Prop := v = some r ∧ Fr n0 L
theorem own_pd0 : parseMethodDescriptor "()V" = some ⟨[], none⟩ := by decide +kernel
theorem own_pd1 : parseMethodDescriptor "(IIIII)V" = some ⟨[.int, .int, .int, .int, .int], none⟩ := by decide +kernel
theorem own_pd2 : parseMethodDescriptor "(II)I" = some ⟨[.int, .int], some .int⟩ := by decide +kernel
theorem own_pd3 : parseMethodDescriptor "()Z" = some ⟨[], some .boolean⟩ := by decide +kernel
theorem own_pd4 : parseMethodDescriptor "(I)Lcom/example/nullward/nullward/Elements;" = some ⟨[.int], some (.object "com/example/nullward/nullward/Elements")⟩ := by decide +kernel
theorem own_pd5 : parseMethodDescriptor "(II)Lcom/example/nullward/nullward/Elements;" = some ⟨[.int, .int], some (.object "com/example/nullward/nullward/Elements")⟩ := by decide +kernel
theorem own_d1_0 : decode method_2_code 0 = .ok (.iload_n 0, 1) := by decide +kernel
theorem own_d1_1 : decode method_2_code 1 = .ok (.iconst 3, 1) := by decide +kernel
theorem own_d1_2 : decode method_2_code 2 = .ok (.iand, 1) := by decide +kernel
theorem own_d1_3 : decode method_2_code 3 = .ok (.istore_n 2, 1) := by decide +kernel
theorem own_d1_4 : decode method_2_code 4 = .ok (.iload_n 2, 1) := by decide +kernel
theorem own_d1_5 : decode method_2_code 5 = .ok (.ifCond .ne 6, 3) := by decide +kernel
theorem own_d1_8 : decode method_2_code 8 = .ok (.bipush (-3), 2) := by decide +kernel
theorem own_d1_10 : decode method_2_code 10 = .ok (.ireturn, 1) := by decide +kernel
theorem own_d1_11 : decode method_2_code 11 = .ok (.iload_n 2, 1) := by decide +kernel
theorem own_d1_12 : decode method_2_code 12 = .ok (.iconst 1, 1) := by decide +kernel
theorem own_d1_13 : decode method_2_code 13 = .ok (.if_icmp .ne 6, 3) := by decide +kernel
theorem own_d1_16 : decode method_2_code 16 = .ok (.bipush (-2), 2) := by decide +kernel
theorem own_d1_18 : decode method_2_code 18 = .ok (.ireturn, 1) := by decide +kernel
theorem own_d1_19 : decode method_2_code 19 = .ok (.iload_n 2, 1) := by decide +kernel
theorem own_d1_20 : decode method_2_code 20 = .ok (.iconst 2, 1) := by decide +kernel
theorem own_d1_21 : decode method_2_code 21 = .ok (.if_icmp .ne 6, 3) := by decide +kernel
theorem own_d1_24 : decode method_2_code 24 = .ok (.bipush (-4), 2) := by decide +kernel
theorem own_d1_26 : decode method_2_code 26 = .ok (.ireturn, 1) := by decide +kernel
theorem own_d1_27 : decode method_2_code 27 = .ok (.iload_n 1, 1) := by decide +kernel
theorem own_d1_28 : decode method_2_code 28 = .ok (.ireturn, 1) := by decide +kernel
theorem own_pn1 : plainFor (⟨"com/example/nullward/nullward/ElementsInLoopPinLaw", "pickFilled", "(II)I"⟩ : MethodName) = true := plainFor_of_name (show plainName "com/example/nullward/nullward/ElementsInLoopPinLaw" = true by first | (simp [plainName, overriddenIn]; done) | decide +kernel)
theorem own_ef1 (m : MethodId) (p1 : Int32) (p2 : Int32) : entryFrame m #[(.int p1), (.int p2)] 3 = (mkF m 0 #[.val (.int p1), .val (.int p2), .unset] []) := by first | (simp [entryFrame, mkF, argsToLocals, Value.category]; done) | rfl
set_option maxRecDepth 65536 in
set_option maxHeartbeats 40000000 in
theorem own_rm1 (l : Launch) (Z : State) (a0 : Array Value) (hw : ∀ d ∈ tables_1, d.before a0 Z = true) (h0 : Heap) (n0 : Nat) (Z0 : n0 ≤ h0.size) (p1 : Int32) (p2 : Int32) (r : Int32) (hr : r = own_pf (p1 &&& (3 : Int32)) p2) :
    own_C l Z (⟨"com/example/nullward/nullward/ElementsInLoopPinLaw", "pickFilled", "(II)I"⟩ : MethodName) method_2_code 3 (some .int) [] ({ frames := 0, cells := 0, slots := 0, locals := 0 } : Room) #[(.int p1), (.int p2)] h0 (own_P (.int r) h0) := by
  refine own_body own_pn1 (f0 := fun m => (mkF m 0 #[.val (.int p1), .val (.int p2), .unset] [])) (fun m => own_ef1 m p1 p2) ?_
  intro p e s m below meth c s₁ hx hby hml hown hnm hret hlk hZ X0 e0
  change own_G p e below (own_F (own_P (.int r) h0) s 0 0) s₁ (mkF m 0 #[.val (.int p1), .val (.int p2), .unset] [])
  have N0 := Fr.nil n0
  refine own_st (T' := s₁) (g' := (mkF m 1 #[.val (.int p1), .val (.int p2), .unset] [(.int p1)])) (fun t k => XS.iloadN X0.here hx rfl (hb hby own_d1_0) rfl k) ?_
  refine own_st (T' := s₁) (g' := (mkF m 2 #[.val (.int p1), .val (.int p2), .unset] [(.int (3 : Int32)), (.int p1)])) (fun t k => XS.iconst X0.here hx rfl (hb hby own_d1_1) k) ?_
  refine own_st (T' := s₁) (g' := (mkF m 3 #[.val (.int p1), .val (.int p2), .unset] [(.int (p1 &&& (3 : Int32)))])) (fun t k => XS.iand X0.here hx rfl (hb hby own_d1_2) rfl k) ?_
  refine own_st (T' := s₁) (g' := (mkF m 4 #[.val (.int p1), .val (.int p2), .val (.int (p1 &&& (3 : Int32)))] [])) (fun t k => XS.istoreN X0.here hx rfl (hb hby own_d1_3) rfl (l' := #[.val (.int p1), .val (.int p2), .val (.int (p1 &&& (3 : Int32)))]) rfl k) ?_
  refine own_st (T' := s₁) (g' := (mkF m 5 #[.val (.int p1), .val (.int p2), .val (.int (p1 &&& (3 : Int32)))] [(.int (p1 &&& (3 : Int32)))])) (fun t k => XS.iloadN X0.here hx rfl (hb hby own_d1_4) rfl k) ?_
  by_cases hc5_1 : (p1 &&& (3 : Int32)) = (0 : Int32)
  ·
    refine own_st (T' := s₁) (g' := (mkF m 8 #[.val (.int p1), .val (.int p2), .val (.int (p1 &&& (3 : Int32)))] [])) (fun t k => XS.ifNo X0.here hx rfl (hb hby own_d1_5) rfl ((if0 _ _).trans (teq hc5_1).2) k) ?_
    refine own_st (T' := s₁) (g' := (mkF m 10 #[.val (.int p1), .val (.int p2), .val (.int (p1 &&& (3 : Int32)))] [(.int (-3 : Int32))])) (fun t k => XS.bipush X0.here hx rfl (hb hby own_d1_8) k) ?_
    exact own_retI X0 hx hlk hret (hb hby own_d1_10) (by decide) (by decide) ⟨by rw [hr]; simp [own_pf, hc5_1], e0, rfl⟩
  ·
    refine own_st (T' := s₁) (g' := (mkF m 11 #[.val (.int p1), .val (.int p2), .val (.int (p1 &&& (3 : Int32)))] [])) (fun t k => XS.ifYes X0.here hx rfl (pc0 := 5) (pc' := 11) rfl (hb hby own_d1_5) rfl ((if0 _ _).trans (feq hc5_1).2) (by decide) (by decide) k) ?_
    refine own_st (T' := s₁) (g' := (mkF m 12 #[.val (.int p1), .val (.int p2), .val (.int (p1 &&& (3 : Int32)))] [(.int (p1 &&& (3 : Int32)))])) (fun t k => XS.iloadN X0.here hx rfl (hb hby own_d1_11) rfl k) ?_
    refine own_st (T' := s₁) (g' := (mkF m 13 #[.val (.int p1), .val (.int p2), .val (.int (p1 &&& (3 : Int32)))] [(.int (1 : Int32)), (.int (p1 &&& (3 : Int32)))])) (fun t k => XS.iconst X0.here hx rfl (hb hby own_d1_12) k) ?_
    by_cases hc13_2 : (p1 &&& (3 : Int32)) = (1 : Int32)
    ·
      refine own_st (T' := s₁) (g' := (mkF m 16 #[.val (.int p1), .val (.int p2), .val (.int (p1 &&& (3 : Int32)))] [])) (fun t k => XS.icmpNo X0.here hx rfl (hb hby own_d1_13) rfl (teq hc13_2).2 k) ?_
      refine own_st (T' := s₁) (g' := (mkF m 18 #[.val (.int p1), .val (.int p2), .val (.int (p1 &&& (3 : Int32)))] [(.int (-2 : Int32))])) (fun t k => XS.bipush X0.here hx rfl (hb hby own_d1_16) k) ?_
      exact own_retI X0 hx hlk hret (hb hby own_d1_18) (by decide) (by decide) ⟨by rw [hr]; simp [own_pf, hc5_1, hc13_2], e0, rfl⟩
    ·
      refine own_st (T' := s₁) (g' := (mkF m 19 #[.val (.int p1), .val (.int p2), .val (.int (p1 &&& (3 : Int32)))] [])) (fun t k => XS.icmpYes X0.here hx rfl (pc0 := 13) (pc' := 19) rfl (hb hby own_d1_13) rfl (feq hc13_2).2 (by decide) (by decide) k) ?_
      refine own_st (T' := s₁) (g' := (mkF m 20 #[.val (.int p1), .val (.int p2), .val (.int (p1 &&& (3 : Int32)))] [(.int (p1 &&& (3 : Int32)))])) (fun t k => XS.iloadN X0.here hx rfl (hb hby own_d1_19) rfl k) ?_
      refine own_st (T' := s₁) (g' := (mkF m 21 #[.val (.int p1), .val (.int p2), .val (.int (p1 &&& (3 : Int32)))] [(.int (2 : Int32)), (.int (p1 &&& (3 : Int32)))])) (fun t k => XS.iconst X0.here hx rfl (hb hby own_d1_20) k) ?_
      by_cases hc21_3 : (p1 &&& (3 : Int32)) = (2 : Int32)
      ·
        refine own_st (T' := s₁) (g' := (mkF m 24 #[.val (.int p1), .val (.int p2), .val (.int (p1 &&& (3 : Int32)))] [])) (fun t k => XS.icmpNo X0.here hx rfl (hb hby own_d1_21) rfl (teq hc21_3).2 k) ?_
        refine own_st (T' := s₁) (g' := (mkF m 26 #[.val (.int p1), .val (.int p2), .val (.int (p1 &&& (3 : Int32)))] [(.int (-4 : Int32))])) (fun t k => XS.bipush X0.here hx rfl (hb hby own_d1_24) k) ?_
        exact own_retI X0 hx hlk hret (hb hby own_d1_26) (by decide) (by decide) ⟨by rw [hr]; simp [own_pf, hc5_1, hc13_2, hc21_3], e0, rfl⟩
      ·
        refine own_st (T' := s₁) (g' := (mkF m 27 #[.val (.int p1), .val (.int p2), .val (.int (p1 &&& (3 : Int32)))] [])) (fun t k => XS.icmpYes X0.here hx rfl (pc0 := 21) (pc' := 27) rfl (hb hby own_d1_21) rfl (feq hc21_3).2 (by decide) (by decide) k) ?_
        refine own_st (T' := s₁) (g' := (mkF m 28 #[.val (.int p1), .val (.int p2), .val (.int (p1 &&& (3 : Int32)))] [(.int p2)])) (fun t k => XS.iloadN X0.here hx rfl (hb hby own_d1_27) rfl k) ?_
        exact own_retI X0 hx hlk hret (hb hby own_d1_28) (by decide) (by decide) ⟨by rw [hr]; simp [own_pf, hc5_1, hc13_2, hc21_3], e0, rfl⟩
theorem own_d3_0 : decode jdk_30_method_1_code 0 = .ok (.aload_n 0, 1) := by decide +kernel
theorem own_d3_1 : decode jdk_30_method_1_code 1 = .ok (.invokespecial 1, 3) := by decide +kernel
theorem own_d3_4 : decode jdk_30_method_1_code 4 = .ok (.return_, 1) := by decide +kernel
theorem own_pn3 : plainFor (⟨"java/lang/Record", "<init>", "()V"⟩ : MethodName) = true := plainFor_of_name (show plainName "java/lang/Record" = true by first | (simp [plainName, overriddenIn]; done) | decide +kernel)
theorem own_ef3 (m : MethodId) (a1 : Addr) : entryFrame m #[(.ref a1)] 1 = (mkF m 0 #[.val (.ref a1)] []) := by first | (simp [entryFrame, mkF, argsToLocals, Value.category]; done) | rfl
set_option maxRecDepth 65536 in
set_option maxHeartbeats 40000000 in
theorem own_rm3 (l : Launch) (Z : State) (a0 : Array Value) (hw : ∀ d ∈ tables_1, d.before a0 Z = true) (h0 : Heap) (n0 : Nat) (Z0 : n0 ≤ h0.size) (a1 : Addr)  :
    own_C l Z (⟨"java/lang/Record", "<init>", "()V"⟩ : MethodName) jdk_30_method_1_code 1 none [] ({ frames := 1, cells := 0, slots := 0, locals := 12 } : Room) #[(.ref a1)] h0 (own_V h0) := by
  refine own_body own_pn3 (f0 := fun m => (mkF m 0 #[.val (.ref a1)] [])) (fun m => own_ef3 m a1) ?_
  intro p e s m below meth c s₁ hx hby hml hown hnm hret hlk hZ X0 e0
  change own_G p e below (own_F (own_V h0) s 0 0) s₁ (mkF m 0 #[.val (.ref a1)] [])
  have N0 := Fr.nil n0
  refine own_st (T' := s₁) (g' := (mkF m 1 #[.val (.ref a1)] [(.ref a1)])) (fun t k => XS.aloadN X0.here hx rfl (hb hby own_d3_0) rfl rfl k) ?_
  obtain ⟨T1, X1, e1, st1⟩ := initO X0 hx hZ hown (hw _ (List.mem_of_getElem? (i := 15) rfl)) (hw _ (List.mem_of_getElem? (i := 16) rfl)) (hw _ (List.mem_of_getElem? (i := 17) rfl)) e0 (g := (mkF m 1 #[.val (.ref a1)] [(.ref a1)])) rfl (by rw [hml]; rfl) rfl (hb hby own_d3_1) (by decide) (W := 0) (by show 2 * 0 + _ ≤ _; exact Nat.le_of_eq rfl) (by decide)
  refine own_st (T' := T1) (g' := (mkF m 4 #[.val (.ref a1)] [])) st1 ?_
  exact own_retV X1 hx hlk hret (hb hby own_d3_4) (by decide) (by decide) ⟨rfl, e1, rfl⟩
theorem own_d2_0 : decode prog_4_method_2_code 0 = .ok (.aload_n 0, 1) := by decide +kernel
theorem own_d2_1 : decode prog_4_method_2_code 1 = .ok (.invokespecial 3, 3) := by decide +kernel
theorem own_d2_4 : decode prog_4_method_2_code 4 = .ok (.aload_n 0, 1) := by decide +kernel
theorem own_d2_5 : decode prog_4_method_2_code 5 = .ok (.iload_n 1, 1) := by decide +kernel
theorem own_d2_6 : decode prog_4_method_2_code 6 = .ok (.putfield 9, 3) := by decide +kernel
theorem own_d2_9 : decode prog_4_method_2_code 9 = .ok (.aload_n 0, 1) := by decide +kernel
theorem own_d2_10 : decode prog_4_method_2_code 10 = .ok (.iload_n 2, 1) := by decide +kernel
theorem own_d2_11 : decode prog_4_method_2_code 11 = .ok (.putfield 15, 3) := by decide +kernel
theorem own_d2_14 : decode prog_4_method_2_code 14 = .ok (.aload_n 0, 1) := by decide +kernel
theorem own_d2_15 : decode prog_4_method_2_code 15 = .ok (.iload_n 3, 1) := by decide +kernel
theorem own_d2_16 : decode prog_4_method_2_code 16 = .ok (.putfield 18, 3) := by decide +kernel
theorem own_d2_19 : decode prog_4_method_2_code 19 = .ok (.aload_n 0, 1) := by decide +kernel
theorem own_d2_20 : decode prog_4_method_2_code 20 = .ok (.iload 4, 2) := by decide +kernel
theorem own_d2_22 : decode prog_4_method_2_code 22 = .ok (.putfield 21, 3) := by decide +kernel
theorem own_d2_25 : decode prog_4_method_2_code 25 = .ok (.aload_n 0, 1) := by decide +kernel
theorem own_d2_26 : decode prog_4_method_2_code 26 = .ok (.iload 5, 2) := by decide +kernel
theorem own_d2_28 : decode prog_4_method_2_code 28 = .ok (.putfield 24, 3) := by decide +kernel
theorem own_d2_31 : decode prog_4_method_2_code 31 = .ok (.return_, 1) := by decide +kernel
theorem own_pn2 : plainFor (⟨"com/example/nullward/nullward/Elements", "<init>", "(IIIII)V"⟩ : MethodName) = true := plainFor_of_name (show plainName "com/example/nullward/nullward/Elements" = true by first | (simp [plainName, overriddenIn]; done) | decide +kernel)
theorem own_ef2 (m : MethodId) (a1 : Addr) (p2 : Int32) (p3 : Int32) (p4 : Int32) (p5 : Int32) (p6 : Int32) : entryFrame m #[(.ref a1), (.int p2), (.int p3), (.int p4), (.int p5), (.int p6)] 6 = (mkF m 0 #[.val (.ref a1), .val (.int p2), .val (.int p3), .val (.int p4), .val (.int p5), .val (.int p6)] []) := by first | (simp [entryFrame, mkF, argsToLocals, Value.category]; done) | rfl
set_option maxRecDepth 65536 in
set_option maxHeartbeats 40000000 in
theorem own_rm2 (l : Launch) (Z : State) (a0 : Array Value) (hw : ∀ d ∈ tables_1, d.before a0 Z = true) (h0 : Heap) (n0 : Nat) (Z0 : n0 ≤ h0.size) (a1 : Addr) (p2 : Int32) (p3 : Int32) (p4 : Int32) (p5 : Int32) (p6 : Int32) (E_a1 : Exa Z h0 a1 "com/example/nullward/nullward/Elements") (g_a1 : n0 ≤ a1) (u_length : Value) (F_length_a1 : Fld Z h0 a1 "com/example/nullward/nullward/Elements" "length" "I" u_length) (u_filled : Value) (F_filled_a1 : Fld Z h0 a1 "com/example/nullward/nullward/Elements" "filled" "I" u_filled) (u_lengthLocal : Value) (F_lengthLocal_a1 : Fld Z h0 a1 "com/example/nullward/nullward/Elements" "lengthLocal" "I" u_lengthLocal) (u_indexLocal : Value) (F_indexLocal_a1 : Fld Z h0 a1 "com/example/nullward/nullward/Elements" "indexLocal" "I" u_indexLocal) (u_past : Value) (F_past_a1 : Fld Z h0 a1 "com/example/nullward/nullward/Elements" "past" "I" u_past) :
    own_C l Z (⟨"com/example/nullward/nullward/Elements", "<init>", "(IIIII)V"⟩ : MethodName) prog_4_method_2_code 6 none [] ({ frames := 2, cells := 0, slots := 0, locals := 24 } : Room) #[(.ref a1), (.int p2), (.int p3), (.int p4), (.int p5), (.int p6)] h0 (own_qi Z a1 p2 p3 p4 p5 p6 h0 n0) := by
  refine own_body own_pn2 (f0 := fun m => (mkF m 0 #[.val (.ref a1), .val (.int p2), .val (.int p3), .val (.int p4), .val (.int p5), .val (.int p6)] [])) (fun m => own_ef2 m a1 p2 p3 p4 p5 p6) ?_
  intro p e s m below meth c s₁ hx hby hml hown hnm hret hlk hZ X0 e0
  change own_G p e below (own_F (own_qi Z a1 p2 p3 p4 p5 p6 h0 n0) s 0 0) s₁ (mkF m 0 #[.val (.ref a1), .val (.int p2), .val (.int p3), .val (.int p4), .val (.int p5), .val (.int p6)] [])
  have N0 := Fr.nil n0
  refine own_st (T' := s₁) (g' := (mkF m 1 #[.val (.ref a1), .val (.int p2), .val (.int p3), .val (.int p4), .val (.int p5), .val (.int p6)] [(.ref a1)])) (fun t k => XS.aloadN X0.here hx rfl (hb hby own_d2_0) rfl rfl k) ?_
  obtain ⟨_, T1, L1, hQ1, X1, st1⟩ := own_callI (y := (⟨"java/lang/Record", "<init>", "()V"⟩ : MethodName)) (argsL := []) 0 [] (own_rm3 l Z a0 hw h0 n0 Z0 a1) X0 hx hZ hown rfl (hw _ (List.mem_of_getElem? (i := 10) rfl)) (hw _ (List.mem_of_getElem? (i := 11) rfl)) (hw _ (List.mem_of_getElem? (i := 14) rfl)) (hw _ (List.mem_of_getElem? (i := 13) rfl)) (by decide) (by decide) (by decide) (by decide) (by decide) e0 (g := (mkF m 1 #[.val (.ref a1), .val (.int p2), .val (.int p3), .val (.int p4), .val (.int p5), .val (.int p6)] [(.ref a1)])) rfl (by rw [hml]; rfl) (lenOf own_pd0 rfl) rfl (by show 2 * 0 + _ ≤ _; exact Nat.le_of_eq rfl) (hb hby own_d2_1)
  obtain ⟨rfl, e1, rfl⟩ := hQ1
  have X1 : Stand p l e ({ frames := 2, cells := 0, slots := 0, locals := 24 } : Room) s m #[(.ref a1), (.int p2), (.int p3), (.int p4), (.int p5), (.int p6)] below meth c T1 [] 0 0 := X1
  refine own_st (T' := T1) (g' := (mkF m 4 #[.val (.ref a1), .val (.int p2), .val (.int p3), .val (.int p4), .val (.int p5), .val (.int p6)] [])) st1 ?_
  refine own_st (T' := T1) (g' := (mkF m 5 #[.val (.ref a1), .val (.int p2), .val (.int p3), .val (.int p4), .val (.int p5), .val (.int p6)] [(.ref a1)])) (fun t k => XS.aloadN X1.here hx rfl (hb hby own_d2_4) rfl rfl k) ?_
  refine own_st (T' := T1) (g' := (mkF m 6 #[.val (.ref a1), .val (.int p2), .val (.int p3), .val (.int p4), .val (.int p5), .val (.int p6)] [(.int p2), (.ref a1)])) (fun t k => XS.iloadN X1.here hx rfl (hb hby own_d2_5) rfl k) ?_
  obtain ⟨T2, h2, X2, e2, W2, st2⟩ := putF X1 hx hZ hown (host := "") (Or.inl (hw _ (List.mem_of_getElem? (i := 18) rfl))) Via.refl e1 F_length_a1 E_a1 (Or.inr ⟨(hw _ (List.mem_of_getElem? (i := 19) rfl)), rfl, hnm⟩) (hw _ (List.mem_of_getElem? (i := 5) rfl)) (ty := .int) (by decide) rfl rfl (g := (mkF m 6 #[.val (.ref a1), .val (.int p2), .val (.int p3), .val (.int p4), .val (.int p5), .val (.int p6)] [(.int p2), (.ref a1)])) rfl rfl (hb hby own_d2_6)
  have E_a1 := E_a1.wr W2
  have F_length_a1 := F_length_a1.same W2
  have F_filled_a1 := F_filled_a1.other W2 (Or.inr (slot_ne (Or.inr (hw _ (List.mem_of_getElem? (i := 21) rfl))) (Or.inr (hw _ (List.mem_of_getElem? (i := 19) rfl))) (by decide) (t := .int) (t' := .int) (by decide) (by decide)))
  have F_lengthLocal_a1 := F_lengthLocal_a1.other W2 (Or.inr (slot_ne (Or.inr (hw _ (List.mem_of_getElem? (i := 23) rfl))) (Or.inr (hw _ (List.mem_of_getElem? (i := 19) rfl))) (by decide) (t := .int) (t' := .int) (by decide) (by decide)))
  have F_indexLocal_a1 := F_indexLocal_a1.other W2 (Or.inr (slot_ne (Or.inr (hw _ (List.mem_of_getElem? (i := 25) rfl))) (Or.inr (hw _ (List.mem_of_getElem? (i := 19) rfl))) (by decide) (t := .int) (t' := .int) (by decide) (by decide)))
  have F_past_a1 := F_past_a1.other W2 (Or.inr (slot_ne (Or.inr (hw _ (List.mem_of_getElem? (i := 27) rfl))) (Or.inr (hw _ (List.mem_of_getElem? (i := 19) rfl))) (by decide) (t := .int) (t' := .int) (by decide) (by decide)))
  have K0_2 := (Keep.refl h0 [a1]).wr W2 (Or.inl (List.mem_of_getElem? (i := 0) rfl))
  have N2 := Fr.snoc X2 N0 g_a1
  generalize hlc2 : ([] ++ [(⟨a1, Jvm.RoadKit.slotOf Z "com/example/nullward/nullward/Elements" "length" "I"⟩ : Loc)] : List Loc) = lc2 at X2 N2
  have Z2 : n0 ≤ h2.size := Nat.le_trans Z0 (Keep.of_wr W2).1
  refine own_st (T' := T2) (g' := (mkF m 9 #[.val (.ref a1), .val (.int p2), .val (.int p3), .val (.int p4), .val (.int p5), .val (.int p6)] [])) st2 ?_
  refine own_st (T' := T2) (g' := (mkF m 10 #[.val (.ref a1), .val (.int p2), .val (.int p3), .val (.int p4), .val (.int p5), .val (.int p6)] [(.ref a1)])) (fun t k => XS.aloadN X2.here hx rfl (hb hby own_d2_9) rfl rfl k) ?_
  refine own_st (T' := T2) (g' := (mkF m 11 #[.val (.ref a1), .val (.int p2), .val (.int p3), .val (.int p4), .val (.int p5), .val (.int p6)] [(.int p3), (.ref a1)])) (fun t k => XS.iloadN X2.here hx rfl (hb hby own_d2_10) rfl k) ?_
  obtain ⟨T3, h3, X3, e3, W3, st3⟩ := putF X2 hx hZ hown (host := "") (Or.inl (hw _ (List.mem_of_getElem? (i := 20) rfl))) Via.refl e2 F_filled_a1 E_a1 (Or.inr ⟨(hw _ (List.mem_of_getElem? (i := 21) rfl)), rfl, hnm⟩) (hw _ (List.mem_of_getElem? (i := 5) rfl)) (ty := .int) (by decide) rfl rfl (g := (mkF m 11 #[.val (.ref a1), .val (.int p2), .val (.int p3), .val (.int p4), .val (.int p5), .val (.int p6)] [(.int p3), (.ref a1)])) rfl rfl (hb hby own_d2_11)
  have E_a1 := E_a1.wr W3
  have F_length_a1 := F_length_a1.other W3 (Or.inr (slot_ne (Or.inr (hw _ (List.mem_of_getElem? (i := 19) rfl))) (Or.inr (hw _ (List.mem_of_getElem? (i := 21) rfl))) (by decide) (t := .int) (t' := .int) (by decide) (by decide)))
  have F_filled_a1 := F_filled_a1.same W3
  have F_lengthLocal_a1 := F_lengthLocal_a1.other W3 (Or.inr (slot_ne (Or.inr (hw _ (List.mem_of_getElem? (i := 23) rfl))) (Or.inr (hw _ (List.mem_of_getElem? (i := 21) rfl))) (by decide) (t := .int) (t' := .int) (by decide) (by decide)))
  have F_indexLocal_a1 := F_indexLocal_a1.other W3 (Or.inr (slot_ne (Or.inr (hw _ (List.mem_of_getElem? (i := 25) rfl))) (Or.inr (hw _ (List.mem_of_getElem? (i := 21) rfl))) (by decide) (t := .int) (t' := .int) (by decide) (by decide)))
  have F_past_a1 := F_past_a1.other W3 (Or.inr (slot_ne (Or.inr (hw _ (List.mem_of_getElem? (i := 27) rfl))) (Or.inr (hw _ (List.mem_of_getElem? (i := 21) rfl))) (by decide) (t := .int) (t' := .int) (by decide) (by decide)))
  have K0_3 := K0_2.wr W3 (Or.inl (List.mem_of_getElem? (i := 0) rfl))
  have N3 := Fr.snoc X3 N2 g_a1
  generalize hlc3 : (lc2 ++ [(⟨a1, Jvm.RoadKit.slotOf Z "com/example/nullward/nullward/Elements" "filled" "I"⟩ : Loc)] : List Loc) = lc3 at X3 N3
  have Z3 : n0 ≤ h3.size := Nat.le_trans Z2 (Keep.of_wr W3).1
  refine own_st (T' := T3) (g' := (mkF m 14 #[.val (.ref a1), .val (.int p2), .val (.int p3), .val (.int p4), .val (.int p5), .val (.int p6)] [])) st3 ?_
  refine own_st (T' := T3) (g' := (mkF m 15 #[.val (.ref a1), .val (.int p2), .val (.int p3), .val (.int p4), .val (.int p5), .val (.int p6)] [(.ref a1)])) (fun t k => XS.aloadN X3.here hx rfl (hb hby own_d2_14) rfl rfl k) ?_
  refine own_st (T' := T3) (g' := (mkF m 16 #[.val (.ref a1), .val (.int p2), .val (.int p3), .val (.int p4), .val (.int p5), .val (.int p6)] [(.int p4), (.ref a1)])) (fun t k => XS.iloadN X3.here hx rfl (hb hby own_d2_15) rfl k) ?_
  obtain ⟨T4, h4, X4, e4, W4, st4⟩ := putF X3 hx hZ hown (host := "") (Or.inl (hw _ (List.mem_of_getElem? (i := 22) rfl))) Via.refl e3 F_lengthLocal_a1 E_a1 (Or.inr ⟨(hw _ (List.mem_of_getElem? (i := 23) rfl)), rfl, hnm⟩) (hw _ (List.mem_of_getElem? (i := 5) rfl)) (ty := .int) (by decide) rfl rfl (g := (mkF m 16 #[.val (.ref a1), .val (.int p2), .val (.int p3), .val (.int p4), .val (.int p5), .val (.int p6)] [(.int p4), (.ref a1)])) rfl rfl (hb hby own_d2_16)
  have E_a1 := E_a1.wr W4
  have F_length_a1 := F_length_a1.other W4 (Or.inr (slot_ne (Or.inr (hw _ (List.mem_of_getElem? (i := 19) rfl))) (Or.inr (hw _ (List.mem_of_getElem? (i := 23) rfl))) (by decide) (t := .int) (t' := .int) (by decide) (by decide)))
  have F_filled_a1 := F_filled_a1.other W4 (Or.inr (slot_ne (Or.inr (hw _ (List.mem_of_getElem? (i := 21) rfl))) (Or.inr (hw _ (List.mem_of_getElem? (i := 23) rfl))) (by decide) (t := .int) (t' := .int) (by decide) (by decide)))
  have F_lengthLocal_a1 := F_lengthLocal_a1.same W4
  have F_indexLocal_a1 := F_indexLocal_a1.other W4 (Or.inr (slot_ne (Or.inr (hw _ (List.mem_of_getElem? (i := 25) rfl))) (Or.inr (hw _ (List.mem_of_getElem? (i := 23) rfl))) (by decide) (t := .int) (t' := .int) (by decide) (by decide)))
  have F_past_a1 := F_past_a1.other W4 (Or.inr (slot_ne (Or.inr (hw _ (List.mem_of_getElem? (i := 27) rfl))) (Or.inr (hw _ (List.mem_of_getElem? (i := 23) rfl))) (by decide) (t := .int) (t' := .int) (by decide) (by decide)))
  have K0_4 := K0_3.wr W4 (Or.inl (List.mem_of_getElem? (i := 0) rfl))
  have N4 := Fr.snoc X4 N3 g_a1
  generalize hlc4 : (lc3 ++ [(⟨a1, Jvm.RoadKit.slotOf Z "com/example/nullward/nullward/Elements" "lengthLocal" "I"⟩ : Loc)] : List Loc) = lc4 at X4 N4
  have Z4 : n0 ≤ h4.size := Nat.le_trans Z3 (Keep.of_wr W4).1
  refine own_st (T' := T4) (g' := (mkF m 19 #[.val (.ref a1), .val (.int p2), .val (.int p3), .val (.int p4), .val (.int p5), .val (.int p6)] [])) st4 ?_
  refine own_st (T' := T4) (g' := (mkF m 20 #[.val (.ref a1), .val (.int p2), .val (.int p3), .val (.int p4), .val (.int p5), .val (.int p6)] [(.ref a1)])) (fun t k => XS.aloadN X4.here hx rfl (hb hby own_d2_19) rfl rfl k) ?_
  refine own_st (T' := T4) (g' := (mkF m 22 #[.val (.ref a1), .val (.int p2), .val (.int p3), .val (.int p4), .val (.int p5), .val (.int p6)] [(.int p5), (.ref a1)])) (fun t k => XS.iload X4.here hx rfl (hb hby own_d2_20) rfl k) ?_
  obtain ⟨T5, h5, X5, e5, W5, st5⟩ := putF X4 hx hZ hown (host := "") (Or.inl (hw _ (List.mem_of_getElem? (i := 24) rfl))) Via.refl e4 F_indexLocal_a1 E_a1 (Or.inr ⟨(hw _ (List.mem_of_getElem? (i := 25) rfl)), rfl, hnm⟩) (hw _ (List.mem_of_getElem? (i := 5) rfl)) (ty := .int) (by decide) rfl rfl (g := (mkF m 22 #[.val (.ref a1), .val (.int p2), .val (.int p3), .val (.int p4), .val (.int p5), .val (.int p6)] [(.int p5), (.ref a1)])) rfl rfl (hb hby own_d2_22)
  have E_a1 := E_a1.wr W5
  have F_length_a1 := F_length_a1.other W5 (Or.inr (slot_ne (Or.inr (hw _ (List.mem_of_getElem? (i := 19) rfl))) (Or.inr (hw _ (List.mem_of_getElem? (i := 25) rfl))) (by decide) (t := .int) (t' := .int) (by decide) (by decide)))
  have F_filled_a1 := F_filled_a1.other W5 (Or.inr (slot_ne (Or.inr (hw _ (List.mem_of_getElem? (i := 21) rfl))) (Or.inr (hw _ (List.mem_of_getElem? (i := 25) rfl))) (by decide) (t := .int) (t' := .int) (by decide) (by decide)))
  have F_lengthLocal_a1 := F_lengthLocal_a1.other W5 (Or.inr (slot_ne (Or.inr (hw _ (List.mem_of_getElem? (i := 23) rfl))) (Or.inr (hw _ (List.mem_of_getElem? (i := 25) rfl))) (by decide) (t := .int) (t' := .int) (by decide) (by decide)))
  have F_indexLocal_a1 := F_indexLocal_a1.same W5
  have F_past_a1 := F_past_a1.other W5 (Or.inr (slot_ne (Or.inr (hw _ (List.mem_of_getElem? (i := 27) rfl))) (Or.inr (hw _ (List.mem_of_getElem? (i := 25) rfl))) (by decide) (t := .int) (t' := .int) (by decide) (by decide)))
  have K0_5 := K0_4.wr W5 (Or.inl (List.mem_of_getElem? (i := 0) rfl))
  have N5 := Fr.snoc X5 N4 g_a1
  generalize hlc5 : (lc4 ++ [(⟨a1, Jvm.RoadKit.slotOf Z "com/example/nullward/nullward/Elements" "indexLocal" "I"⟩ : Loc)] : List Loc) = lc5 at X5 N5
  have Z5 : n0 ≤ h5.size := Nat.le_trans Z4 (Keep.of_wr W5).1
  refine own_st (T' := T5) (g' := (mkF m 25 #[.val (.ref a1), .val (.int p2), .val (.int p3), .val (.int p4), .val (.int p5), .val (.int p6)] [])) st5 ?_
  refine own_st (T' := T5) (g' := (mkF m 26 #[.val (.ref a1), .val (.int p2), .val (.int p3), .val (.int p4), .val (.int p5), .val (.int p6)] [(.ref a1)])) (fun t k => XS.aloadN X5.here hx rfl (hb hby own_d2_25) rfl rfl k) ?_
  refine own_st (T' := T5) (g' := (mkF m 28 #[.val (.ref a1), .val (.int p2), .val (.int p3), .val (.int p4), .val (.int p5), .val (.int p6)] [(.int p6), (.ref a1)])) (fun t k => XS.iload X5.here hx rfl (hb hby own_d2_26) rfl k) ?_
  obtain ⟨T6, h6, X6, e6, W6, st6⟩ := putF X5 hx hZ hown (host := "") (Or.inl (hw _ (List.mem_of_getElem? (i := 26) rfl))) Via.refl e5 F_past_a1 E_a1 (Or.inr ⟨(hw _ (List.mem_of_getElem? (i := 27) rfl)), rfl, hnm⟩) (hw _ (List.mem_of_getElem? (i := 5) rfl)) (ty := .int) (by decide) rfl rfl (g := (mkF m 28 #[.val (.ref a1), .val (.int p2), .val (.int p3), .val (.int p4), .val (.int p5), .val (.int p6)] [(.int p6), (.ref a1)])) rfl rfl (hb hby own_d2_28)
  have E_a1 := E_a1.wr W6
  have F_length_a1 := F_length_a1.other W6 (Or.inr (slot_ne (Or.inr (hw _ (List.mem_of_getElem? (i := 19) rfl))) (Or.inr (hw _ (List.mem_of_getElem? (i := 27) rfl))) (by decide) (t := .int) (t' := .int) (by decide) (by decide)))
  have F_filled_a1 := F_filled_a1.other W6 (Or.inr (slot_ne (Or.inr (hw _ (List.mem_of_getElem? (i := 21) rfl))) (Or.inr (hw _ (List.mem_of_getElem? (i := 27) rfl))) (by decide) (t := .int) (t' := .int) (by decide) (by decide)))
  have F_lengthLocal_a1 := F_lengthLocal_a1.other W6 (Or.inr (slot_ne (Or.inr (hw _ (List.mem_of_getElem? (i := 23) rfl))) (Or.inr (hw _ (List.mem_of_getElem? (i := 27) rfl))) (by decide) (t := .int) (t' := .int) (by decide) (by decide)))
  have F_indexLocal_a1 := F_indexLocal_a1.other W6 (Or.inr (slot_ne (Or.inr (hw _ (List.mem_of_getElem? (i := 25) rfl))) (Or.inr (hw _ (List.mem_of_getElem? (i := 27) rfl))) (by decide) (t := .int) (t' := .int) (by decide) (by decide)))
  have F_past_a1 := F_past_a1.same W6
  have K0_6 := K0_5.wr W6 (Or.inl (List.mem_of_getElem? (i := 0) rfl))
  have N6 := Fr.snoc X6 N5 g_a1
  generalize hlc6 : (lc5 ++ [(⟨a1, Jvm.RoadKit.slotOf Z "com/example/nullward/nullward/Elements" "past" "I"⟩ : Loc)] : List Loc) = lc6 at X6 N6
  have Z6 : n0 ≤ h6.size := Nat.le_trans Z5 (Keep.of_wr W6).1
  refine own_st (T' := T6) (g' := (mkF m 31 #[.val (.ref a1), .val (.int p2), .val (.int p3), .val (.int p4), .val (.int p5), .val (.int p6)] [])) st6 ?_
  exact own_retV X6 hx hlk hret (hb hby own_d2_31) (by decide) (by decide) (by rw [e6]; exact ⟨rfl, N6, K0_6, E_a1, F_length_a1, F_filled_a1, F_lengthLocal_a1, F_indexLocal_a1, F_past_a1⟩)
theorem own_d6_0 : decode prog_4_method_4_code 0 = .ok (.new 10, 3) := by decide +kernel
theorem own_d6_3 : decode prog_4_method_4_code 3 = .ok (.dup, 1) := by decide +kernel
theorem own_d6_4 : decode prog_4_method_4_code 4 = .ok (.iconst (-1), 1) := by decide +kernel
theorem own_d6_5 : decode prog_4_method_4_code 5 = .ok (.bipush (-3), 2) := by decide +kernel
theorem own_d6_7 : decode prog_4_method_4_code 7 = .ok (.iload_n 0, 1) := by decide +kernel
theorem own_d6_8 : decode prog_4_method_4_code 8 = .ok (.iconst (-1), 1) := by decide +kernel
theorem own_d6_9 : decode prog_4_method_4_code 9 = .ok (.iconst 0, 1) := by decide +kernel
theorem own_d6_10 : decode prog_4_method_4_code 10 = .ok (.invokespecial 27, 3) := by decide +kernel
theorem own_d6_13 : decode prog_4_method_4_code 13 = .ok (.areturn, 1) := by decide +kernel
theorem own_pn6 : plainFor (⟨"com/example/nullward/nullward/Elements", "ofLengthIn", "(I)Lcom/example/nullward/nullward/Elements;"⟩ : MethodName) = true := plainFor_of_name (show plainName "com/example/nullward/nullward/Elements" = true by first | (simp [plainName, overriddenIn]; done) | decide +kernel)
theorem own_ef6 (m : MethodId) (p1 : Int32) : entryFrame m #[(.int p1)] 1 = (mkF m 0 #[.val (.int p1)] []) := by first | (simp [entryFrame, mkF, argsToLocals, Value.category]; done) | rfl
set_option maxRecDepth 65536 in
set_option maxHeartbeats 40000000 in
theorem own_rm6 (l : Launch) (Z : State) (a0 : Array Value) (hw : ∀ d ∈ tables_1, d.before a0 Z = true) (h0 : Heap) (n0 : Nat) (Z0 : n0 ≤ h0.size) (p1 : Int32)  :
    own_C l Z (⟨"com/example/nullward/nullward/Elements", "ofLengthIn", "(I)Lcom/example/nullward/nullward/Elements;"⟩ : MethodName) prog_4_method_4_code 1 (some (.object "com/example/nullward/nullward/Elements")) [] ({ frames := 3, cells := 1, slots := 5, locals := 42 } : Room) #[(.int p1)] h0 (own_qm Z (-1) (-3) p1 (-1) 0 h0 n0) := by
  refine own_body own_pn6 (f0 := fun m => (mkF m 0 #[.val (.int p1)] [])) (fun m => own_ef6 m p1) ?_
  intro p e s m below meth c s₁ hx hby hml hown hnm hret hlk hZ X0 e0
  change own_G p e below (own_F (own_qm Z (-1) (-3) p1 (-1) 0 h0 n0) s 1 5) s₁ (mkF m 0 #[.val (.int p1)] [])
  have N0 := Fr.nil n0
  obtain ⟨T1, h1, X1, e1, E1, A1, D1, -, st1⟩ := newO X0 hx hZ hown (hw _ (List.mem_of_getElem? (i := 36) rfl)) (hw _ (List.mem_of_getElem? (i := 5) rfl)) (hw _ (List.mem_of_getElem? (i := 6) rfl)) e0 (g := (mkF m 0 #[.val (.int p1)] [])) rfl (hb hby own_d6_0) (by decide) (by decide)
  obtain ⟨b1, gb1⟩ : ∃ z, z = h0.size := ⟨_, rfl⟩
  rw [← gb1] at A1 D1 st1
  have g_b1 : n0 ≤ b1 := Nat.le_trans Z0 (Nat.le_of_eq gb1.symm)
  have Z1 : n0 ≤ h1.size := Nat.le_trans Z0 E1.1
  have sz_b1 : h0.size ≤ b1 := Nat.le_trans (Keep.refl h0 []).1 (Nat.le_of_eq gb1.symm)
  have K0_1 := (Keep.refl h0 []).ext E1
  have E_b1 := A1
  have F_length_b1 : Fld Z h1 b1 "com/example/nullward/nullward/Elements" "length" "I" (.int (0 : Int32)) := D1 (Or.inr (hw _ (List.mem_of_getElem? (i := 19) rfl))) (ty := .int) (by decide)
  have F_filled_b1 : Fld Z h1 b1 "com/example/nullward/nullward/Elements" "filled" "I" (.int (0 : Int32)) := D1 (Or.inr (hw _ (List.mem_of_getElem? (i := 21) rfl))) (ty := .int) (by decide)
  have F_lengthLocal_b1 : Fld Z h1 b1 "com/example/nullward/nullward/Elements" "lengthLocal" "I" (.int (0 : Int32)) := D1 (Or.inr (hw _ (List.mem_of_getElem? (i := 23) rfl))) (ty := .int) (by decide)
  have F_indexLocal_b1 : Fld Z h1 b1 "com/example/nullward/nullward/Elements" "indexLocal" "I" (.int (0 : Int32)) := D1 (Or.inr (hw _ (List.mem_of_getElem? (i := 25) rfl))) (ty := .int) (by decide)
  have F_past_b1 : Fld Z h1 b1 "com/example/nullward/nullward/Elements" "past" "I" (.int (0 : Int32)) := D1 (Or.inr (hw _ (List.mem_of_getElem? (i := 27) rfl))) (ty := .int) (by decide)
  have X1 : Stand p l e ({ frames := 3, cells := 1, slots := 5, locals := 42 } : Room) s m #[(.int p1)] below meth c T1 [] 1 5 := X1
  refine own_st (T' := T1) (g' := (mkF m 3 #[.val (.int p1)] [(.ref b1)])) st1 ?_
  refine own_st (T' := T1) (g' := (mkF m 4 #[.val (.int p1)] [(.ref b1), (.ref b1)])) (fun t k => XS.dup X1.here hx rfl (hb hby own_d6_3) rfl rfl k) ?_
  refine own_st (T' := T1) (g' := (mkF m 5 #[.val (.int p1)] [(.int (-1 : Int32)), (.ref b1), (.ref b1)])) (fun t k => XS.iconst X1.here hx rfl (hb hby own_d6_4) k) ?_
  refine own_st (T' := T1) (g' := (mkF m 7 #[.val (.int p1)] [(.int (-3 : Int32)), (.int (-1 : Int32)), (.ref b1), (.ref b1)])) (fun t k => XS.bipush X1.here hx rfl (hb hby own_d6_5) k) ?_
  refine own_st (T' := T1) (g' := (mkF m 8 #[.val (.int p1)] [(.int p1), (.int (-3 : Int32)), (.int (-1 : Int32)), (.ref b1), (.ref b1)])) (fun t k => XS.iloadN X1.here hx rfl (hb hby own_d6_7) rfl k) ?_
  refine own_st (T' := T1) (g' := (mkF m 9 #[.val (.int p1)] [(.int (-1 : Int32)), (.int p1), (.int (-3 : Int32)), (.int (-1 : Int32)), (.ref b1), (.ref b1)])) (fun t k => XS.iconst X1.here hx rfl (hb hby own_d6_8) k) ?_
  refine own_st (T' := T1) (g' := (mkF m 10 #[.val (.int p1)] [(.int (0 : Int32)), (.int (-1 : Int32)), (.int p1), (.int (-3 : Int32)), (.int (-1 : Int32)), (.ref b1), (.ref b1)])) (fun t k => XS.iconst X1.here hx rfl (hb hby own_d6_9) k) ?_
  obtain ⟨_, T2, L2, hQ2, X2, st2⟩ := own_callI (y := (⟨"com/example/nullward/nullward/Elements", "<init>", "(IIIII)V"⟩ : MethodName)) (argsL := [(.int (-1 : Int32)), (.int (-3 : Int32)), (.int p1), (.int (-1 : Int32)), (.int (0 : Int32))]) 1 [(.ref b1)] (own_rm2 l Z a0 hw h1 n0 Z1 b1 (-1 : Int32) (-3 : Int32) p1 (-1 : Int32) (0 : Int32) E_b1 g_b1 _ F_length_b1 _ F_filled_b1 _ F_lengthLocal_b1 _ F_indexLocal_b1 _ F_past_b1) X1 hx hZ hown rfl (hw _ (List.mem_of_getElem? (i := 37) rfl)) (hw _ (List.mem_of_getElem? (i := 8) rfl)) (hw _ (List.mem_of_getElem? (i := 9) rfl)) (hw _ (List.mem_of_getElem? (i := 6) rfl)) (by decide) (by decide) (by decide) (by decide) (by decide) e1 (g := (mkF m 10 #[.val (.int p1)] [(.int (0 : Int32)), (.int (-1 : Int32)), (.int p1), (.int (-3 : Int32)), (.int (-1 : Int32)), (.ref b1), (.ref b1)])) rfl (by rw [hml]; rfl) (lenOf own_pd1 rfl) rfl (by show 2 * 0 + _ ≤ _; exact Nat.le_of_eq rfl) (hb hby own_d6_10)
  obtain ⟨rfl, N2q, Kq2, E_b1, F_length_b1, F_filled_b1, F_lengthLocal_b1, F_indexLocal_b1, F_past_b1⟩ := hQ2
  have K0_2 := K0_1.trans Kq2 (allS (Or.inr sz_b1) all0)
  have Z2 : n0 ≤ T2.heap.size := Nat.le_trans Z1 Kq2.1
  have N2 := Fr.app N0 N2q
  generalize hlc2 : ([] ++ L2 : List Loc) = lc2 at X2 N2
  have X2 : Stand p l e ({ frames := 3, cells := 1, slots := 5, locals := 42 } : Room) s m #[(.int p1)] below meth c T2 lc2 1 5 := X2
  refine own_st (T' := T2) (g' := (mkF m 13 #[.val (.int p1)] [(.ref b1)])) st2 ?_
  exact own_retR X2 hx hlk hret (hb hby own_d6_13) (by decide) (by decide) rfl ⟨b1, rfl, N2, own_ext K0_2, sz_b1, E_b1, F_length_b1, F_filled_b1, F_lengthLocal_b1, F_indexLocal_b1, F_past_b1⟩
theorem own_d7_0 : decode prog_4_method_8_code 0 = .ok (.new 10, 3) := by decide +kernel
theorem own_d7_3 : decode prog_4_method_8_code 3 = .ok (.dup, 1) := by decide +kernel
theorem own_d7_4 : decode prog_4_method_8_code 4 = .ok (.iconst (-1), 1) := by decide +kernel
theorem own_d7_5 : decode prog_4_method_8_code 5 = .ok (.bipush (-3), 2) := by decide +kernel
theorem own_d7_7 : decode prog_4_method_8_code 7 = .ok (.aload_n 0, 1) := by decide +kernel
theorem own_d7_8 : decode prog_4_method_8_code 8 = .ok (.getfield 18, 3) := by decide +kernel
theorem own_d7_11 : decode prog_4_method_8_code 11 = .ok (.iload_n 1, 1) := by decide +kernel
theorem own_d7_12 : decode prog_4_method_8_code 12 = .ok (.iload_n 2, 1) := by decide +kernel
theorem own_d7_13 : decode prog_4_method_8_code 13 = .ok (.invokespecial 27, 3) := by decide +kernel
theorem own_d7_16 : decode prog_4_method_8_code 16 = .ok (.areturn, 1) := by decide +kernel
theorem own_pn7 : plainFor (⟨"com/example/nullward/nullward/Elements", "below", "(II)Lcom/example/nullward/nullward/Elements;"⟩ : MethodName) = true := plainFor_of_name (show plainName "com/example/nullward/nullward/Elements" = true by first | (simp [plainName, overriddenIn]; done) | decide +kernel)
theorem own_ef7 (m : MethodId) (a1 : Addr) (p2 : Int32) (p3 : Int32) : entryFrame m #[(.ref a1), (.int p2), (.int p3)] 3 = (mkF m 0 #[.val (.ref a1), .val (.int p2), .val (.int p3)] []) := by first | (simp [entryFrame, mkF, argsToLocals, Value.category]; done) | rfl
set_option maxRecDepth 65536 in
set_option maxHeartbeats 40000000 in
theorem own_rm7 (l : Launch) (Z : State) (a0 : Array Value) (hw : ∀ d ∈ tables_1, d.before a0 Z = true) (h0 : Heap) (n0 : Nat) (Z0 : n0 ≤ h0.size) (a1 : Addr) (p2 : Int32) (p3 : Int32) (z : Int32) (F_lengthLocal_a1 : Fld Z h0 a1 "com/example/nullward/nullward/Elements" "lengthLocal" "I" (.int z)) :
    own_C l Z (⟨"com/example/nullward/nullward/Elements", "below", "(II)Lcom/example/nullward/nullward/Elements;"⟩ : MethodName) prog_4_method_8_code 3 (some (.object "com/example/nullward/nullward/Elements")) [] ({ frames := 3, cells := 1, slots := 5, locals := 42 } : Room) #[(.ref a1), (.int p2), (.int p3)] h0 (own_qm Z (-1) (-3) z p2 p3 h0 n0) := by
  refine own_body own_pn7 (f0 := fun m => (mkF m 0 #[.val (.ref a1), .val (.int p2), .val (.int p3)] [])) (fun m => own_ef7 m a1 p2 p3) ?_
  intro p e s m below meth c s₁ hx hby hml hown hnm hret hlk hZ X0 e0
  change own_G p e below (own_F (own_qm Z (-1) (-3) z p2 p3 h0 n0) s 1 5) s₁ (mkF m 0 #[.val (.ref a1), .val (.int p2), .val (.int p3)] [])
  have N0 := Fr.nil n0
  obtain ⟨T1, h1, X1, e1, E1, A1, D1, -, st1⟩ := newO X0 hx hZ hown (hw _ (List.mem_of_getElem? (i := 36) rfl)) (hw _ (List.mem_of_getElem? (i := 5) rfl)) (hw _ (List.mem_of_getElem? (i := 6) rfl)) e0 (g := (mkF m 0 #[.val (.ref a1), .val (.int p2), .val (.int p3)] [])) rfl (hb hby own_d7_0) (by decide) (by decide)
  obtain ⟨b1, gb1⟩ : ∃ z, z = h0.size := ⟨_, rfl⟩
  rw [← gb1] at A1 D1 st1
  have ne_a1_b1 : a1 ≠ b1 := by rw [gb1]; exact Nat.ne_of_lt F_lengthLocal_a1.lt
  have g_b1 : n0 ≤ b1 := Nat.le_trans Z0 (Nat.le_of_eq gb1.symm)
  have Z1 : n0 ≤ h1.size := Nat.le_trans Z0 E1.1
  have sz_b1 : h0.size ≤ b1 := Nat.le_trans (Keep.refl h0 []).1 (Nat.le_of_eq gb1.symm)
  have K0_1 := (Keep.refl h0 []).ext E1
  have F_lengthLocal_a1 := F_lengthLocal_a1.ext E1
  have E_b1 := A1
  have F_length_b1 : Fld Z h1 b1 "com/example/nullward/nullward/Elements" "length" "I" (.int (0 : Int32)) := D1 (Or.inr (hw _ (List.mem_of_getElem? (i := 19) rfl))) (ty := .int) (by decide)
  have F_filled_b1 : Fld Z h1 b1 "com/example/nullward/nullward/Elements" "filled" "I" (.int (0 : Int32)) := D1 (Or.inr (hw _ (List.mem_of_getElem? (i := 21) rfl))) (ty := .int) (by decide)
  have F_lengthLocal_b1 : Fld Z h1 b1 "com/example/nullward/nullward/Elements" "lengthLocal" "I" (.int (0 : Int32)) := D1 (Or.inr (hw _ (List.mem_of_getElem? (i := 23) rfl))) (ty := .int) (by decide)
  have F_indexLocal_b1 : Fld Z h1 b1 "com/example/nullward/nullward/Elements" "indexLocal" "I" (.int (0 : Int32)) := D1 (Or.inr (hw _ (List.mem_of_getElem? (i := 25) rfl))) (ty := .int) (by decide)
  have F_past_b1 : Fld Z h1 b1 "com/example/nullward/nullward/Elements" "past" "I" (.int (0 : Int32)) := D1 (Or.inr (hw _ (List.mem_of_getElem? (i := 27) rfl))) (ty := .int) (by decide)
  have X1 : Stand p l e ({ frames := 3, cells := 1, slots := 5, locals := 42 } : Room) s m #[(.ref a1), (.int p2), (.int p3)] below meth c T1 [] 1 5 := X1
  refine own_st (T' := T1) (g' := (mkF m 3 #[.val (.ref a1), .val (.int p2), .val (.int p3)] [(.ref b1)])) st1 ?_
  refine own_st (T' := T1) (g' := (mkF m 4 #[.val (.ref a1), .val (.int p2), .val (.int p3)] [(.ref b1), (.ref b1)])) (fun t k => XS.dup X1.here hx rfl (hb hby own_d7_3) rfl rfl k) ?_
  refine own_st (T' := T1) (g' := (mkF m 5 #[.val (.ref a1), .val (.int p2), .val (.int p3)] [(.int (-1 : Int32)), (.ref b1), (.ref b1)])) (fun t k => XS.iconst X1.here hx rfl (hb hby own_d7_4) k) ?_
  refine own_st (T' := T1) (g' := (mkF m 7 #[.val (.ref a1), .val (.int p2), .val (.int p3)] [(.int (-3 : Int32)), (.int (-1 : Int32)), (.ref b1), (.ref b1)])) (fun t k => XS.bipush X1.here hx rfl (hb hby own_d7_5) k) ?_
  refine own_st (T' := T1) (g' := (mkF m 8 #[.val (.ref a1), .val (.int p2), .val (.int p3)] [(.ref a1), (.int (-3 : Int32)), (.int (-1 : Int32)), (.ref b1), (.ref b1)])) (fun t k => XS.aloadN X1.here hx rfl (hb hby own_d7_7) rfl rfl k) ?_
  obtain ⟨T2, X2, e2, st2⟩ := getF X1 hx hZ hown (host := "") (Or.inl (hw _ (List.mem_of_getElem? (i := 22) rfl))) Via.refl e1 F_lengthLocal_a1 (g := (mkF m 8 #[.val (.ref a1), .val (.int p2), .val (.int p3)] [(.ref a1), (.int (-3 : Int32)), (.int (-1 : Int32)), (.ref b1), (.ref b1)])) rfl rfl (hb hby own_d7_8)
  refine own_st (T' := T2) (g' := (mkF m 11 #[.val (.ref a1), .val (.int p2), .val (.int p3)] [(.int z), (.int (-3 : Int32)), (.int (-1 : Int32)), (.ref b1), (.ref b1)])) st2 ?_
  refine own_st (T' := T2) (g' := (mkF m 12 #[.val (.ref a1), .val (.int p2), .val (.int p3)] [(.int p2), (.int z), (.int (-3 : Int32)), (.int (-1 : Int32)), (.ref b1), (.ref b1)])) (fun t k => XS.iloadN X2.here hx rfl (hb hby own_d7_11) rfl k) ?_
  refine own_st (T' := T2) (g' := (mkF m 13 #[.val (.ref a1), .val (.int p2), .val (.int p3)] [(.int p3), (.int p2), (.int z), (.int (-3 : Int32)), (.int (-1 : Int32)), (.ref b1), (.ref b1)])) (fun t k => XS.iloadN X2.here hx rfl (hb hby own_d7_12) rfl k) ?_
  obtain ⟨_, T3, L3, hQ3, X3, st3⟩ := own_callI (y := (⟨"com/example/nullward/nullward/Elements", "<init>", "(IIIII)V"⟩ : MethodName)) (argsL := [(.int (-1 : Int32)), (.int (-3 : Int32)), (.int z), (.int p2), (.int p3)]) 1 [(.ref b1)] (own_rm2 l Z a0 hw h1 n0 Z1 b1 (-1 : Int32) (-3 : Int32) z p2 p3 E_b1 g_b1 _ F_length_b1 _ F_filled_b1 _ F_lengthLocal_b1 _ F_indexLocal_b1 _ F_past_b1) X2 hx hZ hown rfl (hw _ (List.mem_of_getElem? (i := 37) rfl)) (hw _ (List.mem_of_getElem? (i := 8) rfl)) (hw _ (List.mem_of_getElem? (i := 9) rfl)) (hw _ (List.mem_of_getElem? (i := 6) rfl)) (by decide) (by decide) (by decide) (by decide) (by decide) e2 (g := (mkF m 13 #[.val (.ref a1), .val (.int p2), .val (.int p3)] [(.int p3), (.int p2), (.int z), (.int (-3 : Int32)), (.int (-1 : Int32)), (.ref b1), (.ref b1)])) rfl (by rw [hml]; rfl) (lenOf own_pd1 rfl) rfl (by show 2 * 0 + _ ≤ _; exact Nat.le_of_eq rfl) (hb hby own_d7_13)
  obtain ⟨rfl, N3q, Kq3, E_b1, F_length_b1, F_filled_b1, F_lengthLocal_b1, F_indexLocal_b1, F_past_b1⟩ := hQ3
  have K0_3 := K0_1.trans Kq3 (allS (Or.inr sz_b1) all0)
  have Z3 : n0 ≤ T3.heap.size := Nat.le_trans Z1 Kq3.1
  have F_lengthLocal_a1 := F_lengthLocal_a1.keep Kq3 (ninS ne_a1_b1 nin0)
  have N3 := Fr.app N0 N3q
  generalize hlc3 : ([] ++ L3 : List Loc) = lc3 at X3 N3
  have X3 : Stand p l e ({ frames := 3, cells := 1, slots := 5, locals := 42 } : Room) s m #[(.ref a1), (.int p2), (.int p3)] below meth c T3 lc3 1 5 := X3
  refine own_st (T' := T3) (g' := (mkF m 16 #[.val (.ref a1), .val (.int p2), .val (.int p3)] [(.ref b1)])) st3 ?_
  exact own_retR X3 hx hlk hret (hb hby own_d7_16) (by decide) (by decide) rfl ⟨b1, rfl, N3, own_ext K0_3, sz_b1, E_b1, F_length_b1, F_filled_b1, F_lengthLocal_b1, F_indexLocal_b1, F_past_b1⟩
theorem own_d8_0 : decode prog_4_method_5_code 0 = .ok (.aload_n 0, 1) := by decide +kernel
theorem own_d8_1 : decode prog_4_method_5_code 1 = .ok (.getfield 15, 3) := by decide +kernel
theorem own_d8_4 : decode prog_4_method_5_code 4 = .ok (.ldc 37, 2) := by decide +kernel
theorem own_d8_6 : decode prog_4_method_5_code 6 = .ok (.if_icmp .ne 7, 3) := by decide +kernel
theorem own_d8_9 : decode prog_4_method_5_code 9 = .ok (.iconst 1, 1) := by decide +kernel
theorem own_d8_10 : decode prog_4_method_5_code 10 = .ok (.goto 4, 3) := by decide +kernel
theorem own_d8_13 : decode prog_4_method_5_code 13 = .ok (.iconst 0, 1) := by decide +kernel
theorem own_d8_14 : decode prog_4_method_5_code 14 = .ok (.ireturn, 1) := by decide +kernel
theorem own_pn8 : plainFor (⟨"com/example/nullward/nullward/Elements", "nonNull", "()Z"⟩ : MethodName) = true := plainFor_of_name (show plainName "com/example/nullward/nullward/Elements" = true by first | (simp [plainName, overriddenIn]; done) | decide +kernel)
theorem own_ef8 (m : MethodId) (a1 : Addr) : entryFrame m #[(.ref a1)] 1 = (mkF m 0 #[.val (.ref a1)] []) := by first | (simp [entryFrame, mkF, argsToLocals, Value.category]; done) | rfl
set_option maxRecDepth 65536 in
set_option maxHeartbeats 40000000 in
theorem own_rm8 (l : Launch) (Z : State) (a0 : Array Value) (hw : ∀ d ∈ tables_1, d.before a0 Z = true) (h0 : Heap) (n0 : Nat) (Z0 : n0 ≤ h0.size) (a1 : Addr) (z : Int32) (F_filled_a1 : Fld Z h0 a1 "com/example/nullward/nullward/Elements" "filled" "I" (.int z)) (r : Int32) (hr : r = own_nonNull z) :
    own_C l Z (⟨"com/example/nullward/nullward/Elements", "nonNull", "()Z"⟩ : MethodName) prog_4_method_5_code 1 (some .boolean) [] ({ frames := 0, cells := 0, slots := 0, locals := 0 } : Room) #[(.ref a1)] h0 (own_P (.int r) h0) := by
  refine own_body own_pn8 (f0 := fun m => (mkF m 0 #[.val (.ref a1)] [])) (fun m => own_ef8 m a1) ?_
  intro p e s m below meth c s₁ hx hby hml hown hnm hret hlk hZ X0 e0
  change own_G p e below (own_F (own_P (.int r) h0) s 0 0) s₁ (mkF m 0 #[.val (.ref a1)] [])
  have N0 := Fr.nil n0
  refine own_st (T' := s₁) (g' := (mkF m 1 #[.val (.ref a1)] [(.ref a1)])) (fun t k => XS.aloadN X0.here hx rfl (hb hby own_d8_0) rfl rfl k) ?_
  obtain ⟨T1, X1, e1, st1⟩ := getF X0 hx hZ hown (host := "") (Or.inl (hw _ (List.mem_of_getElem? (i := 20) rfl))) Via.refl e0 F_filled_a1 (g := (mkF m 1 #[.val (.ref a1)] [(.ref a1)])) rfl rfl (hb hby own_d8_1)
  refine own_st (T' := T1) (g' := (mkF m 4 #[.val (.ref a1)] [(.int z)])) st1 ?_
  refine own_st (T' := T1) (g' := (mkF m 6 #[.val (.ref a1)] [(.int (2147483647 : Int32)), (.int z)])) (X1.ldcInt hx hown (mvT hZ (hw _ (List.mem_of_getElem? (i := 54) rfl))) (g := (mkF m 4 #[.val (.ref a1)] [(.int z)])) rfl (hb hby own_d8_4)) ?_
  have K3 : ∀ (v4 : Int32) (hv4 : v4 = (if z = (2147483647 : Int32) then (1 : Int32) else (0 : Int32))), own_G p e below (own_F (own_P (.int r) h0) s 0 0) T1 (mkF m 14 #[.val (.ref a1)] [(.int v4)]) := by
    intro v4 hv4
    exact own_retB X1 hx hlk hret (hb hby own_d8_14) (by decide) (by decide) (own_nar (by rw [hv4]; exact (own_01 (Or.inr rfl) (Or.inl rfl)))) ⟨by rw [hr]; simp [own_nonNull, hv4], e1, rfl⟩
  by_cases hc6_2 : z = (2147483647 : Int32)
  ·
    refine own_st (T' := T1) (g' := (mkF m 9 #[.val (.ref a1)] [])) (fun t k => XS.icmpNo X1.here hx rfl (hb hby own_d8_6) rfl (teq hc6_2).2 k) ?_
    refine own_st (T' := T1) (g' := (mkF m 10 #[.val (.ref a1)] [(.int (1 : Int32))])) (fun t k => XS.iconst X1.here hx rfl (hb hby own_d8_9) k) ?_
    refine own_st (T' := T1) (g' := (mkF m 14 #[.val (.ref a1)] [(.int (1 : Int32))])) (fun t k => XS.goto X1.here hx rfl (pc0 := 10) (pc' := 14) rfl (hb hby own_d8_10) (by decide) (by decide) k) ?_
    exact K3 _ (if_pos hc6_2).symm
  ·
    refine own_st (T' := T1) (g' := (mkF m 13 #[.val (.ref a1)] [])) (fun t k => XS.icmpYes X1.here hx rfl (pc0 := 6) (pc' := 13) rfl (hb hby own_d8_6) rfl (feq hc6_2).2 (by decide) (by decide) k) ?_
    refine own_st (T' := T1) (g' := (mkF m 14 #[.val (.ref a1)] [(.int (0 : Int32))])) (fun t k => XS.iconst X1.here hx rfl (hb hby own_d8_13) k) ?_
    exact K3 _ (if_neg hc6_2).symm
theorem own_d5_0 : decode prog_4_method_6_code 0 = .ok (.aload_n 0, 1) := by decide +kernel
theorem own_d5_1 : decode prog_4_method_6_code 1 = .ok (.getfield 15, 3) := by decide +kernel
theorem own_d5_4 : decode prog_4_method_6_code 4 = .ok (.bipush (-3), 2) := by decide +kernel
theorem own_d5_6 : decode prog_4_method_6_code 6 = .ok (.if_icmp .ne 7, 3) := by decide +kernel
theorem own_d5_9 : decode prog_4_method_6_code 9 = .ok (.iconst 1, 1) := by decide +kernel
theorem own_d5_10 : decode prog_4_method_6_code 10 = .ok (.goto 4, 3) := by decide +kernel
theorem own_d5_13 : decode prog_4_method_6_code 13 = .ok (.iconst 0, 1) := by decide +kernel
theorem own_d5_14 : decode prog_4_method_6_code 14 = .ok (.ireturn, 1) := by decide +kernel
theorem own_pn5 : plainFor (⟨"com/example/nullward/nullward/Elements", "inLoop", "()Z"⟩ : MethodName) = true := plainFor_of_name (show plainName "com/example/nullward/nullward/Elements" = true by first | (simp [plainName, overriddenIn]; done) | decide +kernel)
theorem own_ef5 (m : MethodId) (a1 : Addr) : entryFrame m #[(.ref a1)] 1 = (mkF m 0 #[.val (.ref a1)] []) := by first | (simp [entryFrame, mkF, argsToLocals, Value.category]; done) | rfl
set_option maxRecDepth 65536 in
set_option maxHeartbeats 40000000 in
theorem own_rm5 (l : Launch) (Z : State) (a0 : Array Value) (hw : ∀ d ∈ tables_1, d.before a0 Z = true) (h0 : Heap) (n0 : Nat) (Z0 : n0 ≤ h0.size) (a1 : Addr) (z : Int32) (F_filled_a1 : Fld Z h0 a1 "com/example/nullward/nullward/Elements" "filled" "I" (.int z)) (r : Int32) (hr : r = own_inLoop z) :
    own_C l Z (⟨"com/example/nullward/nullward/Elements", "inLoop", "()Z"⟩ : MethodName) prog_4_method_6_code 1 (some .boolean) [] ({ frames := 0, cells := 0, slots := 0, locals := 0 } : Room) #[(.ref a1)] h0 (own_P (.int r) h0) := by
  refine own_body own_pn5 (f0 := fun m => (mkF m 0 #[.val (.ref a1)] [])) (fun m => own_ef5 m a1) ?_
  intro p e s m below meth c s₁ hx hby hml hown hnm hret hlk hZ X0 e0
  change own_G p e below (own_F (own_P (.int r) h0) s 0 0) s₁ (mkF m 0 #[.val (.ref a1)] [])
  have N0 := Fr.nil n0
  refine own_st (T' := s₁) (g' := (mkF m 1 #[.val (.ref a1)] [(.ref a1)])) (fun t k => XS.aloadN X0.here hx rfl (hb hby own_d5_0) rfl rfl k) ?_
  obtain ⟨T1, X1, e1, st1⟩ := getF X0 hx hZ hown (host := "") (Or.inl (hw _ (List.mem_of_getElem? (i := 20) rfl))) Via.refl e0 F_filled_a1 (g := (mkF m 1 #[.val (.ref a1)] [(.ref a1)])) rfl rfl (hb hby own_d5_1)
  refine own_st (T' := T1) (g' := (mkF m 4 #[.val (.ref a1)] [(.int z)])) st1 ?_
  refine own_st (T' := T1) (g' := (mkF m 6 #[.val (.ref a1)] [(.int (-3 : Int32)), (.int z)])) (fun t k => XS.bipush X1.here hx rfl (hb hby own_d5_4) k) ?_
  have K3 : ∀ (v4 : Int32) (hv4 : v4 = (if z = (-3 : Int32) then (1 : Int32) else (0 : Int32))), own_G p e below (own_F (own_P (.int r) h0) s 0 0) T1 (mkF m 14 #[.val (.ref a1)] [(.int v4)]) := by
    intro v4 hv4
    exact own_retB X1 hx hlk hret (hb hby own_d5_14) (by decide) (by decide) (own_nar (by rw [hv4]; exact (own_01 (Or.inr rfl) (Or.inl rfl)))) ⟨by rw [hr]; simp [own_inLoop, hv4], e1, rfl⟩
  by_cases hc6_2 : z = (-3 : Int32)
  ·
    refine own_st (T' := T1) (g' := (mkF m 9 #[.val (.ref a1)] [])) (fun t k => XS.icmpNo X1.here hx rfl (hb hby own_d5_6) rfl (teq hc6_2).2 k) ?_
    refine own_st (T' := T1) (g' := (mkF m 10 #[.val (.ref a1)] [(.int (1 : Int32))])) (fun t k => XS.iconst X1.here hx rfl (hb hby own_d5_9) k) ?_
    refine own_st (T' := T1) (g' := (mkF m 14 #[.val (.ref a1)] [(.int (1 : Int32))])) (fun t k => XS.goto X1.here hx rfl (pc0 := 10) (pc' := 14) rfl (hb hby own_d5_10) (by decide) (by decide) k) ?_
    exact K3 _ (if_pos hc6_2).symm
  ·
    refine own_st (T' := T1) (g' := (mkF m 13 #[.val (.ref a1)] [])) (fun t k => XS.icmpYes X1.here hx rfl (pc0 := 6) (pc' := 13) rfl (hb hby own_d5_6) rfl (feq hc6_2).2 (by decide) (by decide) k) ?_
    refine own_st (T' := T1) (g' := (mkF m 14 #[.val (.ref a1)] [(.int (0 : Int32))])) (fun t k => XS.iconst X1.here hx rfl (hb hby own_d5_13) k) ?_
    exact K3 _ (if_neg hc6_2).symm
theorem own_pn0 : plainFor x = true := plainFor_of_name (show plainName "com/example/nullward/nullward/ElementsInLoopPinLaw" = true by first | (simp [plainName, overriddenIn]; done) | decide +kernel)
theorem own_ef0 (m : MethodId) (p1 : Int32) (p2 : Int32) (p3 : Int32) (p4 : Int32) (p5 : Int32) (p6 : Int32) : entryFrame m #[(.int p1), (.int p2), (.int p3), (.int p4), (.int p5), (.int p6)] maxLocals = (mkF m 0 #[.val (.int p1), .val (.int p2), .val (.int p3), .val (.int p4), .val (.int p5), .val (.int p6), .unset, .unset, .unset, .unset, .unset, .unset, .unset, .unset, .unset, .unset] []) := by first | (simp [entryFrame, mkF, argsToLocals, Value.category, maxLocals]; done) | rfl
set_option maxRecDepth 65536 in
set_option maxHeartbeats 40000000 in
theorem own_rm0 (l : Launch) (Z : State) (a0 : Array Value) (hw : ∀ d ∈ tables_1, d.before a0 Z = true) (h0 : Heap) (s_UNKNOWN : Addr) (s_NON_NULL : Addr) (s_OF_FIELDS : Addr) (S_UNKNOWN : Sta Z h0 "com/example/nullward/nullward/Elements" "UNKNOWN" "Lcom/example/nullward/nullward/Elements;" (.ref s_UNKNOWN)) (S_NON_NULL : Sta Z h0 "com/example/nullward/nullward/Elements" "NON_NULL" "Lcom/example/nullward/nullward/Elements;" (.ref s_NON_NULL)) (S_OF_FIELDS : Sta Z h0 "com/example/nullward/nullward/Elements" "OF_FIELDS" "Lcom/example/nullward/nullward/Elements;" (.ref s_OF_FIELDS)) (E_UNKNOWN : Exa Z h0 s_UNKNOWN "com/example/nullward/nullward/Elements") (E_NON_NULL : Exa Z h0 s_NON_NULL "com/example/nullward/nullward/Elements") (E_OF_FIELDS : Exa Z h0 s_OF_FIELDS "com/example/nullward/nullward/Elements") (F_filled_s_UNKNOWN : Fld Z h0 s_UNKNOWN "com/example/nullward/nullward/Elements" "filled" "I" (.int (-1 : Int32))) (F_filled_s_NON_NULL : Fld Z h0 s_NON_NULL "com/example/nullward/nullward/Elements" "filled" "I" (.int (2147483647 : Int32))) (F_filled_s_OF_FIELDS : Fld Z h0 s_OF_FIELDS "com/example/nullward/nullward/Elements" "filled" "I" (.int (-2 : Int32))) (n0 : Nat) (Z0 : n0 ≤ h0.size) (p1 : Int32) (p2 : Int32) (p3 : Int32) (p4 : Int32) (p5 : Int32) (p6 : Int32)  :
    own_C l Z x code maxLocals ret tables_1 room_1 #[(.int p1), (.int p2), (.int p3), (.int p4), (.int p5), (.int p6)] h0 (own_qr (.int 1) n0) := by
  refine own_body own_pn0 (f0 := fun m => (mkF m 0 #[.val (.int p1), .val (.int p2), .val (.int p3), .val (.int p4), .val (.int p5), .val (.int p6), .unset, .unset, .unset, .unset, .unset, .unset, .unset, .unset, .unset, .unset] [])) (fun m => own_ef0 m p1 p2 p3 p4 p5 p6) ?_
  intro p e s m below meth c s₁ hx hby hml hown hnm hret hlk hZ X0 e0
  change own_G p e below (own_F (own_qr (.int 1) n0) s room_1.cells room_1.slots) s₁ (mkF m 0 #[.val (.int p1), .val (.int p2), .val (.int p3), .val (.int p4), .val (.int p5), .val (.int p6), .unset, .unset, .unset, .unset, .unset, .unset, .unset, .unset, .unset, .unset] [])
  have N0 := Fr.nil n0
  refine own_st (T' := s₁) (g' := (mkF m 2 #[.val (.int p1), .val (.int p2), .val (.int p3), .val (.int p4), .val (.int p5), .val (.int p6), .unset, .unset, .unset, .unset, .unset, .unset, .unset, .unset, .unset, .unset] [(.int p6)])) (fun t k => XS.iload X0.here hx rfl (hb hby at_0) rfl k) ?_
  refine own_st (T' := s₁) (g' := (mkF m 3 #[.val (.int p1), .val (.int p2), .val (.int p3), .val (.int p4), .val (.int p5), .val (.int p6), .unset, .unset, .unset, .unset, .unset, .unset, .unset, .unset, .unset, .unset] [(.int p2), (.int p6)])) (fun t k => XS.iloadN X0.here hx rfl (hb hby at_2) rfl k) ?_
  obtain ⟨r1, hr1⟩ : ∃ q, q = own_pf (p6 &&& (3 : Int32)) p2 := ⟨_, rfl⟩
  obtain ⟨_, T1, L1, hQ1, X1, st1⟩ := own_callS (y := (⟨"com/example/nullward/nullward/ElementsInLoopPinLaw", "pickFilled", "(II)I"⟩ : MethodName)) (argsL := [(.int p6), (.int p2)]) 0 [] (own_rm1 l Z a0 hw h0 n0 Z0 p6 p2 _ hr1) X0 hx hZ hown (hw _ (List.mem_of_getElem? (i := 0) rfl)) (hw _ (List.mem_of_getElem? (i := 1) rfl)) (hw _ (List.mem_of_getElem? (i := 2) rfl)) (hw _ (List.mem_of_getElem? (i := 3) rfl)) (by decide) (by decide) (by decide) (by decide) (by decide) e0 (g := (mkF m 3 #[.val (.int p1), .val (.int p2), .val (.int p3), .val (.int p4), .val (.int p5), .val (.int p6), .unset, .unset, .unset, .unset, .unset, .unset, .unset, .unset, .unset, .unset] [(.int p2), (.int p6)])) rfl (by rw [hml]; rfl) (lenOf own_pd2 rfl) rfl (by show 2 * 0 + _ ≤ _; exact Nat.le_of_eq rfl) (hb hby at_3)
  obtain ⟨rfl, e1, rfl⟩ := hQ1
  have X1 : Stand p l e room_1 s m #[(.int p1), (.int p2), (.int p3), (.int p4), (.int p5), (.int p6)] below meth c T1 [] 0 0 := X1
  refine own_st (T' := T1) (g' := (mkF m 6 #[.val (.int p1), .val (.int p2), .val (.int p3), .val (.int p4), .val (.int p5), .val (.int p6), .unset, .unset, .unset, .unset, .unset, .unset, .unset, .unset, .unset, .unset] [(.int r1)])) st1 ?_
  refine own_st (T' := T1) (g' := (mkF m 8 #[.val (.int p1), .val (.int p2), .val (.int p3), .val (.int p4), .val (.int p5), .val (.int p6), .val (.int r1), .unset, .unset, .unset, .unset, .unset, .unset, .unset, .unset, .unset] [])) (fun t k => XS.istore X1.here hx rfl (hb hby at_6) rfl (l' := #[.val (.int p1), .val (.int p2), .val (.int p3), .val (.int p4), .val (.int p5), .val (.int p6), .val (.int r1), .unset, .unset, .unset, .unset, .unset, .unset, .unset, .unset, .unset]) rfl k) ?_
  obtain ⟨T2, h2, X2, e2, E2, A2, D2, -, st2⟩ := newO X1 hx hZ hown (hw _ (List.mem_of_getElem? (i := 4) rfl)) (hw _ (List.mem_of_getElem? (i := 5) rfl)) (hw _ (List.mem_of_getElem? (i := 6) rfl)) e1 (g := (mkF m 8 #[.val (.int p1), .val (.int p2), .val (.int p3), .val (.int p4), .val (.int p5), .val (.int p6), .val (.int r1), .unset, .unset, .unset, .unset, .unset, .unset, .unset, .unset, .unset] [])) rfl (hb hby at_8) (by decide) (by decide)
  obtain ⟨b2, gb2⟩ : ∃ z, z = h0.size := ⟨_, rfl⟩
  rw [← gb2] at A2 D2 st2
  have ne_s_UNKNOWN_b2 : s_UNKNOWN ≠ b2 := by rw [gb2]; exact Nat.ne_of_lt E_UNKNOWN.lt
  have ne_s_NON_NULL_b2 : s_NON_NULL ≠ b2 := by rw [gb2]; exact Nat.ne_of_lt E_NON_NULL.lt
  have ne_s_OF_FIELDS_b2 : s_OF_FIELDS ≠ b2 := by rw [gb2]; exact Nat.ne_of_lt E_OF_FIELDS.lt
  have g_b2 : n0 ≤ b2 := Nat.le_trans Z0 (Nat.le_of_eq gb2.symm)
  have Z2 : n0 ≤ h2.size := Nat.le_trans Z0 E2.1
  have S_UNKNOWN := S_UNKNOWN.ext E2
  have E_UNKNOWN := E_UNKNOWN.ext E2
  have S_NON_NULL := S_NON_NULL.ext E2
  have E_NON_NULL := E_NON_NULL.ext E2
  have S_OF_FIELDS := S_OF_FIELDS.ext E2
  have E_OF_FIELDS := E_OF_FIELDS.ext E2
  have F_filled_s_UNKNOWN := F_filled_s_UNKNOWN.ext E2
  have F_filled_s_NON_NULL := F_filled_s_NON_NULL.ext E2
  have F_filled_s_OF_FIELDS := F_filled_s_OF_FIELDS.ext E2
  have E_b2 := A2
  have F_length_b2 : Fld Z h2 b2 "com/example/nullward/nullward/Elements" "length" "I" (.int (0 : Int32)) := D2 (Or.inr (hw _ (List.mem_of_getElem? (i := 19) rfl))) (ty := .int) (by decide)
  have F_filled_b2 : Fld Z h2 b2 "com/example/nullward/nullward/Elements" "filled" "I" (.int (0 : Int32)) := D2 (Or.inr (hw _ (List.mem_of_getElem? (i := 21) rfl))) (ty := .int) (by decide)
  have F_lengthLocal_b2 : Fld Z h2 b2 "com/example/nullward/nullward/Elements" "lengthLocal" "I" (.int (0 : Int32)) := D2 (Or.inr (hw _ (List.mem_of_getElem? (i := 23) rfl))) (ty := .int) (by decide)
  have F_indexLocal_b2 : Fld Z h2 b2 "com/example/nullward/nullward/Elements" "indexLocal" "I" (.int (0 : Int32)) := D2 (Or.inr (hw _ (List.mem_of_getElem? (i := 25) rfl))) (ty := .int) (by decide)
  have F_past_b2 : Fld Z h2 b2 "com/example/nullward/nullward/Elements" "past" "I" (.int (0 : Int32)) := D2 (Or.inr (hw _ (List.mem_of_getElem? (i := 27) rfl))) (ty := .int) (by decide)
  have X2 : Stand p l e room_1 s m #[(.int p1), (.int p2), (.int p3), (.int p4), (.int p5), (.int p6)] below meth c T2 [] 1 5 := X2
  refine own_st (T' := T2) (g' := (mkF m 11 #[.val (.int p1), .val (.int p2), .val (.int p3), .val (.int p4), .val (.int p5), .val (.int p6), .val (.int r1), .unset, .unset, .unset, .unset, .unset, .unset, .unset, .unset, .unset] [(.ref b2)])) st2 ?_
  refine own_st (T' := T2) (g' := (mkF m 12 #[.val (.int p1), .val (.int p2), .val (.int p3), .val (.int p4), .val (.int p5), .val (.int p6), .val (.int r1), .unset, .unset, .unset, .unset, .unset, .unset, .unset, .unset, .unset] [(.ref b2), (.ref b2)])) (fun t k => XS.dup X2.here hx rfl (hb hby at_11) rfl rfl k) ?_
  refine own_st (T' := T2) (g' := (mkF m 13 #[.val (.int p1), .val (.int p2), .val (.int p3), .val (.int p4), .val (.int p5), .val (.int p6), .val (.int r1), .unset, .unset, .unset, .unset, .unset, .unset, .unset, .unset, .unset] [(.int p1), (.ref b2), (.ref b2)])) (fun t k => XS.iloadN X2.here hx rfl (hb hby at_12) rfl k) ?_
  refine own_st (T' := T2) (g' := (mkF m 15 #[.val (.int p1), .val (.int p2), .val (.int p3), .val (.int p4), .val (.int p5), .val (.int p6), .val (.int r1), .unset, .unset, .unset, .unset, .unset, .unset, .unset, .unset, .unset] [(.int r1), (.int p1), (.ref b2), (.ref b2)])) (fun t k => XS.iload X2.here hx rfl (hb hby at_13) rfl k) ?_
  refine own_st (T' := T2) (g' := (mkF m 16 #[.val (.int p1), .val (.int p2), .val (.int p3), .val (.int p4), .val (.int p5), .val (.int p6), .val (.int r1), .unset, .unset, .unset, .unset, .unset, .unset, .unset, .unset, .unset] [(.int p3), (.int r1), (.int p1), (.ref b2), (.ref b2)])) (fun t k => XS.iloadN X2.here hx rfl (hb hby at_15) rfl k) ?_
  refine own_st (T' := T2) (g' := (mkF m 17 #[.val (.int p1), .val (.int p2), .val (.int p3), .val (.int p4), .val (.int p5), .val (.int p6), .val (.int r1), .unset, .unset, .unset, .unset, .unset, .unset, .unset, .unset, .unset] [(.int p4), (.int p3), (.int r1), (.int p1), (.ref b2), (.ref b2)])) (fun t k => XS.iloadN X2.here hx rfl (hb hby at_16) rfl k) ?_
  refine own_st (T' := T2) (g' := (mkF m 19 #[.val (.int p1), .val (.int p2), .val (.int p3), .val (.int p4), .val (.int p5), .val (.int p6), .val (.int r1), .unset, .unset, .unset, .unset, .unset, .unset, .unset, .unset, .unset] [(.int p5), (.int p4), (.int p3), (.int r1), (.int p1), (.ref b2), (.ref b2)])) (fun t k => XS.iload X2.here hx rfl (hb hby at_17) rfl k) ?_
  obtain ⟨_, T3, L3, hQ3, X3, st3⟩ := own_callI (y := (⟨"com/example/nullward/nullward/Elements", "<init>", "(IIIII)V"⟩ : MethodName)) (argsL := [(.int p1), (.int r1), (.int p3), (.int p4), (.int p5)]) 1 [(.ref b2)] (own_rm2 l Z a0 hw h2 n0 Z2 b2 p1 r1 p3 p4 p5 E_b2 g_b2 _ F_length_b2 _ F_filled_b2 _ F_lengthLocal_b2 _ F_indexLocal_b2 _ F_past_b2) X2 hx hZ hown rfl (hw _ (List.mem_of_getElem? (i := 7) rfl)) (hw _ (List.mem_of_getElem? (i := 8) rfl)) (hw _ (List.mem_of_getElem? (i := 9) rfl)) (hw _ (List.mem_of_getElem? (i := 6) rfl)) (by decide) (by decide) (by decide) (by decide) (by decide) e2 (g := (mkF m 19 #[.val (.int p1), .val (.int p2), .val (.int p3), .val (.int p4), .val (.int p5), .val (.int p6), .val (.int r1), .unset, .unset, .unset, .unset, .unset, .unset, .unset, .unset, .unset] [(.int p5), (.int p4), (.int p3), (.int r1), (.int p1), (.ref b2), (.ref b2)])) rfl (by rw [hml]; rfl) (lenOf own_pd1 rfl) rfl (by show 2 * 0 + _ ≤ _; exact Nat.le_of_eq rfl) (hb hby at_19)
  obtain ⟨rfl, N3q, Kq3, E_b2, F_length_b2, F_filled_b2, F_lengthLocal_b2, F_indexLocal_b2, F_past_b2⟩ := hQ3
  have Z3 : n0 ≤ T3.heap.size := Nat.le_trans Z2 Kq3.1
  have S_UNKNOWN := own_sta_keep S_UNKNOWN Kq3 (allS (own_plain E_b2) all0)
  have E_UNKNOWN := E_UNKNOWN.keep Kq3
  have S_NON_NULL := own_sta_keep S_NON_NULL Kq3 (allS (own_plain E_b2) all0)
  have E_NON_NULL := E_NON_NULL.keep Kq3
  have S_OF_FIELDS := own_sta_keep S_OF_FIELDS Kq3 (allS (own_plain E_b2) all0)
  have E_OF_FIELDS := E_OF_FIELDS.keep Kq3
  have F_filled_s_UNKNOWN := F_filled_s_UNKNOWN.keep Kq3 (ninS ne_s_UNKNOWN_b2 nin0)
  have F_filled_s_NON_NULL := F_filled_s_NON_NULL.keep Kq3 (ninS ne_s_NON_NULL_b2 nin0)
  have F_filled_s_OF_FIELDS := F_filled_s_OF_FIELDS.keep Kq3 (ninS ne_s_OF_FIELDS_b2 nin0)
  have N3 := Fr.app N0 N3q
  generalize hlc3 : ([] ++ L3 : List Loc) = lc3 at X3 N3
  have X3 : Stand p l e room_1 s m #[(.int p1), (.int p2), (.int p3), (.int p4), (.int p5), (.int p6)] below meth c T3 lc3 1 5 := X3
  refine own_st (T' := T3) (g' := (mkF m 22 #[.val (.int p1), .val (.int p2), .val (.int p3), .val (.int p4), .val (.int p5), .val (.int p6), .val (.int r1), .unset, .unset, .unset, .unset, .unset, .unset, .unset, .unset, .unset] [(.ref b2)])) st3 ?_
  refine own_st (T' := T3) (g' := (mkF m 24 #[.val (.int p1), .val (.int p2), .val (.int p3), .val (.int p4), .val (.int p5), .val (.int p6), .val (.int r1), .val (.ref b2), .unset, .unset, .unset, .unset, .unset, .unset, .unset, .unset] [])) (fun t k => XS.astore X3.here hx rfl (hb hby at_22) rfl rfl (l' := #[.val (.int p1), .val (.int p2), .val (.int p3), .val (.int p4), .val (.int p5), .val (.int p6), .val (.int r1), .val (.ref b2), .unset, .unset, .unset, .unset, .unset, .unset, .unset, .unset]) rfl k) ?_
  refine own_st (T' := T3) (g' := (mkF m 26 #[.val (.int p1), .val (.int p2), .val (.int p3), .val (.int p4), .val (.int p5), .val (.int p6), .val (.int r1), .val (.ref b2), .unset, .unset, .unset, .unset, .unset, .unset, .unset, .unset] [(.ref b2)])) (fun t k => XS.aload X3.here hx rfl (hb hby at_24) rfl rfl k) ?_
  obtain ⟨r4, hr4⟩ : ∃ q, q = own_inLoop r1 := ⟨_, rfl⟩
  obtain ⟨_, T4, L4, hQ4, X4, st4⟩ := own_callV (y := (⟨"com/example/nullward/nullward/Elements", "inLoop", "()Z"⟩ : MethodName)) (z := (⟨"com/example/nullward/nullward/Elements", "inLoop", "()Z"⟩ : MethodName)) (argsL := []) 0 [] (K := "com/example/nullward/nullward/Elements") (own_rm5 l Z a0 hw T3.heap n0 Z3 b2 r1 F_filled_b2 _ hr4) X3 hx hZ hown (hw _ (List.mem_of_getElem? (i := 28) rfl)) (hw _ (List.mem_of_getElem? (i := 29) rfl)) (notFace_of_selects (args := #[]) (mvT hZ (hw _ (List.mem_of_getElem? (i := 31) rfl)))) (hw _ (List.mem_of_getElem? (i := 31) rfl)) (hw _ (List.mem_of_getElem? (i := 30) rfl)) (hw _ (List.mem_of_getElem? (i := 32) rfl)) (hw _ (List.mem_of_getElem? (i := 6) rfl)) (by decide) (by decide) (by decide) (by decide) (by decide) rfl E_b2 (g := (mkF m 26 #[.val (.int p1), .val (.int p2), .val (.int p3), .val (.int p4), .val (.int p5), .val (.int p6), .val (.int r1), .val (.ref b2), .unset, .unset, .unset, .unset, .unset, .unset, .unset, .unset] [(.ref b2)])) rfl (by rw [hml]; rfl) (lenOf own_pd3 rfl) rfl (by show 2 * 0 + _ ≤ _; exact Nat.le_of_eq rfl) (hb hby at_26)
  obtain ⟨rfl, e4, rfl⟩ := hQ4
  have X4 : Stand p l e room_1 s m #[(.int p1), (.int p2), (.int p3), (.int p4), (.int p5), (.int p6)] below meth c T4 lc3 1 5 := by have := X4; rwa [List.append_nil] at this
  refine own_st (T' := T4) (g' := (mkF m 29 #[.val (.int p1), .val (.int p2), .val (.int p3), .val (.int p4), .val (.int p5), .val (.int p6), .val (.int r1), .val (.ref b2), .unset, .unset, .unset, .unset, .unset, .unset, .unset, .unset] [(.int r4)])) st4 ?_
  refine own_st (T' := T4) (g' := (mkF m 31 #[.val (.int p1), .val (.int p2), .val (.int p3), .val (.int p4), .val (.int p5), .val (.int p6), .val (.int r1), .val (.ref b2), .val (.int r4), .unset, .unset, .unset, .unset, .unset, .unset, .unset] [])) (fun t k => XS.istore X4.here hx rfl (hb hby at_29) rfl (l' := #[.val (.int p1), .val (.int p2), .val (.int p3), .val (.int p4), .val (.int p5), .val (.int p6), .val (.int r1), .val (.ref b2), .val (.int r4), .unset, .unset, .unset, .unset, .unset, .unset, .unset]) rfl k) ?_
  refine own_st (T' := T4) (g' := (mkF m 33 #[.val (.int p1), .val (.int p2), .val (.int p3), .val (.int p4), .val (.int p5), .val (.int p6), .val (.int r1), .val (.ref b2), .val (.int r4), .unset, .unset, .unset, .unset, .unset, .unset, .unset] [(.int r4)])) (fun t k => XS.iload X4.here hx rfl (hb hby at_31) rfl k) ?_
  refine own_st (T' := T4) (g' := (mkF m 35 #[.val (.int p1), .val (.int p2), .val (.int p3), .val (.int p4), .val (.int p5), .val (.int p6), .val (.int r1), .val (.ref b2), .val (.int r4), .unset, .unset, .unset, .unset, .unset, .unset, .unset] [(.int r1), (.int r4)])) (fun t k => XS.iload X4.here hx rfl (hb hby at_33) rfl k) ?_
  refine own_st (T' := T4) (g' := (mkF m 37 #[.val (.int p1), .val (.int p2), .val (.int p3), .val (.int p4), .val (.int p5), .val (.int p6), .val (.int r1), .val (.ref b2), .val (.int r4), .unset, .unset, .unset, .unset, .unset, .unset, .unset] [(.int (-3 : Int32)), (.int r1), (.int r4)])) (fun t k => XS.bipush X4.here hx rfl (hb hby at_35) k) ?_
  have K6 : ∀ (v7 : Int32) (hv7 : v7 = (if r1 = (-3 : Int32) then (1 : Int32) else (0 : Int32))), own_G p e below (own_F (own_qr (.int 1) n0) s room_1.cells room_1.slots) T4 (mkF m 45 #[.val (.int p1), .val (.int p2), .val (.int p3), .val (.int p4), .val (.int p5), .val (.int p6), .val (.int r1), .val (.ref b2), .val (.int r4), .unset, .unset, .unset, .unset, .unset, .unset, .unset] [(.int v7), (.int r4)]) := by
    intro v7 hv7
    have hk8 : r4 = v7 := by rw [hr4, hv7]; rfl
    refine own_st (T' := T4) (g' := (mkF m 48 #[.val (.int p1), .val (.int p2), .val (.int p3), .val (.int p4), .val (.int p5), .val (.int p6), .val (.int r1), .val (.ref b2), .val (.int r4), .unset, .unset, .unset, .unset, .unset, .unset, .unset] [])) (fun t k => XS.icmpNo X4.here hx rfl (hb hby at_45) rfl (teq hk8).2 k) ?_
    refine own_st (T' := T4) (g' := (mkF m 49 #[.val (.int p1), .val (.int p2), .val (.int p3), .val (.int p4), .val (.int p5), .val (.int p6), .val (.int r1), .val (.ref b2), .val (.int r4), .unset, .unset, .unset, .unset, .unset, .unset, .unset] [(.int (1 : Int32))])) (fun t k => XS.iconst X4.here hx rfl (hb hby at_48) k) ?_
    refine own_st (T' := T4) (g' := (mkF m 53 #[.val (.int p1), .val (.int p2), .val (.int p3), .val (.int p4), .val (.int p5), .val (.int p6), .val (.int r1), .val (.ref b2), .val (.int r4), .unset, .unset, .unset, .unset, .unset, .unset, .unset] [(.int (1 : Int32))])) (fun t k => XS.goto X4.here hx rfl (pc0 := 49) (pc' := 53) rfl (hb hby at_49) (by decide) (by decide) k) ?_
    refine own_st (T' := T4) (g' := (mkF m 55 #[.val (.int p1), .val (.int p2), .val (.int p3), .val (.int p4), .val (.int p5), .val (.int p6), .val (.int r1), .val (.ref b2), .val (.int r4), .val (.int (1 : Int32)), .unset, .unset, .unset, .unset, .unset, .unset] [])) (fun t k => XS.istore X4.here hx rfl (hb hby at_53) rfl (l' := #[.val (.int p1), .val (.int p2), .val (.int p3), .val (.int p4), .val (.int p5), .val (.int p6), .val (.int r1), .val (.ref b2), .val (.int r4), .val (.int (1 : Int32)), .unset, .unset, .unset, .unset, .unset, .unset]) rfl k) ?_
    refine own_st (T' := T4) (g' := (mkF m 57 #[.val (.int p1), .val (.int p2), .val (.int p3), .val (.int p4), .val (.int p5), .val (.int p6), .val (.int r1), .val (.ref b2), .val (.int r4), .val (.int (1 : Int32)), .unset, .unset, .unset, .unset, .unset, .unset] [(.int r4)])) (fun t k => XS.iload X4.here hx rfl (hb hby at_55) rfl k) ?_
    have K10 : ∀ (T10 : State) (X10 : Stand p l e room_1 s m #[(.int p1), (.int p2), (.int p3), (.int p4), (.int p5), (.int p6)] below meth c T10 lc3 1 5) (e10 : T10.heap = T3.heap), own_G p e below (own_F (own_qr (.int 1) n0) s room_1.cells room_1.slots) T10 (mkF m 73 #[.val (.int p1), .val (.int p2), .val (.int p3), .val (.int p4), .val (.int p5), .val (.int p6), .val (.int r1), .val (.ref b2), .val (.int r4), .val (.int (1 : Int32)), .unset, .unset, .unset, .unset, .unset, .unset] [(.int (1 : Int32))]) := by
      intro T10 X10 e10
      refine own_st (T' := T10) (g' := (mkF m 75 #[.val (.int p1), .val (.int p2), .val (.int p3), .val (.int p4), .val (.int p5), .val (.int p6), .val (.int r1), .val (.ref b2), .val (.int r4), .val (.int (1 : Int32)), .val (.int (1 : Int32)), .unset, .unset, .unset, .unset, .unset] [])) (fun t k => XS.istore X10.here hx rfl (hb hby at_73) rfl (l' := #[.val (.int p1), .val (.int p2), .val (.int p3), .val (.int p4), .val (.int p5), .val (.int p6), .val (.int r1), .val (.ref b2), .val (.int r4), .val (.int (1 : Int32)), .val (.int (1 : Int32)), .unset, .unset, .unset, .unset, .unset]) rfl k) ?_
      refine own_st (T' := T10) (g' := (mkF m 76 #[.val (.int p1), .val (.int p2), .val (.int p3), .val (.int p4), .val (.int p5), .val (.int p6), .val (.int r1), .val (.ref b2), .val (.int r4), .val (.int (1 : Int32)), .val (.int (1 : Int32)), .unset, .unset, .unset, .unset, .unset] [(.int p3)])) (fun t k => XS.iloadN X10.here hx rfl (hb hby at_75) rfl k) ?_
      obtain ⟨_, T11, L11, hQ11, X11, st11⟩ := own_callS (y := (⟨"com/example/nullward/nullward/Elements", "ofLengthIn", "(I)Lcom/example/nullward/nullward/Elements;"⟩ : MethodName)) (argsL := [(.int p3)]) 0 [] (own_rm6 l Z a0 hw T3.heap n0 Z3 p3 ) X10 hx hZ hown (hw _ (List.mem_of_getElem? (i := 33) rfl)) (hw _ (List.mem_of_getElem? (i := 34) rfl)) (hw _ (List.mem_of_getElem? (i := 6) rfl)) (hw _ (List.mem_of_getElem? (i := 35) rfl)) (by decide) (by decide) (by decide) (by decide) (by decide) e10 (g := (mkF m 76 #[.val (.int p1), .val (.int p2), .val (.int p3), .val (.int p4), .val (.int p5), .val (.int p6), .val (.int r1), .val (.ref b2), .val (.int r4), .val (.int (1 : Int32)), .val (.int (1 : Int32)), .unset, .unset, .unset, .unset, .unset] [(.int p3)])) rfl (by rw [hml]; rfl) (lenOf own_pd4 rfl) rfl (by show 2 * 0 + _ ≤ _; exact Nat.le_of_eq rfl) (hb hby at_76)
      obtain ⟨o11, rfl, N11q, Eq11, sz_o11, E_o11, F_length_o11, F_filled_o11, F_lengthLocal_o11, F_indexLocal_o11, F_past_o11⟩ := hQ11
      have Z11 : n0 ≤ T11.heap.size := Nat.le_trans Z3 Eq11.1
      have S_UNKNOWN := S_UNKNOWN.ext Eq11
      have E_UNKNOWN := E_UNKNOWN.ext Eq11
      have S_NON_NULL := S_NON_NULL.ext Eq11
      have E_NON_NULL := E_NON_NULL.ext Eq11
      have S_OF_FIELDS := S_OF_FIELDS.ext Eq11
      have E_OF_FIELDS := E_OF_FIELDS.ext Eq11
      have F_filled_s_UNKNOWN := F_filled_s_UNKNOWN.ext Eq11
      have F_filled_s_NON_NULL := F_filled_s_NON_NULL.ext Eq11
      have F_filled_s_OF_FIELDS := F_filled_s_OF_FIELDS.ext Eq11
      have E_b2 := E_b2.ext Eq11
      have F_length_b2 := F_length_b2.ext Eq11
      have F_filled_b2 := F_filled_b2.ext Eq11
      have F_lengthLocal_b2 := F_lengthLocal_b2.ext Eq11
      have F_indexLocal_b2 := F_indexLocal_b2.ext Eq11
      have F_past_b2 := F_past_b2.ext Eq11
      have N11 := Fr.app N3 N11q
      generalize hlc11 : (lc3 ++ L11 : List Loc) = lc11 at X11 N11
      have X11 : Stand p l e room_1 s m #[(.int p1), (.int p2), (.int p3), (.int p4), (.int p5), (.int p6)] below meth c T11 lc11 2 10 := X11
      refine own_st (T' := T11) (g' := (mkF m 79 #[.val (.int p1), .val (.int p2), .val (.int p3), .val (.int p4), .val (.int p5), .val (.int p6), .val (.int r1), .val (.ref b2), .val (.int r4), .val (.int (1 : Int32)), .val (.int (1 : Int32)), .unset, .unset, .unset, .unset, .unset] [(.ref o11)])) st11 ?_
      refine own_st (T' := T11) (g' := (mkF m 81 #[.val (.int p1), .val (.int p2), .val (.int p3), .val (.int p4), .val (.int p5), .val (.int p6), .val (.int r1), .val (.ref b2), .val (.int r4), .val (.int (1 : Int32)), .val (.int (1 : Int32)), .val (.ref o11), .unset, .unset, .unset, .unset] [])) (fun t k => XS.astore X11.here hx rfl (hb hby at_79) rfl rfl (l' := #[.val (.int p1), .val (.int p2), .val (.int p3), .val (.int p4), .val (.int p5), .val (.int p6), .val (.int r1), .val (.ref b2), .val (.int r4), .val (.int (1 : Int32)), .val (.int (1 : Int32)), .val (.ref o11), .unset, .unset, .unset, .unset]) rfl k) ?_
      refine own_st (T' := T11) (g' := (mkF m 83 #[.val (.int p1), .val (.int p2), .val (.int p3), .val (.int p4), .val (.int p5), .val (.int p6), .val (.int r1), .val (.ref b2), .val (.int r4), .val (.int (1 : Int32)), .val (.int (1 : Int32)), .val (.ref o11), .unset, .unset, .unset, .unset] [(.ref o11)])) (fun t k => XS.aload X11.here hx rfl (hb hby at_81) rfl rfl k) ?_
      obtain ⟨r12, hr12⟩ : ∃ q, q = own_inLoop (-3 : Int32) := ⟨_, rfl⟩
      obtain ⟨_, T12, L12, hQ12, X12, st12⟩ := own_callV (y := (⟨"com/example/nullward/nullward/Elements", "inLoop", "()Z"⟩ : MethodName)) (z := (⟨"com/example/nullward/nullward/Elements", "inLoop", "()Z"⟩ : MethodName)) (argsL := []) 0 [] (K := "com/example/nullward/nullward/Elements") (own_rm5 l Z a0 hw T11.heap n0 Z11 o11 (-3 : Int32) F_filled_o11 _ hr12) X11 hx hZ hown (hw _ (List.mem_of_getElem? (i := 28) rfl)) (hw _ (List.mem_of_getElem? (i := 29) rfl)) (notFace_of_selects (args := #[]) (mvT hZ (hw _ (List.mem_of_getElem? (i := 31) rfl)))) (hw _ (List.mem_of_getElem? (i := 31) rfl)) (hw _ (List.mem_of_getElem? (i := 30) rfl)) (hw _ (List.mem_of_getElem? (i := 32) rfl)) (hw _ (List.mem_of_getElem? (i := 6) rfl)) (by decide) (by decide) (by decide) (by decide) (by decide) rfl E_o11 (g := (mkF m 83 #[.val (.int p1), .val (.int p2), .val (.int p3), .val (.int p4), .val (.int p5), .val (.int p6), .val (.int r1), .val (.ref b2), .val (.int r4), .val (.int (1 : Int32)), .val (.int (1 : Int32)), .val (.ref o11), .unset, .unset, .unset, .unset] [(.ref o11)])) rfl (by rw [hml]; rfl) (lenOf own_pd3 rfl) rfl (by show 2 * 0 + _ ≤ _; exact Nat.le_of_eq rfl) (hb hby at_83)
      obtain ⟨rfl, e12, rfl⟩ := hQ12
      have X12 : Stand p l e room_1 s m #[(.int p1), (.int p2), (.int p3), (.int p4), (.int p5), (.int p6)] below meth c T12 lc11 2 10 := by have := X12; rwa [List.append_nil] at this
      refine own_st (T' := T12) (g' := (mkF m 86 #[.val (.int p1), .val (.int p2), .val (.int p3), .val (.int p4), .val (.int p5), .val (.int p6), .val (.int r1), .val (.ref b2), .val (.int r4), .val (.int (1 : Int32)), .val (.int (1 : Int32)), .val (.ref o11), .unset, .unset, .unset, .unset] [(.int r12)])) st12 ?_
      refine own_st (T' := T12) (g' := (mkF m 88 #[.val (.int p1), .val (.int p2), .val (.int p3), .val (.int p4), .val (.int p5), .val (.int p6), .val (.int r1), .val (.ref b2), .val (.int r4), .val (.int (1 : Int32)), .val (.int (1 : Int32)), .val (.ref o11), .val (.int r12), .unset, .unset, .unset] [])) (fun t k => XS.istore X12.here hx rfl (hb hby at_86) rfl (l' := #[.val (.int p1), .val (.int p2), .val (.int p3), .val (.int p4), .val (.int p5), .val (.int p6), .val (.int r1), .val (.ref b2), .val (.int r4), .val (.int (1 : Int32)), .val (.int (1 : Int32)), .val (.ref o11), .val (.int r12), .unset, .unset, .unset]) rfl k) ?_
      refine own_st (T' := T12) (g' := (mkF m 90 #[.val (.int p1), .val (.int p2), .val (.int p3), .val (.int p4), .val (.int p5), .val (.int p6), .val (.int r1), .val (.ref b2), .val (.int r4), .val (.int (1 : Int32)), .val (.int (1 : Int32)), .val (.ref o11), .val (.int r12), .unset, .unset, .unset] [(.ref o11)])) (fun t k => XS.aload X12.here hx rfl (hb hby at_88) rfl rfl k) ?_
      refine own_st (T' := T12) (g' := (mkF m 91 #[.val (.int p1), .val (.int p2), .val (.int p3), .val (.int p4), .val (.int p5), .val (.int p6), .val (.int r1), .val (.ref b2), .val (.int r4), .val (.int (1 : Int32)), .val (.int (1 : Int32)), .val (.ref o11), .val (.int r12), .unset, .unset, .unset] [(.int p4), (.ref o11)])) (fun t k => XS.iloadN X12.here hx rfl (hb hby at_90) rfl k) ?_
      refine own_st (T' := T12) (g' := (mkF m 93 #[.val (.int p1), .val (.int p2), .val (.int p3), .val (.int p4), .val (.int p5), .val (.int p6), .val (.int r1), .val (.ref b2), .val (.int r4), .val (.int (1 : Int32)), .val (.int (1 : Int32)), .val (.ref o11), .val (.int r12), .unset, .unset, .unset] [(.int p5), (.int p4), (.ref o11)])) (fun t k => XS.iload X12.here hx rfl (hb hby at_91) rfl k) ?_
      obtain ⟨_, T13, L13, hQ13, X13, st13⟩ := own_callV (y := (⟨"com/example/nullward/nullward/Elements", "below", "(II)Lcom/example/nullward/nullward/Elements;"⟩ : MethodName)) (z := (⟨"com/example/nullward/nullward/Elements", "below", "(II)Lcom/example/nullward/nullward/Elements;"⟩ : MethodName)) (argsL := [(.int p4), (.int p5)]) 0 [] (K := "com/example/nullward/nullward/Elements") (own_rm7 l Z a0 hw T11.heap n0 Z11 o11 p4 p5 p3 F_lengthLocal_o11) X12 hx hZ hown (hw _ (List.mem_of_getElem? (i := 38) rfl)) (hw _ (List.mem_of_getElem? (i := 39) rfl)) (notFace_of_selects (args := #[]) (mvT hZ (hw _ (List.mem_of_getElem? (i := 41) rfl)))) (hw _ (List.mem_of_getElem? (i := 41) rfl)) (hw _ (List.mem_of_getElem? (i := 40) rfl)) (hw _ (List.mem_of_getElem? (i := 42) rfl)) (hw _ (List.mem_of_getElem? (i := 6) rfl)) (by decide) (by decide) (by decide) (by decide) (by decide) e12 E_o11 (g := (mkF m 93 #[.val (.int p1), .val (.int p2), .val (.int p3), .val (.int p4), .val (.int p5), .val (.int p6), .val (.int r1), .val (.ref b2), .val (.int r4), .val (.int (1 : Int32)), .val (.int (1 : Int32)), .val (.ref o11), .val (.int r12), .unset, .unset, .unset] [(.int p5), (.int p4), (.ref o11)])) rfl (by rw [hml]; rfl) (lenOf own_pd5 rfl) rfl (by show 2 * 0 + _ ≤ _; exact Nat.le_of_eq rfl) (hb hby at_93)
      obtain ⟨o13, rfl, N13q, Eq13, sz_o13, E_o13, F_length_o13, F_filled_o13, F_lengthLocal_o13, F_indexLocal_o13, F_past_o13⟩ := hQ13
      have Z13 : n0 ≤ T13.heap.size := Nat.le_trans Z11 Eq13.1
      have S_UNKNOWN := S_UNKNOWN.ext Eq13
      have E_UNKNOWN := E_UNKNOWN.ext Eq13
      have S_NON_NULL := S_NON_NULL.ext Eq13
      have E_NON_NULL := E_NON_NULL.ext Eq13
      have S_OF_FIELDS := S_OF_FIELDS.ext Eq13
      have E_OF_FIELDS := E_OF_FIELDS.ext Eq13
      have F_filled_s_UNKNOWN := F_filled_s_UNKNOWN.ext Eq13
      have F_filled_s_NON_NULL := F_filled_s_NON_NULL.ext Eq13
      have F_filled_s_OF_FIELDS := F_filled_s_OF_FIELDS.ext Eq13
      have E_b2 := E_b2.ext Eq13
      have F_length_b2 := F_length_b2.ext Eq13
      have F_filled_b2 := F_filled_b2.ext Eq13
      have F_lengthLocal_b2 := F_lengthLocal_b2.ext Eq13
      have F_indexLocal_b2 := F_indexLocal_b2.ext Eq13
      have F_past_b2 := F_past_b2.ext Eq13
      have E_o11 := E_o11.ext Eq13
      have F_length_o11 := F_length_o11.ext Eq13
      have F_filled_o11 := F_filled_o11.ext Eq13
      have F_lengthLocal_o11 := F_lengthLocal_o11.ext Eq13
      have F_indexLocal_o11 := F_indexLocal_o11.ext Eq13
      have F_past_o11 := F_past_o11.ext Eq13
      have N13 := Fr.app N11 N13q
      generalize hlc13 : (lc11 ++ L13 : List Loc) = lc13 at X13 N13
      have X13 : Stand p l e room_1 s m #[(.int p1), (.int p2), (.int p3), (.int p4), (.int p5), (.int p6)] below meth c T13 lc13 3 15 := X13
      refine own_st (T' := T13) (g' := (mkF m 96 #[.val (.int p1), .val (.int p2), .val (.int p3), .val (.int p4), .val (.int p5), .val (.int p6), .val (.int r1), .val (.ref b2), .val (.int r4), .val (.int (1 : Int32)), .val (.int (1 : Int32)), .val (.ref o11), .val (.int r12), .unset, .unset, .unset] [(.ref o13)])) st13 ?_
      refine own_st (T' := T13) (g' := (mkF m 98 #[.val (.int p1), .val (.int p2), .val (.int p3), .val (.int p4), .val (.int p5), .val (.int p6), .val (.int r1), .val (.ref b2), .val (.int r4), .val (.int (1 : Int32)), .val (.int (1 : Int32)), .val (.ref o11), .val (.int r12), .val (.ref o13), .unset, .unset] [])) (fun t k => XS.astore X13.here hx rfl (hb hby at_96) rfl rfl (l' := #[.val (.int p1), .val (.int p2), .val (.int p3), .val (.int p4), .val (.int p5), .val (.int p6), .val (.int r1), .val (.ref b2), .val (.int r4), .val (.int (1 : Int32)), .val (.int (1 : Int32)), .val (.ref o11), .val (.int r12), .val (.ref o13), .unset, .unset]) rfl k) ?_
      refine own_st (T' := T13) (g' := (mkF m 100 #[.val (.int p1), .val (.int p2), .val (.int p3), .val (.int p4), .val (.int p5), .val (.int p6), .val (.int r1), .val (.ref b2), .val (.int r4), .val (.int (1 : Int32)), .val (.int (1 : Int32)), .val (.ref o11), .val (.int r12), .val (.ref o13), .unset, .unset] [(.ref o13)])) (fun t k => XS.aload X13.here hx rfl (hb hby at_98) rfl rfl k) ?_
      obtain ⟨r14, hr14⟩ : ∃ q, q = own_inLoop (-3 : Int32) := ⟨_, rfl⟩
      obtain ⟨_, T14, L14, hQ14, X14, st14⟩ := own_callV (y := (⟨"com/example/nullward/nullward/Elements", "inLoop", "()Z"⟩ : MethodName)) (z := (⟨"com/example/nullward/nullward/Elements", "inLoop", "()Z"⟩ : MethodName)) (argsL := []) 0 [] (K := "com/example/nullward/nullward/Elements") (own_rm5 l Z a0 hw T13.heap n0 Z13 o13 (-3 : Int32) F_filled_o13 _ hr14) X13 hx hZ hown (hw _ (List.mem_of_getElem? (i := 28) rfl)) (hw _ (List.mem_of_getElem? (i := 29) rfl)) (notFace_of_selects (args := #[]) (mvT hZ (hw _ (List.mem_of_getElem? (i := 31) rfl)))) (hw _ (List.mem_of_getElem? (i := 31) rfl)) (hw _ (List.mem_of_getElem? (i := 30) rfl)) (hw _ (List.mem_of_getElem? (i := 32) rfl)) (hw _ (List.mem_of_getElem? (i := 6) rfl)) (by decide) (by decide) (by decide) (by decide) (by decide) rfl E_o13 (g := (mkF m 100 #[.val (.int p1), .val (.int p2), .val (.int p3), .val (.int p4), .val (.int p5), .val (.int p6), .val (.int r1), .val (.ref b2), .val (.int r4), .val (.int (1 : Int32)), .val (.int (1 : Int32)), .val (.ref o11), .val (.int r12), .val (.ref o13), .unset, .unset] [(.ref o13)])) rfl (by rw [hml]; rfl) (lenOf own_pd3 rfl) rfl (by show 2 * 0 + _ ≤ _; exact Nat.le_of_eq rfl) (hb hby at_100)
      obtain ⟨rfl, e14, rfl⟩ := hQ14
      have X14 : Stand p l e room_1 s m #[(.int p1), (.int p2), (.int p3), (.int p4), (.int p5), (.int p6)] below meth c T14 lc13 3 15 := by have := X14; rwa [List.append_nil] at this
      refine own_st (T' := T14) (g' := (mkF m 103 #[.val (.int p1), .val (.int p2), .val (.int p3), .val (.int p4), .val (.int p5), .val (.int p6), .val (.int r1), .val (.ref b2), .val (.int r4), .val (.int (1 : Int32)), .val (.int (1 : Int32)), .val (.ref o11), .val (.int r12), .val (.ref o13), .unset, .unset] [(.int r14)])) st14 ?_
      refine own_st (T' := T14) (g' := (mkF m 105 #[.val (.int p1), .val (.int p2), .val (.int p3), .val (.int p4), .val (.int p5), .val (.int p6), .val (.int r1), .val (.ref b2), .val (.int r4), .val (.int (1 : Int32)), .val (.int (1 : Int32)), .val (.ref o11), .val (.int r12), .val (.ref o13), .val (.int r14), .unset] [])) (fun t k => XS.istore X14.here hx rfl (hb hby at_103) rfl (l' := #[.val (.int p1), .val (.int p2), .val (.int p3), .val (.int p4), .val (.int p5), .val (.int p6), .val (.int r1), .val (.ref b2), .val (.int r4), .val (.int (1 : Int32)), .val (.int (1 : Int32)), .val (.ref o11), .val (.int r12), .val (.ref o13), .val (.int r14), .unset]) rfl k) ?_
      obtain ⟨T15, X15, e15, st15⟩ := getS2 X14 hx hZ hown (host := "") (Or.inl (hw _ (List.mem_of_getElem? (i := 43) rfl))) Via.refl e14 S_UNKNOWN (g := (mkF m 105 #[.val (.int p1), .val (.int p2), .val (.int p3), .val (.int p4), .val (.int p5), .val (.int p6), .val (.int r1), .val (.ref b2), .val (.int r4), .val (.int (1 : Int32)), .val (.int (1 : Int32)), .val (.ref o11), .val (.int r12), .val (.ref o13), .val (.int r14), .unset] [])) rfl (hb hby at_105)
      refine own_st (T' := T15) (g' := (mkF m 108 #[.val (.int p1), .val (.int p2), .val (.int p3), .val (.int p4), .val (.int p5), .val (.int p6), .val (.int r1), .val (.ref b2), .val (.int r4), .val (.int (1 : Int32)), .val (.int (1 : Int32)), .val (.ref o11), .val (.int r12), .val (.ref o13), .val (.int r14), .unset] [(.ref s_UNKNOWN)])) st15 ?_
      obtain ⟨r16, hr16⟩ : ∃ q, q = own_inLoop (-1 : Int32) := ⟨_, rfl⟩
      obtain ⟨_, T16, L16, hQ16, X16, st16⟩ := own_callV (y := (⟨"com/example/nullward/nullward/Elements", "inLoop", "()Z"⟩ : MethodName)) (z := (⟨"com/example/nullward/nullward/Elements", "inLoop", "()Z"⟩ : MethodName)) (argsL := []) 0 [] (K := "com/example/nullward/nullward/Elements") (own_rm5 l Z a0 hw T13.heap n0 Z13 s_UNKNOWN (-1 : Int32) F_filled_s_UNKNOWN _ hr16) X15 hx hZ hown (hw _ (List.mem_of_getElem? (i := 28) rfl)) (hw _ (List.mem_of_getElem? (i := 29) rfl)) (notFace_of_selects (args := #[]) (mvT hZ (hw _ (List.mem_of_getElem? (i := 31) rfl)))) (hw _ (List.mem_of_getElem? (i := 31) rfl)) (hw _ (List.mem_of_getElem? (i := 30) rfl)) (hw _ (List.mem_of_getElem? (i := 32) rfl)) (hw _ (List.mem_of_getElem? (i := 6) rfl)) (by decide) (by decide) (by decide) (by decide) (by decide) e15 E_UNKNOWN (g := (mkF m 108 #[.val (.int p1), .val (.int p2), .val (.int p3), .val (.int p4), .val (.int p5), .val (.int p6), .val (.int r1), .val (.ref b2), .val (.int r4), .val (.int (1 : Int32)), .val (.int (1 : Int32)), .val (.ref o11), .val (.int r12), .val (.ref o13), .val (.int r14), .unset] [(.ref s_UNKNOWN)])) rfl (by rw [hml]; rfl) (lenOf own_pd3 rfl) rfl (by show 2 * 0 + _ ≤ _; exact Nat.le_of_eq rfl) (hb hby at_108)
      obtain ⟨rfl, e16, rfl⟩ := hQ16
      have X16 : Stand p l e room_1 s m #[(.int p1), (.int p2), (.int p3), (.int p4), (.int p5), (.int p6)] below meth c T16 lc13 3 15 := by have := X16; rwa [List.append_nil] at this
      refine own_st (T' := T16) (g' := (mkF m 111 #[.val (.int p1), .val (.int p2), .val (.int p3), .val (.int p4), .val (.int p5), .val (.int p6), .val (.int r1), .val (.ref b2), .val (.int r4), .val (.int (1 : Int32)), .val (.int (1 : Int32)), .val (.ref o11), .val (.int r12), .val (.ref o13), .val (.int r14), .unset] [(.int r16)])) st16 ?_
      have hk17 : r16 = (0 : Int32) := by rw [hr16]; rfl
      refine own_st (T' := T16) (g' := (mkF m 114 #[.val (.int p1), .val (.int p2), .val (.int p3), .val (.int p4), .val (.int p5), .val (.int p6), .val (.int r1), .val (.ref b2), .val (.int r4), .val (.int (1 : Int32)), .val (.int (1 : Int32)), .val (.ref o11), .val (.int r12), .val (.ref o13), .val (.int r14), .unset] [])) (fun t k => XS.ifNo X16.here hx rfl (hb hby at_111) rfl ((if0 _ _).trans (teq hk17).2) k) ?_
      obtain ⟨T18, X18, e18, st18⟩ := getS2 X16 hx hZ hown (host := "") (Or.inl (hw _ (List.mem_of_getElem? (i := 45) rfl))) Via.refl e16 S_NON_NULL (g := (mkF m 114 #[.val (.int p1), .val (.int p2), .val (.int p3), .val (.int p4), .val (.int p5), .val (.int p6), .val (.int r1), .val (.ref b2), .val (.int r4), .val (.int (1 : Int32)), .val (.int (1 : Int32)), .val (.ref o11), .val (.int r12), .val (.ref o13), .val (.int r14), .unset] [])) rfl (hb hby at_114)
      refine own_st (T' := T18) (g' := (mkF m 117 #[.val (.int p1), .val (.int p2), .val (.int p3), .val (.int p4), .val (.int p5), .val (.int p6), .val (.int r1), .val (.ref b2), .val (.int r4), .val (.int (1 : Int32)), .val (.int (1 : Int32)), .val (.ref o11), .val (.int r12), .val (.ref o13), .val (.int r14), .unset] [(.ref s_NON_NULL)])) st18 ?_
      obtain ⟨r19, hr19⟩ : ∃ q, q = own_inLoop (2147483647 : Int32) := ⟨_, rfl⟩
      obtain ⟨_, T19, L19, hQ19, X19, st19⟩ := own_callV (y := (⟨"com/example/nullward/nullward/Elements", "inLoop", "()Z"⟩ : MethodName)) (z := (⟨"com/example/nullward/nullward/Elements", "inLoop", "()Z"⟩ : MethodName)) (argsL := []) 0 [] (K := "com/example/nullward/nullward/Elements") (own_rm5 l Z a0 hw T13.heap n0 Z13 s_NON_NULL (2147483647 : Int32) F_filled_s_NON_NULL _ hr19) X18 hx hZ hown (hw _ (List.mem_of_getElem? (i := 28) rfl)) (hw _ (List.mem_of_getElem? (i := 29) rfl)) (notFace_of_selects (args := #[]) (mvT hZ (hw _ (List.mem_of_getElem? (i := 31) rfl)))) (hw _ (List.mem_of_getElem? (i := 31) rfl)) (hw _ (List.mem_of_getElem? (i := 30) rfl)) (hw _ (List.mem_of_getElem? (i := 32) rfl)) (hw _ (List.mem_of_getElem? (i := 6) rfl)) (by decide) (by decide) (by decide) (by decide) (by decide) e18 E_NON_NULL (g := (mkF m 117 #[.val (.int p1), .val (.int p2), .val (.int p3), .val (.int p4), .val (.int p5), .val (.int p6), .val (.int r1), .val (.ref b2), .val (.int r4), .val (.int (1 : Int32)), .val (.int (1 : Int32)), .val (.ref o11), .val (.int r12), .val (.ref o13), .val (.int r14), .unset] [(.ref s_NON_NULL)])) rfl (by rw [hml]; rfl) (lenOf own_pd3 rfl) rfl (by show 2 * 0 + _ ≤ _; exact Nat.le_of_eq rfl) (hb hby at_117)
      obtain ⟨rfl, e19, rfl⟩ := hQ19
      have X19 : Stand p l e room_1 s m #[(.int p1), (.int p2), (.int p3), (.int p4), (.int p5), (.int p6)] below meth c T19 lc13 3 15 := by have := X19; rwa [List.append_nil] at this
      refine own_st (T' := T19) (g' := (mkF m 120 #[.val (.int p1), .val (.int p2), .val (.int p3), .val (.int p4), .val (.int p5), .val (.int p6), .val (.int r1), .val (.ref b2), .val (.int r4), .val (.int (1 : Int32)), .val (.int (1 : Int32)), .val (.ref o11), .val (.int r12), .val (.ref o13), .val (.int r14), .unset] [(.int r19)])) st19 ?_
      have hk20 : r19 = (0 : Int32) := by rw [hr19]; rfl
      refine own_st (T' := T19) (g' := (mkF m 123 #[.val (.int p1), .val (.int p2), .val (.int p3), .val (.int p4), .val (.int p5), .val (.int p6), .val (.int r1), .val (.ref b2), .val (.int r4), .val (.int (1 : Int32)), .val (.int (1 : Int32)), .val (.ref o11), .val (.int r12), .val (.ref o13), .val (.int r14), .unset] [])) (fun t k => XS.ifNo X19.here hx rfl (hb hby at_120) rfl ((if0 _ _).trans (teq hk20).2) k) ?_
      obtain ⟨T21, X21, e21, st21⟩ := getS2 X19 hx hZ hown (host := "") (Or.inl (hw _ (List.mem_of_getElem? (i := 47) rfl))) Via.refl e19 S_OF_FIELDS (g := (mkF m 123 #[.val (.int p1), .val (.int p2), .val (.int p3), .val (.int p4), .val (.int p5), .val (.int p6), .val (.int r1), .val (.ref b2), .val (.int r4), .val (.int (1 : Int32)), .val (.int (1 : Int32)), .val (.ref o11), .val (.int r12), .val (.ref o13), .val (.int r14), .unset] [])) rfl (hb hby at_123)
      refine own_st (T' := T21) (g' := (mkF m 126 #[.val (.int p1), .val (.int p2), .val (.int p3), .val (.int p4), .val (.int p5), .val (.int p6), .val (.int r1), .val (.ref b2), .val (.int r4), .val (.int (1 : Int32)), .val (.int (1 : Int32)), .val (.ref o11), .val (.int r12), .val (.ref o13), .val (.int r14), .unset] [(.ref s_OF_FIELDS)])) st21 ?_
      obtain ⟨r22, hr22⟩ : ∃ q, q = own_inLoop (-2 : Int32) := ⟨_, rfl⟩
      obtain ⟨_, T22, L22, hQ22, X22, st22⟩ := own_callV (y := (⟨"com/example/nullward/nullward/Elements", "inLoop", "()Z"⟩ : MethodName)) (z := (⟨"com/example/nullward/nullward/Elements", "inLoop", "()Z"⟩ : MethodName)) (argsL := []) 0 [] (K := "com/example/nullward/nullward/Elements") (own_rm5 l Z a0 hw T13.heap n0 Z13 s_OF_FIELDS (-2 : Int32) F_filled_s_OF_FIELDS _ hr22) X21 hx hZ hown (hw _ (List.mem_of_getElem? (i := 28) rfl)) (hw _ (List.mem_of_getElem? (i := 29) rfl)) (notFace_of_selects (args := #[]) (mvT hZ (hw _ (List.mem_of_getElem? (i := 31) rfl)))) (hw _ (List.mem_of_getElem? (i := 31) rfl)) (hw _ (List.mem_of_getElem? (i := 30) rfl)) (hw _ (List.mem_of_getElem? (i := 32) rfl)) (hw _ (List.mem_of_getElem? (i := 6) rfl)) (by decide) (by decide) (by decide) (by decide) (by decide) e21 E_OF_FIELDS (g := (mkF m 126 #[.val (.int p1), .val (.int p2), .val (.int p3), .val (.int p4), .val (.int p5), .val (.int p6), .val (.int r1), .val (.ref b2), .val (.int r4), .val (.int (1 : Int32)), .val (.int (1 : Int32)), .val (.ref o11), .val (.int r12), .val (.ref o13), .val (.int r14), .unset] [(.ref s_OF_FIELDS)])) rfl (by rw [hml]; rfl) (lenOf own_pd3 rfl) rfl (by show 2 * 0 + _ ≤ _; exact Nat.le_of_eq rfl) (hb hby at_126)
      obtain ⟨rfl, e22, rfl⟩ := hQ22
      have X22 : Stand p l e room_1 s m #[(.int p1), (.int p2), (.int p3), (.int p4), (.int p5), (.int p6)] below meth c T22 lc13 3 15 := by have := X22; rwa [List.append_nil] at this
      refine own_st (T' := T22) (g' := (mkF m 129 #[.val (.int p1), .val (.int p2), .val (.int p3), .val (.int p4), .val (.int p5), .val (.int p6), .val (.int r1), .val (.ref b2), .val (.int r4), .val (.int (1 : Int32)), .val (.int (1 : Int32)), .val (.ref o11), .val (.int r12), .val (.ref o13), .val (.int r14), .unset] [(.int r22)])) st22 ?_
      have hk23 : r22 = (0 : Int32) := by rw [hr22]; rfl
      refine own_st (T' := T22) (g' := (mkF m 132 #[.val (.int p1), .val (.int p2), .val (.int p3), .val (.int p4), .val (.int p5), .val (.int p6), .val (.int r1), .val (.ref b2), .val (.int r4), .val (.int (1 : Int32)), .val (.int (1 : Int32)), .val (.ref o11), .val (.int r12), .val (.ref o13), .val (.int r14), .unset] [])) (fun t k => XS.ifNo X22.here hx rfl (hb hby at_129) rfl ((if0 _ _).trans (teq hk23).2) k) ?_
      refine own_st (T' := T22) (g' := (mkF m 133 #[.val (.int p1), .val (.int p2), .val (.int p3), .val (.int p4), .val (.int p5), .val (.int p6), .val (.int r1), .val (.ref b2), .val (.int r4), .val (.int (1 : Int32)), .val (.int (1 : Int32)), .val (.ref o11), .val (.int r12), .val (.ref o13), .val (.int r14), .unset] [(.int (1 : Int32))])) (fun t k => XS.iconst X22.here hx rfl (hb hby at_132) k) ?_
      refine own_st (T' := T22) (g' := (mkF m 137 #[.val (.int p1), .val (.int p2), .val (.int p3), .val (.int p4), .val (.int p5), .val (.int p6), .val (.int r1), .val (.ref b2), .val (.int r4), .val (.int (1 : Int32)), .val (.int (1 : Int32)), .val (.ref o11), .val (.int r12), .val (.ref o13), .val (.int r14), .unset] [(.int (1 : Int32))])) (fun t k => XS.goto X22.here hx rfl (pc0 := 133) (pc' := 137) rfl (hb hby at_133) (by decide) (by decide) k) ?_
      refine own_st (T' := T22) (g' := (mkF m 139 #[.val (.int p1), .val (.int p2), .val (.int p3), .val (.int p4), .val (.int p5), .val (.int p6), .val (.int r1), .val (.ref b2), .val (.int r4), .val (.int (1 : Int32)), .val (.int (1 : Int32)), .val (.ref o11), .val (.int r12), .val (.ref o13), .val (.int r14), .val (.int (1 : Int32))] [])) (fun t k => XS.istore X22.here hx rfl (hb hby at_137) rfl (l' := #[.val (.int p1), .val (.int p2), .val (.int p3), .val (.int p4), .val (.int p5), .val (.int p6), .val (.int r1), .val (.ref b2), .val (.int r4), .val (.int (1 : Int32)), .val (.int (1 : Int32)), .val (.ref o11), .val (.int r12), .val (.ref o13), .val (.int r14), .val (.int (1 : Int32))]) rfl k) ?_
      refine own_st (T' := T22) (g' := (mkF m 141 #[.val (.int p1), .val (.int p2), .val (.int p3), .val (.int p4), .val (.int p5), .val (.int p6), .val (.int r1), .val (.ref b2), .val (.int r4), .val (.int (1 : Int32)), .val (.int (1 : Int32)), .val (.ref o11), .val (.int r12), .val (.ref o13), .val (.int r14), .val (.int (1 : Int32))] [(.int (1 : Int32))])) (fun t k => XS.iload X22.here hx rfl (hb hby at_139) rfl k) ?_
      refine own_st (T' := T22) (g' := (mkF m 144 #[.val (.int p1), .val (.int p2), .val (.int p3), .val (.int p4), .val (.int p5), .val (.int p6), .val (.int r1), .val (.ref b2), .val (.int r4), .val (.int (1 : Int32)), .val (.int (1 : Int32)), .val (.ref o11), .val (.int r12), .val (.ref o13), .val (.int r14), .val (.int (1 : Int32))] [])) (fun t k => XS.ifNo X22.here hx rfl (hb hby at_141) rfl ((if0 _ _).trans (feq (by decide)).1) k) ?_
      refine own_st (T' := T22) (g' := (mkF m 146 #[.val (.int p1), .val (.int p2), .val (.int p3), .val (.int p4), .val (.int p5), .val (.int p6), .val (.int r1), .val (.ref b2), .val (.int r4), .val (.int (1 : Int32)), .val (.int (1 : Int32)), .val (.ref o11), .val (.int r12), .val (.ref o13), .val (.int r14), .val (.int (1 : Int32))] [(.int (1 : Int32))])) (fun t k => XS.iload X22.here hx rfl (hb hby at_144) rfl k) ?_
      refine own_st (T' := T22) (g' := (mkF m 149 #[.val (.int p1), .val (.int p2), .val (.int p3), .val (.int p4), .val (.int p5), .val (.int p6), .val (.int r1), .val (.ref b2), .val (.int r4), .val (.int (1 : Int32)), .val (.int (1 : Int32)), .val (.ref o11), .val (.int r12), .val (.ref o13), .val (.int r14), .val (.int (1 : Int32))] [])) (fun t k => XS.ifNo X22.here hx rfl (hb hby at_146) rfl ((if0 _ _).trans (feq (by decide)).1) k) ?_
      refine own_st (T' := T22) (g' := (mkF m 151 #[.val (.int p1), .val (.int p2), .val (.int p3), .val (.int p4), .val (.int p5), .val (.int p6), .val (.int r1), .val (.ref b2), .val (.int r4), .val (.int (1 : Int32)), .val (.int (1 : Int32)), .val (.ref o11), .val (.int r12), .val (.ref o13), .val (.int r14), .val (.int (1 : Int32))] [(.int r12)])) (fun t k => XS.iload X22.here hx rfl (hb hby at_149) rfl k) ?_
      have hk24 : ¬ (r12 = (0 : Int32)) := by rw [hr12]; decide
      refine own_st (T' := T22) (g' := (mkF m 154 #[.val (.int p1), .val (.int p2), .val (.int p3), .val (.int p4), .val (.int p5), .val (.int p6), .val (.int r1), .val (.ref b2), .val (.int r4), .val (.int (1 : Int32)), .val (.int (1 : Int32)), .val (.ref o11), .val (.int r12), .val (.ref o13), .val (.int r14), .val (.int (1 : Int32))] [])) (fun t k => XS.ifNo X22.here hx rfl (hb hby at_151) rfl ((if0 _ _).trans (feq hk24).1) k) ?_
      refine own_st (T' := T22) (g' := (mkF m 156 #[.val (.int p1), .val (.int p2), .val (.int p3), .val (.int p4), .val (.int p5), .val (.int p6), .val (.int r1), .val (.ref b2), .val (.int r4), .val (.int (1 : Int32)), .val (.int (1 : Int32)), .val (.ref o11), .val (.int r12), .val (.ref o13), .val (.int r14), .val (.int (1 : Int32))] [(.int r14)])) (fun t k => XS.iload X22.here hx rfl (hb hby at_154) rfl k) ?_
      have hk25 : ¬ (r14 = (0 : Int32)) := by rw [hr14]; decide
      refine own_st (T' := T22) (g' := (mkF m 159 #[.val (.int p1), .val (.int p2), .val (.int p3), .val (.int p4), .val (.int p5), .val (.int p6), .val (.int r1), .val (.ref b2), .val (.int r4), .val (.int (1 : Int32)), .val (.int (1 : Int32)), .val (.ref o11), .val (.int r12), .val (.ref o13), .val (.int r14), .val (.int (1 : Int32))] [])) (fun t k => XS.ifNo X22.here hx rfl (hb hby at_156) rfl ((if0 _ _).trans (feq hk25).1) k) ?_
      refine own_st (T' := T22) (g' := (mkF m 161 #[.val (.int p1), .val (.int p2), .val (.int p3), .val (.int p4), .val (.int p5), .val (.int p6), .val (.int r1), .val (.ref b2), .val (.int r4), .val (.int (1 : Int32)), .val (.int (1 : Int32)), .val (.ref o11), .val (.int r12), .val (.ref o13), .val (.int r14), .val (.int (1 : Int32))] [(.int (1 : Int32))])) (fun t k => XS.iload X22.here hx rfl (hb hby at_159) rfl k) ?_
      refine own_st (T' := T22) (g' := (mkF m 164 #[.val (.int p1), .val (.int p2), .val (.int p3), .val (.int p4), .val (.int p5), .val (.int p6), .val (.int r1), .val (.ref b2), .val (.int r4), .val (.int (1 : Int32)), .val (.int (1 : Int32)), .val (.ref o11), .val (.int r12), .val (.ref o13), .val (.int r14), .val (.int (1 : Int32))] [])) (fun t k => XS.ifNo X22.here hx rfl (hb hby at_161) rfl ((if0 _ _).trans (feq (by decide)).1) k) ?_
      refine own_st (T' := T22) (g' := (mkF m 165 #[.val (.int p1), .val (.int p2), .val (.int p3), .val (.int p4), .val (.int p5), .val (.int p6), .val (.int r1), .val (.ref b2), .val (.int r4), .val (.int (1 : Int32)), .val (.int (1 : Int32)), .val (.ref o11), .val (.int r12), .val (.ref o13), .val (.int r14), .val (.int (1 : Int32))] [(.int (1 : Int32))])) (fun t k => XS.iconst X22.here hx rfl (hb hby at_164) k) ?_
      refine own_st (T' := T22) (g' := (mkF m 169 #[.val (.int p1), .val (.int p2), .val (.int p3), .val (.int p4), .val (.int p5), .val (.int p6), .val (.int r1), .val (.ref b2), .val (.int r4), .val (.int (1 : Int32)), .val (.int (1 : Int32)), .val (.ref o11), .val (.int r12), .val (.ref o13), .val (.int r14), .val (.int (1 : Int32))] [(.int (1 : Int32))])) (fun t k => XS.goto X22.here hx rfl (pc0 := 165) (pc' := 169) rfl (hb hby at_165) (by decide) (by decide) k) ?_
      exact own_retB X22 hx hlk hret (hb hby at_169) (by decide) (by decide) rfl ⟨rfl, N13⟩
    by_cases hc57_9 : r4 = (0 : Int32)
    ·
      refine own_st (T' := T4) (g' := (mkF m 68 #[.val (.int p1), .val (.int p2), .val (.int p3), .val (.int p4), .val (.int p5), .val (.int p6), .val (.int r1), .val (.ref b2), .val (.int r4), .val (.int (1 : Int32)), .unset, .unset, .unset, .unset, .unset, .unset] [])) (fun t k => XS.ifYes X4.here hx rfl (pc0 := 57) (pc' := 68) rfl (hb hby at_57) rfl ((if0 _ _).trans (teq hc57_9).1) (by decide) (by decide) k) ?_
      refine own_st (T' := T4) (g' := (mkF m 69 #[.val (.int p1), .val (.int p2), .val (.int p3), .val (.int p4), .val (.int p5), .val (.int p6), .val (.int r1), .val (.ref b2), .val (.int r4), .val (.int (1 : Int32)), .unset, .unset, .unset, .unset, .unset, .unset] [(.int (1 : Int32))])) (fun t k => XS.iconst X4.here hx rfl (hb hby at_68) k) ?_
      refine own_st (T' := T4) (g' := (mkF m 73 #[.val (.int p1), .val (.int p2), .val (.int p3), .val (.int p4), .val (.int p5), .val (.int p6), .val (.int r1), .val (.ref b2), .val (.int r4), .val (.int (1 : Int32)), .unset, .unset, .unset, .unset, .unset, .unset] [(.int (1 : Int32))])) (fun t k => XS.goto X4.here hx rfl (pc0 := 69) (pc' := 73) rfl (hb hby at_69) (by decide) (by decide) k) ?_
      exact K10 T4 X4 e4
    ·
      refine own_st (T' := T4) (g' := (mkF m 60 #[.val (.int p1), .val (.int p2), .val (.int p3), .val (.int p4), .val (.int p5), .val (.int p6), .val (.int r1), .val (.ref b2), .val (.int r4), .val (.int (1 : Int32)), .unset, .unset, .unset, .unset, .unset, .unset] [])) (fun t k => XS.ifNo X4.here hx rfl (hb hby at_57) rfl ((if0 _ _).trans (feq hc57_9).1) k) ?_
      refine own_st (T' := T4) (g' := (mkF m 62 #[.val (.int p1), .val (.int p2), .val (.int p3), .val (.int p4), .val (.int p5), .val (.int p6), .val (.int r1), .val (.ref b2), .val (.int r4), .val (.int (1 : Int32)), .unset, .unset, .unset, .unset, .unset, .unset] [(.ref b2)])) (fun t k => XS.aload X4.here hx rfl (hb hby at_60) rfl rfl k) ?_
      obtain ⟨r26, hr26⟩ : ∃ q, q = own_nonNull r1 := ⟨_, rfl⟩
      obtain ⟨_, T26, L26, hQ26, X26, st26⟩ := own_callV (y := (⟨"com/example/nullward/nullward/Elements", "nonNull", "()Z"⟩ : MethodName)) (z := (⟨"com/example/nullward/nullward/Elements", "nonNull", "()Z"⟩ : MethodName)) (argsL := []) 0 [] (K := "com/example/nullward/nullward/Elements") (own_rm8 l Z a0 hw T3.heap n0 Z3 b2 r1 F_filled_b2 _ hr26) X4 hx hZ hown (hw _ (List.mem_of_getElem? (i := 49) rfl)) (hw _ (List.mem_of_getElem? (i := 50) rfl)) (notFace_of_selects (args := #[]) (mvT hZ (hw _ (List.mem_of_getElem? (i := 52) rfl)))) (hw _ (List.mem_of_getElem? (i := 52) rfl)) (hw _ (List.mem_of_getElem? (i := 51) rfl)) (hw _ (List.mem_of_getElem? (i := 53) rfl)) (hw _ (List.mem_of_getElem? (i := 6) rfl)) (by decide) (by decide) (by decide) (by decide) (by decide) e4 E_b2 (g := (mkF m 62 #[.val (.int p1), .val (.int p2), .val (.int p3), .val (.int p4), .val (.int p5), .val (.int p6), .val (.int r1), .val (.ref b2), .val (.int r4), .val (.int (1 : Int32)), .unset, .unset, .unset, .unset, .unset, .unset] [(.ref b2)])) rfl (by rw [hml]; rfl) (lenOf own_pd3 rfl) rfl (by show 2 * 0 + _ ≤ _; exact Nat.le_of_eq rfl) (hb hby at_62)
      obtain ⟨rfl, e26, rfl⟩ := hQ26
      have X26 : Stand p l e room_1 s m #[(.int p1), (.int p2), (.int p3), (.int p4), (.int p5), (.int p6)] below meth c T26 lc3 1 5 := by have := X26; rwa [List.append_nil] at this
      refine own_st (T' := T26) (g' := (mkF m 65 #[.val (.int p1), .val (.int p2), .val (.int p3), .val (.int p4), .val (.int p5), .val (.int p6), .val (.int r1), .val (.ref b2), .val (.int r4), .val (.int (1 : Int32)), .unset, .unset, .unset, .unset, .unset, .unset] [(.int r26)])) st26 ?_
      have hk27 : r26 = (0 : Int32) := by rw [hr26]; rw [hr4] at hc57_9; exact own_l2 hc57_9
      refine own_st (T' := T26) (g' := (mkF m 68 #[.val (.int p1), .val (.int p2), .val (.int p3), .val (.int p4), .val (.int p5), .val (.int p6), .val (.int r1), .val (.ref b2), .val (.int r4), .val (.int (1 : Int32)), .unset, .unset, .unset, .unset, .unset, .unset] [])) (fun t k => XS.ifNo X26.here hx rfl (hb hby at_65) rfl ((if0 _ _).trans (teq hk27).2) k) ?_
      refine own_st (T' := T26) (g' := (mkF m 69 #[.val (.int p1), .val (.int p2), .val (.int p3), .val (.int p4), .val (.int p5), .val (.int p6), .val (.int r1), .val (.ref b2), .val (.int r4), .val (.int (1 : Int32)), .unset, .unset, .unset, .unset, .unset, .unset] [(.int (1 : Int32))])) (fun t k => XS.iconst X26.here hx rfl (hb hby at_68) k) ?_
      refine own_st (T' := T26) (g' := (mkF m 73 #[.val (.int p1), .val (.int p2), .val (.int p3), .val (.int p4), .val (.int p5), .val (.int p6), .val (.int r1), .val (.ref b2), .val (.int r4), .val (.int (1 : Int32)), .unset, .unset, .unset, .unset, .unset, .unset] [(.int (1 : Int32))])) (fun t k => XS.goto X26.here hx rfl (pc0 := 69) (pc' := 73) rfl (hb hby at_69) (by decide) (by decide) k) ?_
      exact K10 T26 X26 e26
  by_cases hc37_5 : r1 = (-3 : Int32)
  ·
    refine own_st (T' := T4) (g' := (mkF m 40 #[.val (.int p1), .val (.int p2), .val (.int p3), .val (.int p4), .val (.int p5), .val (.int p6), .val (.int r1), .val (.ref b2), .val (.int r4), .unset, .unset, .unset, .unset, .unset, .unset, .unset] [(.int r4)])) (fun t k => XS.icmpNo X4.here hx rfl (hb hby at_37) rfl (teq hc37_5).2 k) ?_
    refine own_st (T' := T4) (g' := (mkF m 41 #[.val (.int p1), .val (.int p2), .val (.int p3), .val (.int p4), .val (.int p5), .val (.int p6), .val (.int r1), .val (.ref b2), .val (.int r4), .unset, .unset, .unset, .unset, .unset, .unset, .unset] [(.int (1 : Int32)), (.int r4)])) (fun t k => XS.iconst X4.here hx rfl (hb hby at_40) k) ?_
    refine own_st (T' := T4) (g' := (mkF m 45 #[.val (.int p1), .val (.int p2), .val (.int p3), .val (.int p4), .val (.int p5), .val (.int p6), .val (.int r1), .val (.ref b2), .val (.int r4), .unset, .unset, .unset, .unset, .unset, .unset, .unset] [(.int (1 : Int32)), (.int r4)])) (fun t k => XS.goto X4.here hx rfl (pc0 := 41) (pc' := 45) rfl (hb hby at_41) (by decide) (by decide) k) ?_
    exact K6 _ (if_pos hc37_5).symm
  ·
    refine own_st (T' := T4) (g' := (mkF m 44 #[.val (.int p1), .val (.int p2), .val (.int p3), .val (.int p4), .val (.int p5), .val (.int p6), .val (.int r1), .val (.ref b2), .val (.int r4), .unset, .unset, .unset, .unset, .unset, .unset, .unset] [(.int r4)])) (fun t k => XS.icmpYes X4.here hx rfl (pc0 := 37) (pc' := 44) rfl (hb hby at_37) rfl (feq hc37_5).2 (by decide) (by decide) k) ?_
    refine own_st (T' := T4) (g' := (mkF m 45 #[.val (.int p1), .val (.int p2), .val (.int p3), .val (.int p4), .val (.int p5), .val (.int p6), .val (.int r1), .val (.ref b2), .val (.int r4), .unset, .unset, .unset, .unset, .unset, .unset, .unset] [(.int (0 : Int32)), (.int r4)])) (fun t k => XS.iconst X4.here hx rfl (hb hby at_44) k) ?_
    exact K6 _ (if_neg hc37_5).symm
set_option maxRecDepth 65536 in
set_option maxHeartbeats 40000000 in
theorem own_comes {Post : Tables → Env → Array Value → State → Outcome → State → Prop} (hpost : ∀ tb e args s v u, (limb_1_1.after args s (.returned v) u = true ∧ limb_1_2.after args s (.returned v) u = true ∧ True) → FrameEnd s (.returned v) u (Jvm.fieldLocs frame_1_writes args s ++ Jvm.arrayLocs frame_1_arrays args s ++ Jvm.staticLocs frame_1_statics s) 16 128 → Post tb e args s (.returned v) u) :
    ArmFor flags0 classFile x code maxLocals ret World_1 tables_1 room_1 Calls_1 rest_1 Pre_1 Post := by
  intro l hfl _ _ p e ha hc hk s m args below hf hA hF happ hP
  obtain ⟨hcalls, hrest, hpre⟩ := hP
  obtain ⟨-, -, -, hnamed, -, -, -, hat⟩ := (Spec.applies_iff hf).mp happ
  obtain ⟨hg, hn⟩ := and_e (Cond.before_iff.mp (show (Jvm.Cond.and given_1 narrow_1).before args s = true from hpre))
  obtain ⟨hcount, hg⟩ := and_e hg
  obtain ⟨w0, w1, w2, w3, w4, w5, rfl⟩ : ∃ w0 w1 w2 w3 w4 w5 : Value, args = #[w0, w1, w2, w3, w4, w5] := by
    have hs : args.size = 6 := by simpa [Cond.value, given_1] using hcount
    obtain ⟨L⟩ := args
    match L, hs with
    | [w0, w1, w2, w3, w4, w5], _ => exact ⟨w0, w1, w2, w3, w4, w5, rfl⟩
  have hw := fun d (hd : d ∈ tables_1) => atoms_spec (ws := Jvm.Cond.code x code maxLocals ret :: tables_1) hat d (List.mem_cons_of_mem _ hd)
  have hfit : Fit s := fun {y c} hc i hi => by
    obtain ⟨ha, rfl⟩ := Array.getElem?_eq_some_iff.mp hc
    have q := List.all_eq_true.mp ((Array.all_eq_true_iff_forall_mem.mp hF) _ (Array.getElem_mem ha)) i (List.mem_range.mpr hi)
    simpa [Array.getElem?_eq_getElem hi] using q
  obtain ⟨g0, hg⟩ := and_e hg
  obtain ⟨i0, ei0⟩ := is_v g0
  obtain rfl : w0 = (.int i0) := Option.some.inj ei0
  obtain ⟨g1, hg⟩ := and_e hg
  obtain ⟨i1, ei1⟩ := is_v g1
  obtain rfl : w1 = (.int i1) := Option.some.inj ei1
  obtain ⟨g2, hg⟩ := and_e hg
  obtain ⟨i2, ei2⟩ := is_v g2
  obtain rfl : w2 = (.int i2) := Option.some.inj ei2
  obtain ⟨g3, hg⟩ := and_e hg
  obtain ⟨i3, ei3⟩ := is_v g3
  obtain rfl : w3 = (.int i3) := Option.some.inj ei3
  obtain ⟨g4, hg⟩ := and_e hg
  obtain ⟨i4, ei4⟩ := is_v g4
  obtain rfl : w4 = (.int i4) := Option.some.inj ei4
  have g5 := hg
  obtain ⟨i5, ei5⟩ := is_v g5
  obtain rfl : w5 = (.int i5) := Option.some.inj ei5
  obtain ⟨n0, hn⟩ := and_e hn
  obtain ⟨n1, hn⟩ := and_e hn
  obtain ⟨n2, hn⟩ := and_e hn
  obtain ⟨n3, hn⟩ := and_e hn
  obtain ⟨n4, hn⟩ := and_e hn
  have n5 := hn
  obtain ⟨s_UNKNOWN, v_UNKNOWN, S_UNKNOWN, E_UNKNOWN⟩ := own_sta n0 (hw _ (List.mem_of_getElem? (i := 6) rfl)) (hw _ (List.mem_of_getElem? (i := 44) rfl))
  obtain ⟨s_NON_NULL, v_NON_NULL, S_NON_NULL, E_NON_NULL⟩ := own_sta n2 (hw _ (List.mem_of_getElem? (i := 6) rfl)) (hw _ (List.mem_of_getElem? (i := 46) rfl))
  obtain ⟨s_OF_FIELDS, v_OF_FIELDS, S_OF_FIELDS, E_OF_FIELDS⟩ := own_sta n4 (hw _ (List.mem_of_getElem? (i := 6) rfl)) (hw _ (List.mem_of_getElem? (i := 48) rfl))
  have F_filled_s_UNKNOWN := own_fld v_UNKNOWN n1
  have F_filled_s_NON_NULL := own_fld v_NON_NULL n3
  have F_filled_s_OF_FIELDS := own_fld v_OF_FIELDS n5
  obtain ⟨n, o, h1, h2, h3, _, L, rfl, ⟨rfl, N⟩, hq⟩ := own_rm0 l s _ hw s.heap s_UNKNOWN s_NON_NULL s_OF_FIELDS S_UNKNOWN S_NON_NULL S_OF_FIELDS E_UNKNOWN E_NON_NULL E_OF_FIELDS F_filled_s_UNKNOWN F_filled_s_NON_NULL F_filled_s_OF_FIELDS s.heap.size (Nat.le_refl _) i0 i1 i2 i3 i4 i5 p e ha hc hk s m _ below hf ((Spec.applies_iff_loose hf).mp happ).1 ⟨rfl, State.Warmed39.refl s, rfl⟩ trivial
  exact ⟨n, _, h1, h2, h3, hpost _ _ _ _ _ _ ⟨Cond.after_iff.mpr rfl, Cond.after_iff.mpr (eq_i res_at (Term.int_eval (1)) rfl), trivial⟩ ⟨hq.1, hq.2.1, (hq.2.2.sift fun y hy => Or.inr (N y hy)).mono (by decide) (by decide)⟩⟩
theorem main_1_1 : Claimed_1_1 := own_comes fun _ _ _ _ _ _ h hF => ⟨h.1, hF⟩
theorem main_1_2 : Claimed_1_2 := own_comes fun _ _ _ _ _ _ h hF => ⟨h.2.1, hF⟩
end Jvm.Pilot.@@N@@
namespace Jvm.Pilot.@@N@@
open Jvm Jvm.ClassFile Sem Op Lib Jvm.Free Jvm.Stand Jvm.Pilot.@@N@@.Jvm.D
/-! MADE BY PROGRAM (witnessworld.py) out of the Statement's table words and the real class files: 10 classes; the members and pool entries that the words name. The judged class is class 1, her method 2. -/
namespace start1
open Jvm.ClassFile
def u (s : String) : CpInfo := .utf8 (stringToUtf16 s)
/-- a pool by its gaps: so many unusable entries, then the entry; so many at the end -/
def gap : Nat → List CpInfo → List CpInfo
  | 0, r => r
  | n + 1, r => .unusable :: gap n r
def poolList (es : List (Nat × CpInfo)) (last : Nat) : List CpInfo := es.foldr (fun e r => gap e.1 (e.2 :: r)) (gap last [])
def pool (es : List (Nat × CpInfo)) (last : Nat) : Array CpInfo := ⟨poolList es last⟩
def fileOf (pool : Array CpInfo) (this : Nat) (attrs : Array Attribute := #[]) (ms : Array MethodInfo := #[]) (fl : Nat := 33) (sup : Nat := 0) (ifs : Array Nat := #[]) (fds : Array FieldInfo := #[]) : ClassFile where
  minorVersion := 0
  majorVersion := 65
  constantPool := pool
  accessFlags := fl
  thisClass := this
  superClass := sup
  interfaces := ifs
  fields := fds
  methods := ms
  attributes := attrs
def plain (name : String) (sup : Option ClassId) : Class where
  name := name
  kind := .ordinary
  loader := none
  accessFlags := 33
  super := sup
  interfaces := #[]
  cf := none
  fields := #[]
  methods := #[]
  instanceTypes := #[]
  staticTypes := #[]
  resolved := #[]
  callSites := []
  init := .initialized
  statics := none
  mirror := none

def pool0 : Array CpInfo := pool [(5, u "<init>"), (0, u "()V"), (1, .class_ 10), (1, u "java/lang/Object")] 113

def k0c0 : Code := { maxStack := 0, maxLocals := 1, code := object_method_1_code, exceptionTable := #[], attributes := #[] }
def k0m0 : Method := { name := "<init>", desc := "()V", sig := { parameters := [], returnType := none }, accessFlags := 1, code := some k0c0 }
/-- java/lang/Object -/
def k0 : Class := { plain "java/lang/Object" none with
  accessFlags := 33
  interfaces := #[]
  cf := some (fileOf pool0 8 #[] #[{ accessFlags := 1, nameIndex := 5, descriptorIndex := 6, attributes := #[] }] 33 0 #[] #[])
  fields := #[]
  methods := #[k0m0]
  instanceTypes := #[]
  staticTypes := #[]
  resolved := Array.replicate 124 none
  statics := none }

def pool1 : Array CpInfo := pool [(2, .class_ 4), (1, u "java/lang/Object"), (0, u "<init>"), (0, u "()V"), (0, .methodref 8 9), (0, .class_ 10), (0, .nameAndType 11 12), (0, u "com/example/nullward/nullward/ElementsInLoopPinLaw"), (0, u "pickFilled"), (0, u "(II)I"), (0, .class_ 14), (0, u "com/example/nullward/nullward/Elements"), (0, .methodref 13 16), (0, .nameAndType 5 17), (0, u "(IIIII)V"), (0, .methodref 13 19), (0, .nameAndType 20 21), (0, u "inLoop"), (0, u "()Z"), (0, .methodref 13 23), (0, .nameAndType 24 21), (0, u "nonNull"), (0, .methodref 13 26), (0, .nameAndType 27 28), (0, u "ofLengthIn"), (0, u "(I)Lcom/example/nullward/nullward/Elements;"), (0, .methodref 13 30), (0, .nameAndType 31 32), (0, u "below"), (0, u "(II)Lcom/example/nullward/nullward/Elements;"), (0, .fieldref 13 34), (0, .nameAndType 35 36), (0, u "UNKNOWN"), (0, u "Lcom/example/nullward/nullward/Elements;"), (0, .fieldref 13 38), (0, .nameAndType 39 36), (0, u "NON_NULL"), (0, .fieldref 13 41), (0, .nameAndType 42 36), (0, u "OF_FIELDS"), (3, u "law"), (0, u "(IIIIII)Z")] 2

def k1m0 : Method := { name := "<init>", desc := "()V", sig := { parameters := [], returnType := none }, accessFlags := 2, code := none }
def k1c1 : Code := { maxStack := 2, maxLocals := 3, code := method_2_code, exceptionTable := #[], attributes := #[] }
def k1m1 : Method := { name := "pickFilled", desc := "(II)I", sig := { parameters := [.int, .int], returnType := some .int }, accessFlags := 10, code := some k1c1 }
def k1c2 : Code := { maxStack := 7, maxLocals := 16, code := code, exceptionTable := #[], attributes := #[] }
def k1m2 : Method := { name := "law", desc := "(IIIIII)Z", sig := { parameters := [.int, .int, .int, .int, .int, .int], returnType := some .boolean }, accessFlags := 9, code := some k1c2 }
/-- com/example/nullward/nullward/ElementsInLoopPinLaw -/
def k1 : Class := { plain "com/example/nullward/nullward/ElementsInLoopPinLaw" (some 0) with
  accessFlags := 49
  interfaces := #[]
  cf := some (fileOf pool1 8 #[] #[{ accessFlags := 2, nameIndex := 5, descriptorIndex := 6, attributes := #[] }, { accessFlags := 10, nameIndex := 11, descriptorIndex := 12, attributes := #[] }, { accessFlags := 9, nameIndex := 46, descriptorIndex := 47, attributes := #[] }] 49 2 #[] #[])
  fields := #[]
  methods := #[k1m0, k1m1, k1m2]
  instanceTypes := #[]
  staticTypes := #[]
  resolved := Array.replicate 50 none
  statics := none }

def pool2 : Array CpInfo := pool [(1, .methodref 2 3), (0, .class_ 4), (0, .nameAndType 5 6), (0, u "java/lang/Object"), (0, u "<init>"), (0, u "()V"), (0, .class_ 8), (0, u "java/lang/Record")] 13

def k2c0 : Code := { maxStack := 1, maxLocals := 1, code := jdk_30_method_1_code, exceptionTable := #[], attributes := #[] }
def k2m0 : Method := { name := "<init>", desc := "()V", sig := { parameters := [], returnType := none }, accessFlags := 4, code := some k2c0 }
/-- java/lang/Record -/
def k2 : Class := { plain "java/lang/Record" (some 0) with
  accessFlags := 1057
  interfaces := #[]
  cf := some (fileOf pool2 7 #[] #[{ accessFlags := 4, nameIndex := 5, descriptorIndex := 6, attributes := #[] }] 1057 2 #[] #[])
  fields := #[]
  methods := #[k2m0]
  instanceTypes := #[]
  staticTypes := #[]
  resolved := Array.replicate 22 none
  statics := none }

def pool3 : Array CpInfo := pool [(3, .methodref 4 5), (0, .class_ 6), (0, .nameAndType 7 8), (0, u "java/lang/Record"), (0, u "<init>"), (0, u "()V"), (0, .fieldref 10 11), (0, .class_ 12), (0, .nameAndType 13 14), (0, u "com/example/nullward/nullward/Elements"), (0, u "length"), (0, u "I"), (0, .fieldref 10 16), (0, .nameAndType 17 14), (0, u "filled"), (0, .fieldref 10 19), (0, .nameAndType 20 14), (0, u "lengthLocal"), (0, .fieldref 10 22), (0, .nameAndType 23 14), (0, u "indexLocal"), (0, .fieldref 10 25), (0, .nameAndType 26 14), (0, u "past"), (0, .methodref 10 28), (0, .nameAndType 7 29), (0, u "(IIIII)V"), (2, u "NON_NULL"), (0, u "Lcom/example/nullward/nullward/Elements;"), (3, .integer 2147483647), (3, u "(II)Lcom/example/nullward/nullward/Elements;"), (6, u "UNKNOWN"), (6, u "OF_FIELDS"), (0, u "ALL"), (1, u "NONE"), (1, u "FIELDS"), (1, u "IN_LOOP"), (5, u "ofLengthIn"), (0, u "(I)Lcom/example/nullward/nullward/Elements;"), (0, u "nonNull"), (0, u "()Z"), (0, u "inLoop"), (1, u "below")] 30

def k3c0 : Code := { maxStack := 2, maxLocals := 6, code := prog_4_method_2_code, exceptionTable := #[], attributes := #[] }
def k3m0 : Method := { name := "<init>", desc := "(IIIII)V", sig := { parameters := [.int, .int, .int, .int, .int], returnType := none }, accessFlags := 0, code := some k3c0 }
def k3c1 : Code := { maxStack := 7, maxLocals := 1, code := prog_4_method_4_code, exceptionTable := #[], attributes := #[] }
def k3m1 : Method := { name := "ofLengthIn", desc := "(I)Lcom/example/nullward/nullward/Elements;", sig := { parameters := [.int], returnType := some (.object "com/example/nullward/nullward/Elements") }, accessFlags := 8, code := some k3c1 }
def k3c2 : Code := { maxStack := 2, maxLocals := 1, code := prog_4_method_5_code, exceptionTable := #[], attributes := #[] }
def k3m2 : Method := { name := "nonNull", desc := "()Z", sig := { parameters := [], returnType := some .boolean }, accessFlags := 0, code := some k3c2 }
def k3c3 : Code := { maxStack := 2, maxLocals := 1, code := prog_4_method_6_code, exceptionTable := #[], attributes := #[] }
def k3m3 : Method := { name := "inLoop", desc := "()Z", sig := { parameters := [], returnType := some .boolean }, accessFlags := 0, code := some k3c3 }
def k3c4 : Code := { maxStack := 7, maxLocals := 3, code := prog_4_method_8_code, exceptionTable := #[], attributes := #[] }
def k3m4 : Method := { name := "below", desc := "(II)Lcom/example/nullward/nullward/Elements;", sig := { parameters := [.int, .int], returnType := some (.object "com/example/nullward/nullward/Elements") }, accessFlags := 0, code := some k3c4 }
/-- com/example/nullward/nullward/Elements -/
def k3 : Class := { plain "com/example/nullward/nullward/Elements" (some 2) with
  accessFlags := 48
  interfaces := #[]
  cf := some (fileOf pool3 10 #[] #[{ accessFlags := 0, nameIndex := 7, descriptorIndex := 29, attributes := #[] }, { accessFlags := 8, nameIndex := 68, descriptorIndex := 69, attributes := #[] }, { accessFlags := 0, nameIndex := 70, descriptorIndex := 71, attributes := #[] }, { accessFlags := 0, nameIndex := 72, descriptorIndex := 71, attributes := #[] }, { accessFlags := 0, nameIndex := 74, descriptorIndex := 41, attributes := #[] }] 48 4 #[] #[{ accessFlags := 18, nameIndex := 13, descriptorIndex := 14, attributes := #[] }, { accessFlags := 18, nameIndex := 17, descriptorIndex := 14, attributes := #[] }, { accessFlags := 18, nameIndex := 20, descriptorIndex := 14, attributes := #[] }, { accessFlags := 18, nameIndex := 23, descriptorIndex := 14, attributes := #[] }, { accessFlags := 18, nameIndex := 26, descriptorIndex := 14, attributes := #[] }, { accessFlags := 24, nameIndex := 56, descriptorIndex := 14, attributes := #[] }, { accessFlags := 24, nameIndex := 58, descriptorIndex := 14, attributes := #[] }, { accessFlags := 24, nameIndex := 60, descriptorIndex := 14, attributes := #[] }, { accessFlags := 24, nameIndex := 62, descriptorIndex := 14, attributes := #[] }, { accessFlags := 24, nameIndex := 48, descriptorIndex := 33, attributes := #[] }, { accessFlags := 24, nameIndex := 32, descriptorIndex := 33, attributes := #[] }, { accessFlags := 24, nameIndex := 55, descriptorIndex := 33, attributes := #[] }])
  fields := #[{ name := "length", type := .int, accessFlags := 18, slot := 0, constantValue := 0 }, { name := "filled", type := .int, accessFlags := 18, slot := 1, constantValue := 0 }, { name := "lengthLocal", type := .int, accessFlags := 18, slot := 2, constantValue := 0 }, { name := "indexLocal", type := .int, accessFlags := 18, slot := 3, constantValue := 0 }, { name := "past", type := .int, accessFlags := 18, slot := 4, constantValue := 0 }, { name := "ALL", type := .int, accessFlags := 24, slot := 0, constantValue := 0 }, { name := "NONE", type := .int, accessFlags := 24, slot := 1, constantValue := 0 }, { name := "FIELDS", type := .int, accessFlags := 24, slot := 2, constantValue := 0 }, { name := "IN_LOOP", type := .int, accessFlags := 24, slot := 3, constantValue := 0 }, { name := "UNKNOWN", type := (.object "com/example/nullward/nullward/Elements"), accessFlags := 24, slot := 4, constantValue := 0 }, { name := "NON_NULL", type := (.object "com/example/nullward/nullward/Elements"), accessFlags := 24, slot := 5, constantValue := 0 }, { name := "OF_FIELDS", type := (.object "com/example/nullward/nullward/Elements"), accessFlags := 24, slot := 6, constantValue := 0 }]
  methods := #[k3m0, k3m1, k3m2, k3m3, k3m4]
  instanceTypes := #[.int, .int, .int, .int, .int]
  staticTypes := #[.int, .int, .int, .int, (.object "com/example/nullward/nullward/Elements"), (.object "com/example/nullward/nullward/Elements"), (.object "com/example/nullward/nullward/Elements")]
  resolved := Array.replicate 105 none
  statics := some 0 }

def pool4 : Array CpInfo := pool [(1, u "java/lang/Cloneable"), (0, .class_ 1), (0, u "java/lang/Object"), (0, .class_ 3)] 3

/-- java/lang/Cloneable -/
def k4 : Class := { plain "java/lang/Cloneable" (some 0) with
  accessFlags := 1537
  interfaces := #[]
  cf := some (fileOf pool4 2 #[] #[] 1537 4 #[] #[])
  fields := #[]
  methods := #[]
  instanceTypes := #[]
  staticTypes := #[]
  resolved := Array.replicate 8 none
  statics := none }

def pool5 : Array CpInfo := pool [(1, u "java/io/Serializable"), (0, .class_ 1), (0, u "java/lang/Object"), (0, .class_ 3)] 3

/-- java/io/Serializable -/
def k5 : Class := { plain "java/io/Serializable" (some 0) with
  accessFlags := 1537
  interfaces := #[]
  cf := some (fileOf pool5 2 #[] #[] 1537 4 #[] #[])
  fields := #[]
  methods := #[]
  instanceTypes := #[]
  staticTypes := #[]
  resolved := Array.replicate 8 none
  statics := none }

/-- the primitive byte -/
def k6 : Class := { plain "byte" none with kind := .primitive 'B', accessFlags := 0x411 }
/-- [B -/
def k7 : Class := { plain "[B" (some 0) with kind := .array 6 .byte, interfaces := #[4, 5], accessFlags := 1041 }

/-- the primitive int -/
def k8 : Class := { plain "int" none with kind := .primitive 'I', accessFlags := 0x411 }
/-- [I -/
def k9 : Class := { plain "[I" (some 0) with kind := .array 8 .int, interfaces := #[4, 5], accessFlags := 1041 }

def heap : Heap := #[{ cls := 3, slots := #[.int 0, .int 0, .int 0, .int 0, .ref 1, .ref 2, .ref 3], vm := .statics 3 },
  { cls := 3, slots := #[.int (-1), .int (-1), .int (-1), .int (-1), .int 0], vm := .none },
  { cls := 3, slots := #[.int (-1), .int (2147483647), .int (-1), .int (-1), .int 0], vm := .none },
  { cls := 3, slots := #[.int (-1), .int (-2), .int (-1), .int (-1), .int 0], vm := .none }]
def classes : Array Class := #[k0, k1, k2, k3, k4, k5, k6, k7, k8, k9]
def interned : List (Array UInt16 × Addr) := []
def slotsUsed : Nat := 22
def theMethod : MethodId := ⟨1, 2⟩
def args0 : Array Value := #[.int 5, .int 6, .int 1, .int 2, .int 3, .int 4]
def aboutOver (below : List Frame) : State where
  vm := { classes := classes, interned := interned.toArray }
  heap := heap
  slotsUsed := slotsUsed
  threads := #[{ frames := .invoking theMethod args0 :: below }]
def below0 : List Frame := [.native { method := ⟨0, 0⟩, args := #[] }]
def about1 : State := aboutOver below0
def p0 : Program := .bare "" "" ""
def e0 : Env := launch0.env 0 0 0
theorem w_frames : about1.frames = Frame.invoking theMethod args0 :: below0 := rfl
set_option maxRecDepth 65536 in
theorem w_args : argsFit about1.vm theMethod args0 = true := by decide +kernel
set_option maxRecDepth 65536 in
theorem w_heap : heapFits about1 = true := by decide +kernel
set_option maxRecDepth 65536 in
theorem w_runnable : about1.curStatus? = some .runnable := by decide +kernel
set_option maxRecDepth 65536 in
theorem w_alone : about1.alone = true := by decide +kernel
set_option maxRecDepth 65536 in
theorem w_named : about1.methodNamed? x = some theMethod := by decide +kernel
set_option maxRecDepth 65536 in
theorem w_hears : about1.hears theMethod below0 = true := by decide +kernel
set_option maxRecDepth 65536 in
theorem w_ripe : about1.ripe theMethod args0 below0 = true := by decide +kernel
theorem w_running : about1.status = .running := rfl
set_option maxRecDepth 65536 in
theorem w_room : about1.hasRoom e0.platform room_1 = true :=
  launch0.hasRoom_least _ room_1 (by decide +kernel) (by decide +kernel) (by decide +kernel) (by decide +kernel) (by decide +kernel) (by decide +kernel)
theorem allAtoms_all (ts : List Jvm.Cond) (a : Array Jvm.Value) (st : Jvm.State) : (allAtoms ts).before a st = ts.all (fun c => c.before a st) := by
  induction ts with
  | nil => rfl
  | cons c t ih =>
    show (Jvm.Cond.and c (allAtoms t)).before a st = _
    rw [Jvm.Cond.before_and, ih, List.all_cons]
def words1 : List Jvm.Cond := Jvm.Cond.code x code maxLocals ret :: tables_1
/-- a 'code' word, met by the world's own term for the bytes: nothing is compared byte by byte -/
theorem code_word {y : MethodName} {bytes : ByteArray} {mx : Nat} {rt : Option FieldType} {a : Array Value} {s : State} {m : MethodId} {meth : Method} {c : Code} (h1 : s.methodNamed? y = some m) (h2 : s.vm.method? m = some meth) (h3 : meth.code = some c) (h4 : c.code = bytes)
    (h5 : (c.maxLocals == mx && c.exceptionTable.isEmpty && decide (c.maxStack ≤ mostOperands) && decide (meth.sig.returnType = rt) && !meth.locks && decide (parseMethodDescriptor y.desc = some meth.sig)) = true) : (Jvm.Cond.code y bytes mx rt).before a s = true := by
  simp only [Bool.and_eq_true, beq_iff_eq, Bool.not_eq_true', decide_eq_true_eq] at h5
  obtain ⟨⟨⟨⟨⟨g1, g2⟩, g3⟩, g4⟩, g5⟩, g6⟩ := h5
  simp [Cond.before, Cond.holds, Cond.value, h1, h2, h3, h4, g1, g2, g3, g4, g5, g6]
def isCode : Jvm.Cond → Bool
  | .code _ _ _ _ => true
  | _ => false
theorem all_split {L : List Jvm.Cond} {P : Jvm.Cond → Bool} (h1 : L.all (fun c => isCode c || P c) = true) (h2 : ∀ c ∈ L.filter isCode, P c = true) : L.all P = true := by
  refine List.all_eq_true.mpr fun c hc => ?_
  have h := List.all_eq_true.mp h1 c hc
  rcases Bool.eq_false_or_eq_true (isCode c) with hi | hi
  · exact h2 c (List.mem_filter.mpr ⟨hc, hi⟩)
  · simpa [hi] using h
set_option maxRecDepth 65536 in
theorem w_c0 : (Jvm.Cond.code x code maxLocals ret).before args0 about1 = true := code_word (m := ⟨1, 2⟩) (meth := k1m2) (c := k1c2) (by decide +kernel) rfl rfl rfl (by decide +kernel)
set_option maxRecDepth 65536 in
theorem w_c1 : (Jvm.Cond.code ({ cls := "com/example/nullward/nullward/ElementsInLoopPinLaw", name := "pickFilled", desc := "(II)I" } : Jvm.MethodName) method_2_code (3 : Nat) (Option.some Jvm.ClassFile.FieldType.int)).before args0 about1 = true := code_word (m := ⟨1, 1⟩) (meth := k1m1) (c := k1c1) (by decide +kernel) rfl rfl rfl (by decide +kernel)
set_option maxRecDepth 65536 in
theorem w_c2 : (Jvm.Cond.code ({ cls := "com/example/nullward/nullward/Elements", name := "<init>", desc := "(IIIII)V" } : Jvm.MethodName) prog_4_method_2_code (6 : Nat) (Option.none : Option Jvm.ClassFile.FieldType)).before args0 about1 = true := code_word (m := ⟨3, 0⟩) (meth := k3m0) (c := k3c0) (by decide +kernel) rfl rfl rfl (by decide +kernel)
set_option maxRecDepth 65536 in
theorem w_c3 : (Jvm.Cond.code ({ cls := "java/lang/Record", name := "<init>", desc := "()V" } : Jvm.MethodName) jdk_30_method_1_code (1 : Nat) (Option.none : Option Jvm.ClassFile.FieldType)).before args0 about1 = true := code_word (m := ⟨2, 0⟩) (meth := k2m0) (c := k2c0) (by decide +kernel) rfl rfl rfl (by decide +kernel)
set_option maxRecDepth 65536 in
theorem w_c4 : (Jvm.Cond.code ({ cls := "java/lang/Object", name := "<init>", desc := "()V" } : Jvm.MethodName) object_method_1_code (1 : Nat) (Option.none : Option Jvm.ClassFile.FieldType)).before args0 about1 = true := code_word (m := ⟨0, 0⟩) (meth := k0m0) (c := k0c0) (by decide +kernel) rfl rfl rfl (by decide +kernel)
set_option maxRecDepth 65536 in
theorem w_c5 : (Jvm.Cond.code ({ cls := "com/example/nullward/nullward/Elements", name := "inLoop", desc := "()Z" } : Jvm.MethodName) prog_4_method_6_code (1 : Nat) (Option.some Jvm.ClassFile.FieldType.boolean)).before args0 about1 = true := code_word (m := ⟨3, 3⟩) (meth := k3m3) (c := k3c3) (by decide +kernel) rfl rfl rfl (by decide +kernel)
set_option maxRecDepth 65536 in
theorem w_c6 : (Jvm.Cond.code ({ cls := "com/example/nullward/nullward/Elements", name := "ofLengthIn", desc := "(I)Lcom/example/nullward/nullward/Elements;" } : Jvm.MethodName) prog_4_method_4_code (1 : Nat) (Option.some (Jvm.ClassFile.FieldType.object "com/example/nullward/nullward/Elements"))).before args0 about1 = true := code_word (m := ⟨3, 1⟩) (meth := k3m1) (c := k3c1) (by decide +kernel) rfl rfl rfl (by decide +kernel)
set_option maxRecDepth 65536 in
theorem w_c7 : (Jvm.Cond.code ({ cls := "com/example/nullward/nullward/Elements", name := "below", desc := "(II)Lcom/example/nullward/nullward/Elements;" } : Jvm.MethodName) prog_4_method_8_code (3 : Nat) (Option.some (Jvm.ClassFile.FieldType.object "com/example/nullward/nullward/Elements"))).before args0 about1 = true := code_word (m := ⟨3, 4⟩) (meth := k3m4) (c := k3c4) (by decide +kernel) rfl rfl rfl (by decide +kernel)
set_option maxRecDepth 65536 in
theorem w_c8 : (Jvm.Cond.code ({ cls := "com/example/nullward/nullward/Elements", name := "nonNull", desc := "()Z" } : Jvm.MethodName) prog_4_method_5_code (1 : Nat) (Option.some Jvm.ClassFile.FieldType.boolean)).before args0 about1 = true := code_word (m := ⟨3, 2⟩) (meth := k3m2) (c := k3c2) (by decide +kernel) rfl rfl rfl (by decide +kernel)
def codes1 : List Jvm.Cond := [Jvm.Cond.code x code maxLocals ret, Jvm.Cond.code ({ cls := "com/example/nullward/nullward/ElementsInLoopPinLaw", name := "pickFilled", desc := "(II)I" } : Jvm.MethodName) method_2_code (3 : Nat) (Option.some Jvm.ClassFile.FieldType.int), Jvm.Cond.code ({ cls := "com/example/nullward/nullward/Elements", name := "<init>", desc := "(IIIII)V" } : Jvm.MethodName) prog_4_method_2_code (6 : Nat) (Option.none : Option Jvm.ClassFile.FieldType), Jvm.Cond.code ({ cls := "java/lang/Record", name := "<init>", desc := "()V" } : Jvm.MethodName) jdk_30_method_1_code (1 : Nat) (Option.none : Option Jvm.ClassFile.FieldType), Jvm.Cond.code ({ cls := "java/lang/Object", name := "<init>", desc := "()V" } : Jvm.MethodName) object_method_1_code (1 : Nat) (Option.none : Option Jvm.ClassFile.FieldType), Jvm.Cond.code ({ cls := "com/example/nullward/nullward/Elements", name := "inLoop", desc := "()Z" } : Jvm.MethodName) prog_4_method_6_code (1 : Nat) (Option.some Jvm.ClassFile.FieldType.boolean), Jvm.Cond.code ({ cls := "com/example/nullward/nullward/Elements", name := "ofLengthIn", desc := "(I)Lcom/example/nullward/nullward/Elements;" } : Jvm.MethodName) prog_4_method_4_code (1 : Nat) (Option.some (Jvm.ClassFile.FieldType.object "com/example/nullward/nullward/Elements")), Jvm.Cond.code ({ cls := "com/example/nullward/nullward/Elements", name := "below", desc := "(II)Lcom/example/nullward/nullward/Elements;" } : Jvm.MethodName) prog_4_method_8_code (3 : Nat) (Option.some (Jvm.ClassFile.FieldType.object "com/example/nullward/nullward/Elements")), Jvm.Cond.code ({ cls := "com/example/nullward/nullward/Elements", name := "nonNull", desc := "()Z" } : Jvm.MethodName) prog_4_method_5_code (1 : Nat) (Option.some Jvm.ClassFile.FieldType.boolean)]
set_option maxRecDepth 65536 in
theorem codes_eq : words1.filter isCode = codes1 := rfl
theorem w_codes : ∀ c ∈ words1.filter isCode, c.before args0 about1 = true := by
  rw [codes_eq]
  intro c hc
  simp only [codes1, List.mem_cons, List.not_mem_nil, or_false] at hc
  rcases hc with rfl | rfl | rfl | rfl | rfl | rfl | rfl | rfl | rfl
  · exact w_c0
  · exact w_c1
  · exact w_c2
  · exact w_c3
  · exact w_c4
  · exact w_c5
  · exact w_c6
  · exact w_c7
  · exact w_c8
set_option maxRecDepth 65536 in
theorem w_t1 : (words1.take 24).all (fun c => isCode c || c.before args0 about1) = true := by decide +kernel
set_option maxRecDepth 65536 in
theorem w_t2 : ((words1.drop 24).take 24).all (fun c => isCode c || c.before args0 about1) = true := by decide +kernel
set_option maxRecDepth 65536 in
theorem w_t3 : ((words1.drop 24).drop 24).all (fun c => isCode c || c.before args0 about1) = true := by decide +kernel
theorem w_tables : (allAtoms (Jvm.Cond.code x code maxLocals ret :: tables_1)).before args0 about1 = true := by
  rw [allAtoms_all]
  show words1.all (fun c => c.before args0 about1) = true
  refine all_split ?_ w_codes
  rw [← List.take_append_drop 24 words1, List.all_append, w_t1, ← List.take_append_drop 24 (words1.drop 24), List.all_append, w_t2, w_t3]
  rfl
set_option maxRecDepth 65536 in
theorem w_case : (Jvm.Cond.and given_1 narrow_1).before args0 about1 = true := by decide +kernel
theorem w_applies : (headSpec (Jvm.Cond.code x code maxLocals ret :: tables_1) room_1).applies x e0.platform about1 = true :=
  (Spec.applies_iff w_frames).mpr ⟨w_running, w_runnable, w_alone, w_named, w_hears, w_ripe, w_room, w_tables⟩
theorem atStart : AtStart classFile x code maxLocals ret World_1 tables_1 room_1 Calls_1 rest_1 Pre_1 launch0 p0 e0 about1 theMethod args0 below0 :=
  ⟨lists_1, trivial, launch0.admits_env _ _ _, launch0.least_env, fairChoices_fair.cas, fairChoices_fair.clock, w_frames, w_args, w_heap, w_applies, trivial, trivial, w_case⟩
end start1
theorem witness_1 : WitnessClaimed_1 := ⟨start1.p0, start1.e0, start1.about1, start1.theMethod, start1.args0, start1.below0, start1.atStart⟩
end Jvm.Pilot.@@N@@
