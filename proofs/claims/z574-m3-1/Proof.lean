import JvmDerived
import JvmDerived.Pilot.@@N@@Statement
import JvmDerived.Pilot.@@N@@Code
set_option linter.unusedVariables false
set_option linter.unusedSimpArgs false
namespace Jvm.Pilot.@@N@@
open Jvm Jvm.ClassFile Sem Op Lib Jvm.Free Jvm.Stand Jvm.LawKit Jvm.RoadKit Bundle Jvm.Pilot.@@N@@.Jvm.D
section Own
variable {p : Program} {l : Launch} {e : Env} {R : Room} {s : State} {m : MethodId} {args : Array Value} {below : List Frame} {meth : Method} {c : Code} {T T' : State} {locs : List Loc} {cells slots : Nat} {F : State → Outcome → Prop} {g g' : JFrame} {Z : State} {a0 : Array Value} {h h0 : Heap}
/-- the run from T with g on top ends, and F holds of its end -/
def own_G (p : Program) (e : Env) (below : List Frame) (F : State → Outcome → Prop) (T : State) (g : JFrame) : Prop := ∃ t o, Steps p.tables e below (T.setTop g) t ∧ t.status = .running ∧ Ended t below o ∧ F t o
theorem own_st (h : ∀ t, Steps p.tables e below (T'.setTop g') t → Steps p.tables e below (T.setTop g) t) (k : own_G p e below F T' g') : own_G p e below F T g := by
  obtain ⟨t, o, h1, h2⟩ := k
  exact ⟨t, o, h t h1, h2⟩
theorem own_tr (h : Steps p.tables e below (T.setTop g) (T'.setTop g')) (k : own_G p e below F T' g') : own_G p e below F T g := own_st (fun _ q => h.trans q) k
def own_F (Q : Option Value → Heap → List Loc → Prop) (s : State) (k n : Nat) (t : State) (o : Outcome) : Prop := ∃ v L, o = .returned v ∧ Q v t.heap L ∧ FrameEnd s o t L k n
theorem own_ret {Q : Option Value → Heap → List Loc → Prop} {k n : Nat} {v : Option Value} (X : Stand p l e R s m args below meth c T locs cells slots) (hlk : meth.locks = false) (hv : meth.sig.returnType = none → v = none) (hq : Q v T.heap locs) (h1 : cells ≤ k) (h2 : slots ≤ n)
    (hs : ∀ fs, (∀ (f : JFrame) (acts : List Action), f.method = m → f.locked = none → f.entered = [] → (doReturn e (T.setTop f) acts v).1 = T.setFrames fs) → Steps p.tables e below (T.setTop g) (T.setFrames fs)) : own_G p e below (own_F Q s k n) T g := by
  obtain ⟨fs, hr, hrun, hended, hW, hsame⟩ := X.leave (v := v) hv hlk
  exact ⟨_, _, hs fs hr, hrun, hended, v, locs, rfl, hq, ⟨_, rfl⟩, hW, hsame.mono h1 h2⟩
theorem own_retI {Q : Option Value → Heap → List Loc → Prop} {k n pc : Nat} {Ls : Array Slot} {z : Int32} {rest : List Value} (X : Stand p l e R s m args below meth c T locs cells slots) (hx : p.tables.exec = Jvm.exec) (hlk : meth.locks = false) (hret : meth.sig.returnType = some .int) (hd : decode c.code pc = .ok (.ireturn, 1)) (h1 : cells ≤ k) (h2 : slots ≤ n) (hq : Q (some (.int z)) T.heap locs) :
    own_G p e below (own_F Q s k n) T (mkF m pc Ls (.int z :: rest)) :=
  own_ret X hlk (fun q => by rw [hret] at q; cases q) hq h1 h2 fun fs hr => retOut X hx hret rfl (Or.inl ⟨rfl, Or.inl rfl, _, rfl⟩) hd hr
theorem own_retB {Q : Option Value → Heap → List Loc → Prop} {k n pc : Nat} {Ls : Array Slot} {z w : Int32} {rest : List Value} (X : Stand p l e R s m args below meth c T locs cells slots) (hx : p.tables.exec = Jvm.exec) (hlk : meth.locks = false) (hret : meth.sig.returnType = some .boolean) (hd : decode c.code pc = .ok (.ireturn, 1)) (h1 : cells ≤ k) (h2 : slots ≤ n) (hz : nar .boolean z = w) (hq : Q (some (.int w)) T.heap locs) :
    own_G p e below (own_F Q s k n) T (mkF m pc Ls (.int z :: rest)) := by
  subst hz
  exact own_ret X hlk (fun q => by rw [hret] at q; cases q) hq h1 h2 fun fs hr => retN X hx (t := .boolean) hret (by simp) hd hr
theorem own_retR {Q : Option Value → Heap → List Loc → Prop} {k n pc : Nat} {Ls : Array Slot} {w : Value} {C : String} {rest : List Value} (X : Stand p l e R s m args below meth c T locs cells slots) (hx : p.tables.exec = Jvm.exec) (hlk : meth.locks = false) (hret : meth.sig.returnType = some (.object C)) (hd : decode c.code pc = .ok (.areturn, 1)) (h1 : cells ≤ k) (h2 : slots ≤ n) (hw : w.isRef = true) (hq : Q (some w) T.heap locs) :
    own_G p e below (own_F Q s k n) T (mkF m pc Ls (w :: rest)) :=
  own_ret X hlk (fun q => by rw [hret] at q; cases q) hq h1 h2 fun fs hr => retOut X hx hret rfl (Or.inr (Or.inr (Or.inr (Or.inr ⟨rfl, rfl, hw⟩)))) hd hr
theorem own_retA {Q : Option Value → Heap → List Loc → Prop} {k n pc : Nat} {Ls : Array Slot} {w : Value} {ty : FieldType} {rest : List Value} (X : Stand p l e R s m args below meth c T locs cells slots) (hx : p.tables.exec = Jvm.exec) (hlk : meth.locks = false) (hret : meth.sig.returnType = some (.array ty)) (hd : decode c.code pc = .ok (.areturn, 1)) (h1 : cells ≤ k) (h2 : slots ≤ n) (hw : w.isRef = true) (hq : Q (some w) T.heap locs) :
    own_G p e below (own_F Q s k n) T (mkF m pc Ls (w :: rest)) :=
  own_ret X hlk (fun q => by rw [hret] at q; cases q) hq h1 h2 fun fs hr => retOut X hx hret rfl (Or.inr (Or.inr (Or.inr (Or.inr ⟨rfl, rfl, hw⟩)))) hd hr
theorem own_retJ {Q : Option Value → Heap → List Loc → Prop} {k n pc : Nat} {Ls : Array Slot} {z : Int64} {rest : List Value} (X : Stand p l e R s m args below meth c T locs cells slots) (hx : p.tables.exec = Jvm.exec) (hlk : meth.locks = false) (hret : meth.sig.returnType = some .long) (hd : decode c.code pc = .ok (.lreturn, 1)) (h1 : cells ≤ k) (h2 : slots ≤ n) (hq : Q (some (.long z)) T.heap locs) :
    own_G p e below (own_F Q s k n) T (mkF m pc Ls (.long z :: rest)) :=
  own_ret X hlk (fun q => by rw [hret] at q; cases q) hq h1 h2 fun fs hr => retOut X hx hret rfl (Or.inr (Or.inl ⟨rfl, rfl, _, rfl⟩)) hd hr
theorem own_retV {Q : Option Value → Heap → List Loc → Prop} {k n pc : Nat} {Ls : Array Slot} (X : Stand p l e R s m args below meth c T locs cells slots) (hx : p.tables.exec = Jvm.exec) (hlk : meth.locks = false) (hret : meth.sig.returnType = none) (hd : decode c.code pc = .ok (.return_, 1)) (h1 : cells ≤ k) (h2 : slots ≤ n) (hq : Q none T.heap locs) :
    own_G p e below (own_F Q s k n) T (mkF m pc Ls []) :=
  own_ret X hlk (fun _ => rfl) hq h1 h2 fun fs hr => X.returnOut hx hret hd hr
/-- what a body promises at the heap h0 -/
abbrev own_C (l : Launch) (Z : State) (y : MethodName) (bytes : ByteArray) (ml : Nat) (rt : Option FieldType) (ws : List Jvm.Cond) (rm : Room) (as' : Array Value) (h0 : Heap) (Q : Option Value → Heap → List Loc → Prop) : Prop :=
  MetFree l y (head1 (Jvm.Cond.code y bytes ml rt :: ws) rm) (fun a U => a = as' ∧ Z.Warmed39 U.vm ∧ U.heap = h0) (fun _ _ _ _ _ => True) (fun _ U o U' => ∃ v L, o = .returned v ∧ Q v U'.heap L ∧ FrameEnd U o U' L rm.cells rm.slots)
theorem own_body {y : MethodName} {bytes : ByteArray} {ml : Nat} {rt : Option FieldType} {ws : List Jvm.Cond} {rm : Room} {as' : Array Value} {Q : Option Value → Heap → List Loc → Prop} (pn : plainFor y = true) {f0 : MethodId → JFrame} (hef : ∀ m, entryFrame m as' ml = f0 m)
    (body : ∀ (p : Program) (e : Env) (s : State) (m : MethodId) (below : List Frame) (meth : Method) (c : Code) (s₁ : State), p.tables.exec = Jvm.exec → c.code = bytes → c.maxLocals = ml → s.vm.findClass y.cls = some m.cls → meth.name = y.name → meth.sig.returnType = rt → meth.locks = false → Z.Warmed39 s.vm → Stand p l e rm s m as' below meth c s₁ [] 0 0 → s₁.heap = h0 →
      own_G p e below (own_F Q s rm.cells rm.slots) s₁ (f0 m)) : own_C l Z y bytes ml rt ws rm as' h0 Q := by
  refine MetFree.of_bodySF pn hisR ?_
  intro p e s m args below meth c s₁ Bd hml0 hP hK
  obtain ⟨rfl, hZ, hh⟩ := hP
  have e0 : s₁.heap = h0 := by rw [← hh, Bd.state]; rfl
  have hnm := (name_of_methodNamed Bd.named Bd.method).1
  have q := body p e s m below meth c s₁ Bd.exec Bd.bytes hml0 (findClass_of_methodNamed Bd.named) hnm Bd.returns Bd.notSynchronized hZ (Stand.of_body Bd) e0
  rw [← hef m] at q
  exact q
theorem own_callS {own : String} {index : Nat} {y : MethodName} {bytes : ByteArray} {ml : Nat} {rt : Option FieldType} {rm : Room} {Q : Option Value → Heap → List Loc → Prop} {argsL : List Value} (W : Nat) (rest : List Value)
    (C : own_C l Z y bytes ml rt [] rm argsL.toArray h Q) (X : Stand p l e R s m args below meth c T locs cells slots) (hx : p.tables.exec = Jvm.exec) (hZ : Z.Warmed39 s.vm) (hown : s.vm.findClass own = some m.cls)
    (w1 : (Jvm.Cond.methodLink own index y).before a0 Z = true) (w2 : (Jvm.Cond.static y).before a0 Z = true) (w3 : (Jvm.Cond.initialized y.cls).before a0 Z = true) (w4 : (Jvm.Cond.code y bytes ml rt).before a0 Z = true) (hy : y.cls ≠ "java/lang/invoke/MethodHandle" ∧ y.cls ≠ "java/lang/invoke/VarHandle")
    (hf : rm.frames + 1 ≤ R.frames) (hlo : W + (ml + 11) + rm.locals ≤ R.locals) (hc : cells + rm.cells ≤ R.cells) (hsl : slots + rm.slots ≤ R.slots) (eT : T.heap = h)
    (hg : g.method = m) (hsize : g.locals.size = c.maxLocals) (hlen : ∀ sig, parseMethodDescriptor y.desc = some sig → argsL.length = sig.parameters.length) (hstack : g.stack = argsL.reverse ++ rest) (hW : 2 * g.monitorRoom + (rest.map fun v => v.category).sum ≤ W)
    (hd : decode c.code g.pc = .ok (.invokestatic index, 3)) :
    ∃ v T' L, Q v T'.heap L ∧ Stand p l e R s m args below meth c T' (locs ++ L) (cells + rm.cells) (slots + rm.slots) ∧ ∀ t, Steps p.tables e below (T'.setTop { g with pc := g.pc + 3, stack := v.toList ++ rest }) t → Steps p.tables e below (T.setTop g) t := by
  obtain ⟨v, _, ⟨T4, L4, k4, n4⟩, -, X4, ⟨Lc4, hQ4, l4, y4, z4⟩, st4⟩ := Jvm.LawKit.callS X hx (y := y) hown (mvT hZ w1) (mvT hZ w2) (mvT hZ w3) (mvT hZ w4) hy (backOf (W := W) C hZ w4 w3 hf hlo) hg hsize hlen hstack hW hd (fun _ _ => ⟨rfl, eT, hc, hsl⟩)
  dsimp only [Pt.U, Pt.locs, Pt.cells, Pt.slots] at X4 l4 y4 z4 st4 hQ4
  subst l4 y4 z4
  exact ⟨v, T4, Lc4, hQ4, X4, st4⟩
theorem own_callV {own : String} {index : Nat} {y z : MethodName} {bytes : ByteArray} {ml : Nat} {rt : Option FieldType} {rm : Room} {Q : Option Value → Heap → List Loc → Prop} {b : Addr} {argsL : List Value} (W : Nat) (rest : List Value) {K : String}
    (C : own_C l Z z bytes ml rt [] rm (.ref b :: argsL).toArray h Q) (X : Stand p l e R s m args below meth c T locs cells slots) (hx : p.tables.exec = Jvm.exec) (hZ : Z.Warmed39 s.vm) (hown : s.vm.findClass own = some m.cls)
    (w1 : (Jvm.Cond.methodLink own index y).before a0 Z = true) (w2 : (Jvm.Cond.declares y).before a0 Z = true) (hnf : NotFace s y) (w3 : (Jvm.Cond.selects K y z).before a0 Z = true) (w5 : (Jvm.Cond.instanceMethod z).before a0 Z = true) (w4 : (Jvm.Cond.code z bytes ml rt).before a0 Z = true) (w6 : (Jvm.Cond.initialized z.cls).before a0 Z = true) (hy : y.cls ≠ "java/lang/invoke/MethodHandle" ∧ y.cls ≠ "java/lang/invoke/VarHandle")
    (hf : rm.frames + 1 ≤ R.frames) (hlo : W + (ml + 11) + rm.locals ≤ R.locals) (hc : cells + rm.cells ≤ R.cells) (hsl : slots + rm.slots ≤ R.slots) (eT : T.heap = h) (E : Exa Z h b K)
    (hg : g.method = m) (hsize : g.locals.size = c.maxLocals) (hlen : ∀ sig, parseMethodDescriptor y.desc = some sig → argsL.length = sig.parameters.length) (hstack : g.stack = argsL.reverse ++ .ref b :: rest) (hW : 2 * g.monitorRoom + (rest.map fun v => v.category).sum ≤ W)
    (hd : decode c.code g.pc = .ok (.invokevirtual index, 3)) :
    ∃ v T' L, Q v T'.heap L ∧ Stand p l e R s m args below meth c T' (locs ++ L) (cells + rm.cells) (slots + rm.slots) ∧ ∀ t, Steps p.tables e below (T'.setTop { g with pc := g.pc + 3, stack := v.toList ++ rest }) t → Steps p.tables e below (T.setTop g) t := by
  obtain ⟨cq4, kq4, q4a, q4b, q4c⟩ := isOf hZ eT E
  obtain ⟨v, _, ⟨T4, L4, k4, n4⟩, -, X4, ⟨Lc4, hQ4, l4, y4, z4⟩, st4⟩ := X.virtualBack hx (y := y) (z := z) hown (mvT hZ w1) (mvT hZ w2) hnf (mvT hZ w3) (mvT hZ w5) hy (backOf (W := W) C hZ w4 w6 hf hlo) q4a q4c hg hsize (Steps.refl _) hlen hstack hW hd (fun _ _ => ⟨rfl, eT, hc, hsl⟩)
  dsimp only [Pt.U, Pt.locs, Pt.cells, Pt.slots] at X4 l4 y4 z4 st4 hQ4
  subst l4 y4 z4
  exact ⟨v, T4, Lc4, hQ4, X4, fun t k => st4.trans k⟩
theorem own_callI {own : String} {index : Nat} {y : MethodName} {bytes : ByteArray} {ml : Nat} {rm : Room} {Q : Option Value → Heap → List Loc → Prop} {b : Addr} {argsL : List Value} (W : Nat) (rest : List Value)
    (C : own_C l Z y bytes ml none [] rm (.ref b :: argsL).toArray h Q) (X : Stand p l e R s m args below meth c T locs cells slots) (hx : p.tables.exec = Jvm.exec) (hZ : Z.Warmed39 s.vm) (hown : s.vm.findClass own = some m.cls) (hy1 : y.name = "<init>")
    (w1 : (Jvm.Cond.methodLink own index y).before a0 Z = true) (w5 : (Jvm.Cond.instanceMethod y).before a0 Z = true) (w4 : (Jvm.Cond.code y bytes ml none).before a0 Z = true) (w6 : (Jvm.Cond.initialized y.cls).before a0 Z = true) (hy : y.cls ≠ "java/lang/invoke/MethodHandle" ∧ y.cls ≠ "java/lang/invoke/VarHandle")
    (hf : rm.frames + 1 ≤ R.frames) (hlo : W + (ml + 11) + rm.locals ≤ R.locals) (hc : cells + rm.cells ≤ R.cells) (hsl : slots + rm.slots ≤ R.slots) (eT : T.heap = h)
    (hg : g.method = m) (hsize : g.locals.size = c.maxLocals) (hlen : ∀ sig, parseMethodDescriptor y.desc = some sig → argsL.length = sig.parameters.length) (hstack : g.stack = argsL.reverse ++ .ref b :: rest) (hW : 2 * g.monitorRoom + (rest.map fun v => v.category).sum ≤ W)
    (hd : decode c.code g.pc = .ok (.invokespecial index, 3)) :
    ∃ v T' L, Q v T'.heap L ∧ Stand p l e R s m args below meth c T' (locs ++ L) (cells + rm.cells) (slots + rm.slots) ∧ ∀ t, Steps p.tables e below (T'.setTop { g with pc := g.pc + 3, stack := v.toList ++ rest }) t → Steps p.tables e below (T.setTop g) t := by
  obtain ⟨v, _, ⟨T4, L4, k4, n4⟩, -, X4, ⟨Lc4, hQ4, l4, y4, z4⟩, st4⟩ := X.specialBack hx (y := y) hy1 hown (mvT hZ w1) (mvT hZ w5) (mvT hZ w4) hy (backOf (W := W) C hZ w4 w6 hf hlo) hg hsize (Steps.refl _) (a := b) hlen hstack hW hd (fun _ _ => ⟨rfl, eT, hc, hsl⟩)
  dsimp only [Pt.U, Pt.locs, Pt.cells, Pt.slots] at X4 l4 y4 z4 st4 hQ4
  subst l4 y4 z4
  exact ⟨v, T4, Lc4, hQ4, X4, fun t k => st4.trans k⟩
theorem own_sta {C n d K : String} {args : Array Value} (hx : (Jvm.Cond.exactly (Term.static C n d) K).value args Z none Z [] = some true) (hi : (Jvm.Cond.initialized C).before args Z = true) (hl : (Jvm.Cond.laysStatic C n d).before args Z = true) :
    ∃ a, (Term.static C n d).eval args Z none [] Z = some (.ref a) ∧ Sta Z Z.heap C n d (.ref a) ∧ Exa Z Z.heap a K := by
  obtain ⟨a', c', cell, k, e1, -⟩ := Cond.exactly_spec (Cond.before_iff.mpr hx)
  exact ⟨a', e1, Sta.start e1 (Or.inr ⟨hi, hl⟩), Exa.start e1 hx⟩
theorem own_fld {args : Array Value} {t : Term} {a : Addr} {C n d : String} {z : Int32} (ev : t.eval args Z none [] Z = some (.ref a)) (hx : (Jvm.Cond.eq (Term.field t C n d) (Term.int z)).value args Z none Z [] = some true) : Fld Z Z.heap a C n d (.int z) := by
  apply Fld.start
  cases hf : Z.fieldOf? a C n d with
  | none => simp [Cond.value, Term.eval, ev, hf] at hx
  | some v => cases v <;> simp [Cond.value, Term.eval, ev, hf] at hx ⊢; exact hx
/-- a body that writes nothing: it returns r -/
def own_P (r : Value) (h0 : Heap) (v : Option Value) (h : Heap) (L : List Loc) : Prop := v = some r ∧ h = h0 ∧ L = []
theorem own_ite {q : Prop} [Decidable q] {x y : Addr} {K : String} (h1 : Exa Z h x K) (h2 : Exa Z h y K) : Exa Z h (if q then x else y) K := by split <;> assumption
theorem own_or {q : Prop} [Decidable q] {r x y : α} (h : r = if q then x else y) : r = x ∨ r = y := by rw [h]; split <;> simp
theorem own_bit (x : Int32) : x &&& 1 = 0 ∨ x &&& 1 = 1 := by
  have h1 : (x &&& 1).toBitVec = x.toBitVec &&& 1#32 := rfl
  have h2 : (x.toBitVec &&& 1#32).toNat = x.toBitVec.toNat % 2 := by rw [BitVec.toNat_and]; exact Nat.and_two_pow_sub_one_eq_mod _ 1
  rcases Nat.mod_two_eq_zero_or_one x.toBitVec.toNat with h | h
  · left; apply Int32.toBitVec_inj.mp; apply BitVec.eq_of_toNat_eq; rw [h1, h2, h]; rfl
  · right; apply Int32.toBitVec_inj.mp; apply BitVec.eq_of_toNat_eq; rw [h1, h2, h]; rfl
theorem own_plain {a : Addr} {C : String} (E : Exa Z h a C) : ∀ cell : Cell, h[a]? = some cell → cell.vm.isStatics = false := fun cell hc => by
  obtain ⟨c1, _, h1, -, -, h4, -⟩ := E
  cases h1.symm.trans hc; exact h4
theorem own_sta_keep {h' : Heap} {ws : List Addr} {C n d : String} {v : Value} (F : Sta Z h C n d v) (K : Keep h h' ws) (q : ∀ x ∈ ws, ∀ cell : Cell, h'[x]? = some cell → cell.vm.isStatics = false) : Sta Z h' C n d v := by
  obtain ⟨cf, i, k, f, st, cell, h1, h2, h3, h4, h5, h6, h7⟩ := F
  refine ⟨cf, i, k, f, st, cell, h1, h2, h3, h4, K.2.1 st cell h5 (fun m => ?_), h6, h7⟩
  obtain ⟨c', e1, -, e3, -⟩ := K.2.2 st cell h5
  have := q st m c' e1
  rw [e3, h6] at this; cases this
theorem own_ext {h' : Heap} (K : Keep h h' []) : Ext h h' := ⟨K.1, fun a c q => K.2.1 a c q nin0⟩
theorem own_keep {h' : Heap} (E : Ext h h') : Keep h h' [] := (Keep.refl h []).ext E
/-- a body that returns nothing and writes nothing -/
def own_V (h0 : Heap) (v : Option Value) (h : Heap) (L : List Loc) : Prop := v = none ∧ h = h0 ∧ L = []
theorem own_nar {z : Int32} (h : z = 0 ∨ z = 1) : nar .boolean z = z := by rcases h with rfl | rfl <;> rfl
theorem own_01 {q : Prop} [Decidable q] {x y : Int32} (h1 : x = 0 ∨ x = 1) (h2 : y = 0 ∨ y = 1) : (if q then x else y) = 0 ∨ (if q then x else y) = 1 := by split <;> assumption
end Own
section OwnArv
variable {p : Program} {l : Launch} {e : Env} {R : Room} {s : State} {m : MethodId} {args : Array Value} {below : List Frame} {meth : Method} {c : Code} {T : State} {locs : List Loc} {cells slots : Nat} {Z : State} {a0 : Array Value} {h h' : Heap} {g : JFrame}
theorem own_alen {a : Addr} {k : ClassId} {ty : FieldType} {z : Int32} {vs : List Value} {dv : Value} (A : Arv Z h a k ty z vs dv) (X : Stand p l e R s m args below meth c T locs cells slots) (hx : p.tables.exec = Jvm.exec) (hZ : Z.Warmed39 s.vm) (eT : T.heap = h) (hg : g.method = m) {rest : List Value} (hs : g.stack = .ref a :: rest) (hd : decode c.code g.pc = .ok (.arraylength, 1)) :
    ∀ t, Steps p.tables e below (T.setTop { g with pc := g.pc + 1, stack := .int z :: rest }) t → Steps p.tables e below (T.setTop g) t := by
  obtain ⟨cl, Ar, -, S, N, -, -⟩ := A
  intro t k
  refine X.arraylength hx (by rw [eT]; exact Ar.1) (State.isArrayOf_alike hZ.alike Ar.2.1) hg hs hd t ?_
  rw [len_of S N]; exact k
end OwnArv
section OwnW
variable {p : Program} {l : Launch} {e : Env} {R : Room} {s : State} {m : MethodId} {args : Array Value} {below : List Frame} {meth : Method} {c : Code} {T T' : State} {locs : List Loc} {cells slots : Nat} {F : State → Outcome → Prop} {g g' : JFrame} {Z : State} {a0 : Array Value} {h h0 h' : Heap}
theorem own_callP {own : String} {index : Nat} {y : MethodName} {bytes : ByteArray} {ml : Nat} {rt : Option FieldType} {rm : Room} {Q : Option Value → Heap → List Loc → Prop} {b : Addr} {argsL : List Value} (W : Nat) (rest : List Value) {K : String}
    (C : own_C l Z y bytes ml rt [] rm (.ref b :: argsL).toArray h Q) (X : Stand p l e R s m args below meth c T locs cells slots) (hx : p.tables.exec = Jvm.exec) (hZ : Z.Warmed39 s.vm) (hown : s.vm.findClass own = some m.cls)
    (w1 : (Jvm.Cond.methodLink own index y).before a0 Z = true) (w5 : (Jvm.Cond.instanceMethod y).before a0 Z = true) (w3 : (Jvm.Cond.selects y.cls y y).before a0 Z = true) (w7 : (Jvm.Cond.privateMethod y).before a0 Z = true) (w4 : (Jvm.Cond.code y bytes ml rt).before a0 Z = true) (w6 : (Jvm.Cond.initialized y.cls).before a0 Z = true) (hy : y.cls ≠ "java/lang/invoke/MethodHandle" ∧ y.cls ≠ "java/lang/invoke/VarHandle")
    (hf : rm.frames + 1 ≤ R.frames) (hlo : W + (ml + 11) + rm.locals ≤ R.locals) (hc : cells + rm.cells ≤ R.cells) (hsl : slots + rm.slots ≤ R.slots) (eT : T.heap = h) (E : Exa Z h b K)
    (hg : g.method = m) (hsize : g.locals.size = c.maxLocals) (hlen : ∀ sig, parseMethodDescriptor y.desc = some sig → argsL.length = sig.parameters.length) (hstack : g.stack = argsL.reverse ++ .ref b :: rest) (hW : 2 * g.monitorRoom + (rest.map fun v => v.category).sum ≤ W)
    (hd : decode c.code g.pc = .ok (.invokevirtual index, 3)) :
    ∃ v T' L, Q v T'.heap L ∧ Stand p l e R s m args below meth c T' (locs ++ L) (cells + rm.cells) (slots + rm.slots) ∧ ∀ t, Steps p.tables e below (T'.setTop { g with pc := g.pc + 3, stack := v.toList ++ rest }) t → Steps p.tables e below (T.setTop g) t := by
  obtain ⟨cq, q1, q2⟩ := E.cell
  obtain ⟨v, _, ⟨T4, L4, k4, n4⟩, -, X4, ⟨Lc4, hQ4, l4, y4, z4⟩, st4⟩ := X.privateBack hx (y := y) hown (mvT hZ w1) (mvT hZ w5) (mvT hZ w3) (Cond.privateMethod_at (mvP hZ w7 (args := #[]))) (mvT hZ w4) hy (backOf (W := W) C hZ w4 w6 hf hlo) hg hsize (Steps.refl _) (a := b) (by rw [eT]; exact q1) q2 hlen hstack hW hd (fun _ _ => ⟨rfl, eT, hc, hsl⟩)
  dsimp only [Pt.U, Pt.locs, Pt.cells, Pt.slots] at X4 l4 y4 z4 st4 hQ4
  subst l4 y4 z4
  exact ⟨v, T4, Lc4, hQ4, X4, fun t k => st4.trans k⟩
theorem own_callF {own : String} {index count : Nat} {y z : MethodName} {bytes : ByteArray} {ml : Nat} {rt : Option FieldType} {rm : Room} {Q : Option Value → Heap → List Loc → Prop} {b : Addr} {argsL : List Value} (W : Nat) (rest : List Value) {K : String}
    (C : own_C l Z z bytes ml rt [] rm (.ref b :: argsL).toArray h Q) (X : Stand p l e R s m args below meth c T locs cells slots) (hx : p.tables.exec = Jvm.exec) (hZ : Z.Warmed39 s.vm) (hown : s.vm.findClass own = some m.cls)
    (w1 : (Jvm.Cond.methodLink own index y).before a0 Z = true) (w2 : (Jvm.Cond.declares y).before a0 Z = true) (w8 : (Jvm.Cond.interfaceMethod y.cls y.cls y.name y.desc).before args s = true) (w3 : (Jvm.Cond.selects K y z).before a0 Z = true) (w5 : (Jvm.Cond.instanceMethod z).before a0 Z = true) (w9 : (Jvm.Cond.publicMethod z).before a0 Z = true) (w10 : (Jvm.Cond.unhidden K y.name y.desc).before a0 Z = true) (w11 : (Jvm.Cond.castable K y.cls).before a0 Z = true) (w4 : (Jvm.Cond.code z bytes ml rt).before a0 Z = true) (w6 : (Jvm.Cond.initialized z.cls).before a0 Z = true) (hy : y.cls ≠ "java/lang/invoke/MethodHandle" ∧ y.cls ≠ "java/lang/invoke/VarHandle")
    (hf : rm.frames + 1 ≤ R.frames) (hlo : W + (ml + 11) + rm.locals ≤ R.locals) (hc : cells + rm.cells ≤ R.cells) (hsl : slots + rm.slots ≤ R.slots) (eT : T.heap = h) (E : Exa Z h b K)
    (hg : g.method = m) (hsize : g.locals.size = c.maxLocals) (hlen : ∀ sig, parseMethodDescriptor y.desc = some sig → argsL.length = sig.parameters.length) (hstack : g.stack = argsL.reverse ++ .ref b :: rest) (hW : 2 * g.monitorRoom + (rest.map fun v => v.category).sum ≤ W)
    (hd : decode c.code g.pc = .ok (.invokeinterface index count, 5)) :
    ∃ v T' L, Q v T'.heap L ∧ Stand p l e R s m args below meth c T' (locs ++ L) (cells + rm.cells) (slots + rm.slots) ∧ ∀ t, Steps p.tables e below (T'.setTop { g with pc := g.pc + 5, stack := v.toList ++ rest }) t → Steps p.tables e below (T.setTop g) t := by
  obtain ⟨cq4, kq4, q4a, q4b, q4c⟩ := isOf hZ eT E
  obtain ⟨v, _, ⟨T4, L4, k4, n4⟩, -, X4, ⟨Lc4, hQ4, l4, y4, z4⟩, st4⟩ := X.interfaceBack hx (xi := y) (y := z) hown (mvT hZ w1) (mvT hZ w2) w8 (mvT hZ w3) (mvT hZ w5) (mvT hZ w9) (mvT hZ w10) (mvT hZ w11) hy (backOf (W := W) C hZ w4 w6 hf hlo) q4a q4b q4c hg hsize (Steps.refl _) hlen hstack hW hd (fun _ _ => ⟨rfl, eT, hc, hsl⟩)
  dsimp only [Pt.U, Pt.locs, Pt.cells, Pt.slots] at X4 l4 y4 z4 st4 hQ4
  subst l4 y4 z4
  exact ⟨v, T4, Lc4, hQ4, X4, fun t k => st4.trans k⟩
/-- the end of a body that may have loaded String constants -/
def own_FW (Q : Option Value → Heap → List Loc → Prop) (s : State) (k n : Nat) (t : State) (o : Outcome) : Prop := ∃ v L, o = .returned v ∧ Q v t.heap L ∧ ReturnedEndW s o t L k n
theorem own_mono {s t : State} {o : Outcome} {L : List Loc} {k n k' n' : Nat} (h : ReturnedEndW s o t L k n) (h1 : k ≤ k') (h2 : n ≤ n') : ReturnedEndW s o t L k' n' := ⟨h.1, h.2.1, h.2.2.1, h.2.2.2.mono h1 h2⟩
theorem own_retBW {vm : Vm} {k0 : Nat} {Q : Option Value → Heap → List Loc → Prop} {k n pc : Nat} {Ls : Array Slot} {z w : Int32} {rest : List Value} (X : Stand p l e R (s.setVm vm) m args below meth c T locs cells slots) (hS : s.Since vm k0) (hk : k0 ≤ T.heap.size) (hx : p.tables.exec = Jvm.exec) (hlk : meth.locks = false) (hret : meth.sig.returnType = some .boolean) (hd : decode c.code pc = .ok (.ireturn, 1)) (h1 : cells ≤ k) (h2 : slots ≤ n) (hz : nar .boolean z = w) (hq : Q (some (.int w)) T.heap locs) :
    own_G p e below (own_FW Q s k n) T (mkF m pc Ls (.int z :: rest)) := by
  subst hz
  obtain ⟨fs, hr, hrun, hended, hE⟩ := X.leaveW hS hk (v := some (.int (nar .boolean z))) (fun q => by rw [hret] at q; cases q) hlk
  exact ⟨_, _, retN X hx (t := .boolean) hret (by simp) hd hr, hrun, hended, _, locs, rfl, hq, own_mono hE h1 h2⟩
theorem own_bodyW {y : MethodName} {bytes : ByteArray} {ml : Nat} {rt : Option FieldType} {ws : List Jvm.Cond} {rm : Room} {as' : Array Value} {Q : Option Value → Heap → List Loc → Prop} (pn : plainFor y = true) {f0 : MethodId → JFrame} (hef : ∀ m, entryFrame m as' ml = f0 m)
    (body : ∀ (p : Program) (e : Env) (s : State) (m : MethodId) (below : List Frame) (meth : Method) (c : Code) (s₁ : State), p.tables.exec = Jvm.exec → c.code = bytes → c.maxLocals = ml → s.vm.findClass y.cls = some m.cls → meth.name = y.name → meth.sig.returnType = rt → meth.locks = false → Z.Warmed39 s.vm → Stand p l e rm (s.setVm s.vm) m as' below meth c s₁ [] 0 0 → s₁.heap = h0 → s.Since s.vm 0 →
      own_G p e below (own_FW Q s rm.cells rm.slots) s₁ (f0 m)) :
    MetFree l y (head1 (Jvm.Cond.code y bytes ml rt :: ws) rm) (fun a U => a = as' ∧ Z.Warmed39 U.vm ∧ U.heap = h0) (fun _ _ _ _ _ => True) (fun _ U o U' => ∃ v L, o = .returned v ∧ Q v U'.heap L ∧ ReturnedEndW U o U' L rm.cells rm.slots) := by
  refine MetFree.of_bodySF pn hisR ?_
  intro p e s m args below meth c s₁ Bd hml0 hP hK
  obtain ⟨rfl, hZ, hh⟩ := hP
  have e0 : s₁.heap = h0 := by rw [← hh, Bd.state]; rfl
  have hnm := (name_of_methodNamed Bd.named Bd.method).1
  have X0 := Stand.of_body Bd
  have q := body p e s m below meth c s₁ Bd.exec Bd.bytes hml0 (findClass_of_methodNamed Bd.named) hnm Bd.returns Bd.notSynchronized hZ X0 e0 (State.WarmedH.since (State.WarmedH.refl s) 0)
  rw [← hef m] at q
  exact q
theorem own_narv {z : Int32} (h : z = 0 ∨ z = 1) : narrow .boolean (.int z) = .int z ∧ fits .boolean (.int z) = true := by rcases h with rfl | rfl <;> exact ⟨rfl, rfl⟩
/-- an array of longs by what it holds at each place -/
def own_ls (n : Nat) (P : Nat → Int64) : List Value := (List.range n).map fun i => Value.long (P i)
def own_up (P : Nat → Int64) (j : Nat) (x : Int64) : Nat → Int64 := fun i => if i = j then x else P i
theorem own_ls_get {n j : Nat} {P : Nat → Int64} {d : Value} (h : j < n) : (own_ls n P).getD j d = .long (P j) := by
  simp [own_ls, List.getD_eq_getElem?_getD, h]
theorem own_ls_set {n j : Nat} {P : Nat → Int64} {x : Int64} : (own_ls n P).set j (.long x) = own_ls n (own_up P j x) := by
  apply List.ext_getElem?
  intro i
  simp only [own_ls, own_up, List.getElem?_set, List.getElem?_map, List.length_map, List.length_range]
  by_cases hi : i < n
  · by_cases hj : j = i
    · subst hj; simp [hi]
    · simp [hi, hj, Ne.symm hj]
  · by_cases hj : j = i
    · subst hj; simp [hi]
    · simp [hi, hj]
theorem own_ls_len {n : Nat} {P : Nat → Int64} : (own_ls n P).length = n := by simp [own_ls]
theorem own_lt_nat {j z : Int32} (h : ¬ j < 0 ∧ j < z) : j.toNatClampNeg < z.toNatClampNeg := by
  obtain ⟨h1, h2⟩ := h
  rw [Int32.lt_iff_toInt_lt] at h1 h2
  have : (0 : Int32).toInt = 0 := rfl
  simp only [Int32.toNatClampNeg]; omega
/-- lastore at a place that is told by its bounds -/
theorem own_lst {a : Addr} {k : ClassId} {z j : Int32} {n : Nat} {P : Nat → Int64} {x : Int64} {d : Value} (A : Arv Z h a k .long z (own_ls n P) d) (hz : z.toNatClampNeg = n) (X : Stand p l e R s m args below meth c T locs cells slots) (hx : p.tables.exec = Jvm.exec) (hZ : Z.Warmed39 s.vm) (eT : T.heap = h) (hj : ¬ j < 0 ∧ j < z) (hg : g.method = m) {rest : List Value} (hs : g.stack = .long x :: .int j :: .ref a :: rest) (hd : decode c.code g.pc = .ok (.lastore, 1)) :
    ∃ T' h', Stand p l e R s m args below meth c T' (locs ++ [⟨a, j.toNatClampNeg⟩]) cells slots ∧ T'.heap = h' ∧ Wr h h' a j.toNatClampNeg (.long x) ∧ Arv Z h' a k .long z (own_ls n (own_up P j.toNatClampNeg x)) d ∧ ∀ t, Steps p.tables e below (T'.setTop { g with pc := g.pc + 1, stack := rest }) t → Steps p.tables e below (T.setTop g) t := by
  obtain ⟨cl, Ar, q, S, N, H, G⟩ := A
  have hin := inb_of S hj
  obtain ⟨T', h', X', e', W', st⟩ := stJ X hx hZ eT Ar hin hg hs hd
  refine ⟨T', h', X', e', W', ?_, st⟩
  rw [← own_ls_set]
  exact Arv.set Ar q S N H G rfl W' _ rfl (by rw [own_ls_len, ← hz]; exact own_lt_nat hj)
theorem own_lld {a : Addr} {k : ClassId} {z j : Int32} {n : Nat} {P : Nat → Int64} {d : Value} (A : Arv Z h a k .long z (own_ls n P) d) (hz : z.toNatClampNeg = n) (X : Stand p l e R s m args below meth c T locs cells slots) (hx : p.tables.exec = Jvm.exec) (hZ : Z.Warmed39 s.vm) (eT : T.heap = h) (hj : ¬ j < 0 ∧ j < z) (hg : g.method = m) {rest : List Value} (hs : g.stack = .int j :: .ref a :: rest) (hd : decode c.code g.pc = .ok (.laload, 1)) :
    ∀ t, Steps p.tables e below (T.setTop { g with pc := g.pc + 1, stack := .long (P j.toNatClampNeg) :: rest }) t → Steps p.tables e below (T.setTop g) t := by
  obtain ⟨cl, Ar, q, S, N, H, G⟩ := A
  have hin := inb_of S hj
  exact X.laload hx (by rw [eT]; exact Ar.1) (State.isArrayOf_alike hZ.alike Ar.2.1) Ar.2.2 hin (H.at hin (own_ls_get (by rw [← hz]; exact own_lt_nat hj))) hg hs hd
/-- aastore at a known place -/
theorem own_ast {a y : Addr} {k : ClassId} {z j : Int32} {vs : List Value} {C K : String} (A : Arv Z h a k (.object C) z vs .null) (O : Ovr Z k C) (E : Exa Z h y K) (wc : (Jvm.Cond.castable K C).before a0 Z = true) (X : Stand p l e R s m args below meth c T locs cells slots) (hx : p.tables.exec = Jvm.exec) (hZ : Z.Warmed39 s.vm) (eT : T.heap = h) (hj : ¬ j < 0 ∧ j < z) (hl : j.toNatClampNeg < vs.length) (hg : g.method = m) {rest : List Value} (hs : g.stack = .ref y :: .int j :: .ref a :: rest) (hd : decode c.code g.pc = .ok (.aastore, 1)) :
    ∃ T' h', Stand p l e R s m args below meth c T' (locs ++ [⟨a, j.toNatClampNeg⟩]) cells slots ∧ T'.heap = h' ∧ Wr h h' a j.toNatClampNeg (.ref y) ∧ Arv Z h' a k (.object C) z (vs.set j.toNatClampNeg (.ref y)) .null ∧ ∀ t, Steps p.tables e below (T'.setTop { g with pc := g.pc + 1, stack := rest }) t → Steps p.tables e below (T.setTop g) t := by
  obtain ⟨cl, Ar, q, S, N, H, G⟩ := A
  have hin := inb_of S hj
  obtain ⟨T', h', X', e', W', st⟩ := stR X hx hZ eT Ar hin rfl (Sto.ofV Ar q O (Ins.of_exa E wc)) hg hs hd
  exact ⟨T', h', X', e', W', Arv.set Ar q S N H G rfl W' _ rfl hl, st⟩
end OwnW

theorem own_wS {Z : State} {a0 : Array Value} (hw : ∀ d ∈ tables_1, d.before a0 Z = true) : ∀ a ∈ Bundle.stringAtoms, a.before a0 Z = true := by
  intro a ha
  simp only [Bundle.stringAtoms, Bundle.sN, List.mem_cons, List.not_mem_nil, or_false] at ha
  rcases ha with rfl | rfl | rfl | rfl | rfl | rfl | rfl
  · exact (hw _ (List.mem_of_getElem? (i := 11) rfl))
  · exact (hw _ (List.mem_of_getElem? (i := 10) rfl))
  · exact (hw _ (List.mem_of_getElem? (i := 27) rfl))
  · exact (hw _ (List.mem_of_getElem? (i := 37) rfl))
  · exact (hw _ (List.mem_of_getElem? (i := 35) rfl))
  · exact (hw _ (List.mem_of_getElem? (i := 130) rfl))
  · exact (hw _ (List.mem_of_getElem? (i := 131) rfl))
def own_qr (r : Value) (n0 : Nat) (v : Option Value) (h : Heap) (L : List Loc) : Prop := v = some r ∧ Fr n0 L
section OwnH
variable {p : Program} {l : Launch} {e : Env} {R : Room} {s : State} {m : MethodId} {args : Array Value} {below : List Frame} {meth : Method} {c : Code} {T T' : State} {locs : List Loc} {cells slots : Nat} {g g' : JFrame} {Z : State} {a0 : Array Value} {h h0 h' : Heap} {EL : List (String × Nat)} {vm0 : Vm}
/-- a String whose value isn't laid yet is no booked one -/
theorem own_safeN {x : Addr} {vm : Vm} (hal : Z.vm.Alike vm) (E : Exa Z h x "java/lang/String") (F : Fld Z h x "java/lang/String" "value" "[B" .null) : Safe Z EL vm h x := fun B => by
  obtain ⟨p, -, u, a, -, q, -, G, rfl | rfl⟩ := B
  · obtain ⟨cell, cf, k, i, f, f1, f2, -, -, -, -, f7⟩ := F
    cases (show h[q.sa]? = some q.sC from G.ha).symm.trans f1
    obtain ⟨cS, ⟨⟨-, -, -, ⟨c1, k1, i1, g1, -⟩, -, -, -, v1, -⟩, -⟩, -⟩ := G
    obtain ⟨k3, e3, -⟩ := State.fieldFound?_setVm (s := { Z with heap := h }) (vm' := vm) hal f2
    have e4 := (show (Wst Z vm h).fieldFound? _ _ _ = _ from e3).symm.trans g1
    simp only [Option.some.injEq, Prod.mk.injEq] at e4
    rw [← e4.2.2.2, f7] at v1
    cases v1
  · obtain ⟨cell, k, e1, e2, e3, -, -⟩ := E
    cases (show h[q.sd]? = some q.SA from G.hd).symm.trans e1
    obtain ⟨cS, -, -, f, -⟩ := G
    have f : vm.findClass "[B" = some q.SA.cls := f
    rw [hal.findClass] at f
    obtain ⟨k1, q1, q2⟩ := Vm.findClass_spec f
    obtain ⟨k2, q3, q4⟩ := Vm.findClass_spec e2
    cases q1.symm.trans q3
    exact absurd (q2.symm.trans q4) (by decide)
abbrev own_CH (l : Launch) (Z : State) (EL : List (String × Nat)) (y : MethodName) (bytes : ByteArray) (ml : Nat) (rt : Option FieldType) (rm : Room) (as' : Array Value) (h0 : Heap) (Q : Option Value → Heap → List Loc → Prop) : Prop :=
  MetFree l y (head1 [Jvm.Cond.code y bytes ml rt] rm) (fun a U => a = as' ∧ Z.Warmed39 U.vm ∧ U.heap = h0 ∧ CHv Z EL U.vm h0) (fun _ _ _ _ _ => True) (fun _ U o U' => ∃ v L, o = .returned v ∧ Q v U'.heap L ∧ CHr Z EL U.vm U.heap U'.vm U'.heap ∧ ReturnedEndW U o U' L rm.cells rm.slots)
def own_FH (Z : State) (EL : List (String × Nat)) (h0 : Heap) (Q : Option Value → Heap → List Loc → Prop) (s : State) (k n : Nat) (t : State) (o : Outcome) : Prop := ∃ v L, o = .returned v ∧ Q v t.heap L ∧ CHr Z EL s.vm h0 t.vm t.heap ∧ ReturnedEndW s o t L k n
theorem own_retVH {k0 : Nat} {Q : Option Value → Heap → List Loc → Prop} {k n pc : Nat} {Ls : Array Slot} (X : Stand p l e R (s.setVm vm0) m args below meth c T locs cells slots) (hS : s.Since vm0 k0) (hk : k0 ≤ T.heap.size) (hx : p.tables.exec = Jvm.exec) (hZ : Z.Warmed39 vm0) (hEL : EW Z a0 EL) (hC : CHr Z EL s.vm h0 vm0 T.heap) (hlk : meth.locks = false) (hret : meth.sig.returnType = none) (hd : decode c.code pc = .ok (.return_, 1)) (h1 : cells ≤ k) (h2 : slots ≤ n) (hq : Q none T.heap locs) :
    own_G p e below (own_FH Z EL h0 Q s k n) T (mkF m pc Ls []) := by
  obtain ⟨fs, hr, hrun, hended, hE⟩ := X.leaveW hS hk (v := none) (fun _ => rfl) hlk
  exact ⟨_, _, X.returnOut hx hret hd hr, hrun, hended, _, locs, rfl, hq, (show CHr Z EL s.vm h0 T.vm T.heap from hC.trans (CHv.at X hZ hEL hC.1)), own_mono hE h1 h2⟩
theorem own_bodyH {y : MethodName} {bytes : ByteArray} {ml : Nat} {rt : Option FieldType} {rm : Room} {as' : Array Value} {Q : Option Value → Heap → List Loc → Prop} (pn : plainFor y = true) {f0 : MethodId → JFrame} (hef : ∀ m, entryFrame m as' ml = f0 m)
    (body : ∀ (p : Program) (e : Env) (s : State) (m : MethodId) (below : List Frame) (meth : Method) (c : Code) (s₁ : State), p.tables.exec = Jvm.exec → c.code = bytes → c.maxLocals = ml → s.vm.findClass y.cls = some m.cls → meth.name = y.name → meth.sig.returnType = rt → meth.locks = false → Z.Warmed39 s.vm → Stand p l e rm (s.setVm s.vm) m as' below meth c s₁ [] 0 0 → s₁.heap = h0 → s.Since s.vm 0 → CHr Z EL s.vm h0 s.vm h0 →
      own_G p e below (own_FH Z EL h0 Q s rm.cells rm.slots) s₁ (f0 m)) : own_CH l Z EL y bytes ml rt rm as' h0 Q := by
  refine MetFree.of_bodySF pn hisR ?_
  intro p e s m args below meth c s₁ Bd hml0 hP hK
  obtain ⟨rfl, hZ, hh, hH⟩ := hP
  have e0 : s₁.heap = h0 := by rw [← hh, Bd.state]; rfl
  have hnm := (name_of_methodNamed Bd.named Bd.method).1
  have X0 := Stand.of_body Bd
  have q := body p e s m below meth c s₁ Bd.exec Bd.bytes hml0 (findClass_of_methodNamed Bd.named) hnm Bd.returns Bd.notSynchronized hZ X0 e0 (State.WarmedH.since (State.WarmedH.refl s) 0) (CHr.refl hH)
  rw [← hef m, ← hh] at q
  exact q
/-- a constructor that may load held String constants -/
theorem own_callIH {own : String} {index : Nat} {y : MethodName} {bytes : ByteArray} {ml : Nat} {rm : Room} {Q : Option Value → Heap → List Loc → Prop} {b : Addr} {argsL : List Value} {k0 : Nat} (W : Nat) (rest : List Value)
    (C : own_CH l Z EL y bytes ml none rm (.ref b :: argsL).toArray h Q) (X : Stand p l e R (s.setVm vm0) m args below meth c T locs cells slots) (hx : p.tables.exec = Jvm.exec) (hZ : Z.Warmed39 vm0) (hown : vm0.findClass own = some m.cls) (hS : s.Since vm0 k0) (hk : k0 ≤ h.size) (hEL : EW Z a0 EL) (H : CHv Z EL vm0 h) (hy1 : y.name = "<init>")
    (w1 : (Jvm.Cond.methodLink own index y).before a0 Z = true) (w5 : (Jvm.Cond.instanceMethod y).before a0 Z = true) (w4 : (Jvm.Cond.code y bytes ml none).before a0 Z = true) (w6 : (Jvm.Cond.initialized y.cls).before a0 Z = true) (hy : y.cls ≠ "java/lang/invoke/MethodHandle" ∧ y.cls ≠ "java/lang/invoke/VarHandle")
    (hf : rm.frames + 1 ≤ R.frames) (hlo : W + (ml + 11) + rm.locals ≤ R.locals) (hc : cells + rm.cells ≤ R.cells) (hsl : slots + rm.slots ≤ R.slots) (eT : T.heap = h)
    (hg : g.method = m) (hsize : g.locals.size = c.maxLocals) (hlen : ∀ sig, parseMethodDescriptor y.desc = some sig → argsL.length = sig.parameters.length) (hstack : g.stack = argsL.reverse ++ .ref b :: rest) (hW : 2 * g.monitorRoom + (rest.map fun v => v.category).sum ≤ W)
    (hd : decode c.code g.pc = .ok (.invokespecial index, 3)) :
    ∃ v T' L, Q v T'.heap L ∧ Stand p l e R (s.setVm T'.vm) m args below meth c T' (locs ++ L) (cells + rm.cells) (slots + rm.slots) ∧ s.Since T'.vm T'.heap.size ∧ Z.Warmed39 (s.setVm T'.vm).vm ∧ (s.setVm T'.vm).vm.findClass own = some m.cls ∧ CHr Z EL vm0 h T'.vm T'.heap ∧ ∀ t, Steps p.tables e below (T'.setTop { g with pc := g.pc + 3, stack := v.toList ++ rest }) t → Steps p.tables e below (T.setTop g) t := by
  subst eT
  obtain ⟨v, _, ⟨T4, L4, k4, n4⟩, -, X4, hS4, hgr, ⟨Lc4, hQ4, l4, y4, z4, hC⟩, st4⟩ := X.specialBackS hx (y := y) hy1 hown (mvT (s := s.setVm vm0) hZ w1) (mvT (s := s.setVm vm0) hZ w5) (mvT (s := s.setVm vm0) hZ w4) hy (backOfSH (W := W) (s := s) C hZ w4 w6 hf hlo hEL H) hg hsize (Steps.refl _) (a := b) hlen hstack hW hd (fun _ _ => ⟨rfl, rfl, hc, hsl⟩)
  dsimp only [Pt.U, Pt.locs, Pt.cells, Pt.slots] at X4 l4 y4 z4 st4 hQ4 hS4 hgr hC
  subst l4 y4 z4
  exact ⟨v, T4, Lc4, hQ4, X4, foldS hS hk hS4 hgr, State.Warmed39.trans (t := s.setVm vm0) hZ hS4.1, by rw [show (s.setVm T4.vm).vm = T4.vm from rfl, hS4.1.alike.findClass]; exact hown, hC, fun t k => st4.trans k⟩
theorem own_bodyWH {y : MethodName} {bytes : ByteArray} {ml : Nat} {rt : Option FieldType} {ws : List Jvm.Cond} {rm : Room} {as' : Array Value} {Q : Option Value → Heap → List Loc → Prop} (pn : plainFor y = true) {f0 : MethodId → JFrame} (hef : ∀ m, entryFrame m as' ml = f0 m)
    (body : ∀ (p : Program) (e : Env) (s : State) (m : MethodId) (below : List Frame) (meth : Method) (c : Code) (s₁ : State), p.tables.exec = Jvm.exec → c.code = bytes → c.maxLocals = ml → s.vm.findClass y.cls = some m.cls → meth.name = y.name → meth.sig.returnType = rt → meth.locks = false → Z.Warmed39 s.vm → Stand p l e rm (s.setVm s.vm) m as' below meth c s₁ [] 0 0 → s₁.heap = h0 → s.Since s.vm 0 → CHv Z EL s.vm h0 →
      own_G p e below (own_FW Q s rm.cells rm.slots) s₁ (f0 m)) :
    MetFree l y (head1 (Jvm.Cond.code y bytes ml rt :: ws) rm) (fun a U => a = as' ∧ Z.Warmed39 U.vm ∧ U.heap = h0 ∧ CHv Z EL U.vm h0) (fun _ _ _ _ _ => True) (fun _ U o U' => ∃ v L, o = .returned v ∧ Q v U'.heap L ∧ ReturnedEndW U o U' L rm.cells rm.slots) := by
  refine MetFree.of_bodySF pn hisR ?_
  intro p e s m args below meth c s₁ Bd hml0 hP hK
  obtain ⟨rfl, hZ, hh, hH⟩ := hP
  have e0 : s₁.heap = h0 := by rw [← hh, Bd.state]; rfl
  have hnm := (name_of_methodNamed Bd.named Bd.method).1
  have X0 := Stand.of_body Bd
  have q := body p e s m below meth c s₁ Bd.exec Bd.bytes hml0 (findClass_of_methodNamed Bd.named) hnm Bd.returns Bd.notSynchronized hZ X0 e0 (State.WarmedH.since (State.WarmedH.refl s) 0) hH
  rw [← hef m] at q
  exact q
theorem own_retY {Q : Option Value → Heap → List Loc → Prop} {k n pc : Nat} {Ls : Array Slot} {z w : Int32} {rest : List Value} (X : Stand p l e R s m args below meth c T locs cells slots) (hx : p.tables.exec = Jvm.exec) (hlk : meth.locks = false) (hret : meth.sig.returnType = some .byte) (hd : decode c.code pc = .ok (.ireturn, 1)) (h1 : cells ≤ k) (h2 : slots ≤ n) (hz : nar .byte z = w) (hq : Q (some (.int w)) T.heap locs) :
    own_G p e below (own_F Q s k n) T (mkF m pc Ls (.int z :: rest)) := by
  subst hz
  exact own_ret X hlk (fun q => by rw [hret] at q; cases q) hq h1 h2 fun fs hr => retN X hx (t := .byte) hret (by simp) hd hr
end OwnH

theorem own_EL {Z : State} {a0 : Array Value} (hw : ∀ d ∈ tables_1, d.before a0 Z = true) : EW Z a0 consts_1 := EW.cons (hw _ (List.mem_of_getElem? (i := 129) rfl)) (by decide) EW.nil
def own_qs (Z : State) (a : Addr) (h0 : Heap) (n0 : Nat) (v : Option Value) (h : Heap) (L : List Loc) : Prop := v = none ∧ Fr n0 L ∧ Keep h0 h [a] ∧ Exa Z h a "java/lang/String"
def own_qn (n0 : Nat) (h0 : Heap) (v : Option Value) (h : Heap) (L : List Loc) : Prop := ∃ b, v = some (.ref b) ∧ Fr n0 L ∧ Ext h0 h ∧ h0.size ≤ b
def own_qsn (Z : State) (n0 : Nat) (h0 : Heap) (v : Option Value) (h : Heap) (L : List Loc) : Prop := ∃ b, v = some (.ref b) ∧ Fr n0 L ∧ Ext h0 h ∧ h0.size ≤ b ∧ Exa Z h b "java/lang/String"
def own_qby (Z : State) (n0 : Nat) (h0 : Heap) (v : Option Value) (h : Heap) (L : List Loc) : Prop := ∃ b k x0 x1, v = some (.ref b) ∧ Fr n0 L ∧ Ext h0 h ∧ h0.size ≤ b ∧ Arv Z h b k .byte 2 [.int x0, .int x1] (.int (0 : Int32))
def own_qcp (Z : State) (a : Addr) (k : ClassId) (h0 : Heap) (n0 : Nat) (v : Option Value) (h : Heap) (L : List Loc) : Prop := v = some (.int 2) ∧ Fr n0 L ∧ Keep h0 h [a] ∧ ∃ x0 x1, Arv Z h a k .byte 2 [.int x0, .int x1] (.int (0 : Int32))
def own_qpk (h0 : Heap) (v : Option Value) (h : Heap) (L : List Loc) : Prop := ∃ r, v = some (.ref r) ∧ h = h0 ∧ L = []
theorem own_c255 (p : Int32) : ¬ (255 : Int32) < ((p &&& (255 : Int32)).toUInt32.toUInt16.toUInt32.toInt32) := by
  have a := c_i2c (p &&& 255); have b := c_mask p 255 8 (by decide) (by decide)
  rw [Int32.lt_iff_toInt_lt, show (255 : Int32).toInt = 255 from rfl]
  simp only [Nat.reducePow] at b
  omega
theorem own_n255 (p : Int32) : ¬ (255 : Int32) < nar .char ((p &&& (255 : Int32)).toUInt32.toUInt16.toUInt32.toInt32) := by
  have a := c_i2c (p &&& 255); have b := c_mask p 255 8 (by decide) (by decide); have e := c_i2c ((p &&& (255 : Int32)).toUInt32.toUInt16.toUInt32.toInt32)
  show ¬ (255 : Int32) < ((p &&& (255 : Int32)).toUInt32.toUInt16.toUInt32.toInt32).toUInt32.toUInt16.toUInt32.toInt32
  rw [Int32.lt_iff_toInt_lt, show (255 : Int32).toInt = 255 from rfl]
  simp only [Nat.reducePow] at b
  omega
def own_ir (Z : State) (a : Addr) (q : Int64) (f : Addr) (t : Value) (li : Addr) (h : Heap) : Prop := Exa Z h a "com/example/sheaf/sheaf/engine/InstructionResult" ∧ Fld Z h a "com/example/sheaf/sheaf/engine/InstructionResult" "seq" "J" (.long q) ∧ Fld Z h a "com/example/sheaf/sheaf/engine/InstructionResult" "failure" "Lcom/example/sheaf/sheaf/engine/Failure;" (.ref f) ∧ Fld Z h a "com/example/sheaf/sheaf/engine/InstructionResult" "text" "Ljava/lang/String;" t ∧ Fld Z h a "com/example/sheaf/sheaf/engine/InstructionResult" "order" "Lcom/example/sheaf/sheaf/engine/OrderState;" .null ∧ Fld Z h a "com/example/sheaf/sheaf/engine/InstructionResult" "fills" "Ljava/util/List;" (.ref li)
def own_qi (Z : State) (a : Addr) (q : Int64) (f : Addr) (t : Value) (li : Addr) (h0 : Heap) (n0 : Nat) (v : Option Value) (h : Heap) (L : List Loc) : Prop := v = none ∧ Fr n0 L ∧ Keep h0 h [a] ∧ own_ir Z a q f t li h
def own_qf (Z : State) (q : Int64) (f : Addr) (t : Value) (li : Addr) (n0 : Nat) (h0 : Heap) (v : Option Value) (h : Heap) (L : List Loc) : Prop := ∃ b, v = some (.ref b) ∧ Fr n0 L ∧ Ext h0 h ∧ h0.size ≤ b ∧ own_ir Z b q f t li h
theorem own_fldR {Z : State} {args : Array Value} {t : Term} {a : Addr} {C n e : String} {v : Value} (ev : t.eval args Z none [] Z = some (.ref a)) (hx : (Term.field t C n e).eval args Z none [] Z = some v) : Fld Z Z.heap a C n e v := Fld.start (by simpa [Term.eval, ev] using hx)
theorem own_pd0 : parseMethodDescriptor "([CI[BII)I" = some ⟨[(.array .char), .int, (.array .byte), .int, .int], some .int⟩ := by decide +kernel
theorem own_pd1 : parseMethodDescriptor "([CII)[B" = some ⟨[(.array .char), .int, .int], some (.array .byte)⟩ := by decide +kernel
theorem own_pd2 : parseMethodDescriptor "([BI)B" = some ⟨[(.array .byte), .int], some .byte⟩ := by decide +kernel
theorem own_pd3 : parseMethodDescriptor "([CIILjava/lang/Void;)V" = some ⟨[(.array .char), .int, .int, (.object "java/lang/Void")], none⟩ := by decide +kernel
theorem own_pd4 : parseMethodDescriptor "(C)Z" = some ⟨[.char], some .boolean⟩ := by decide +kernel
theorem own_pd5 : parseMethodDescriptor "(C)[B" = some ⟨[.char], some (.array .byte)⟩ := by decide +kernel
theorem own_pd6 : parseMethodDescriptor "([BB)V" = some ⟨[(.array .byte), .byte], none⟩ := by decide +kernel
theorem own_pd7 : parseMethodDescriptor "()V" = some ⟨[], none⟩ := by decide +kernel
theorem own_pd8 : parseMethodDescriptor "()Ljava/util/List;" = some ⟨[], some (.object "java/util/List")⟩ := by decide +kernel
theorem own_pd9 : parseMethodDescriptor "(JLcom/example/sheaf/sheaf/engine/Failure;Ljava/lang/String;Lcom/example/sheaf/sheaf/engine/OrderState;Ljava/util/List;)V" = some ⟨[.long, (.object "com/example/sheaf/sheaf/engine/Failure"), (.object "java/lang/String"), (.object "com/example/sheaf/sheaf/engine/OrderState"), (.object "java/util/List")], none⟩ := by decide +kernel
theorem own_pd10 : parseMethodDescriptor "(I)Lcom/example/sheaf/sheaf/engine/Failure;" = some ⟨[.int], some (.object "com/example/sheaf/sheaf/engine/Failure")⟩ := by decide +kernel
theorem own_pd11 : parseMethodDescriptor "(JLcom/example/sheaf/sheaf/engine/Failure;Ljava/lang/String;)Lcom/example/sheaf/sheaf/engine/InstructionResult;" = some ⟨[.long, (.object "com/example/sheaf/sheaf/engine/Failure"), (.object "java/lang/String")], some (.object "com/example/sheaf/sheaf/engine/InstructionResult")⟩ := by decide +kernel
theorem own_pd12 : parseMethodDescriptor "()Ljava/lang/String;" = some ⟨[], some (.object "java/lang/String")⟩ := by decide +kernel
theorem own_pd13 : parseMethodDescriptor "()J" = some ⟨[], some .long⟩ := by decide +kernel
theorem own_pd14 : parseMethodDescriptor "()Lcom/example/sheaf/sheaf/engine/Failure;" = some ⟨[], some (.object "com/example/sheaf/sheaf/engine/Failure")⟩ := by decide +kernel
theorem own_pd15 : parseMethodDescriptor "()Lcom/example/sheaf/sheaf/engine/OrderState;" = some ⟨[], some (.object "com/example/sheaf/sheaf/engine/OrderState")⟩ := by decide +kernel
theorem own_pd16 : parseMethodDescriptor "()I" = some ⟨[], some .int⟩ := by decide +kernel
theorem own_pd17 : parseMethodDescriptor "([C)V" = some ⟨[(.array .char)], none⟩ := by decide +kernel
theorem own_pd18 : parseMethodDescriptor "(Ljava/lang/Object;)Z" = some ⟨[(.object "java/lang/Object")], some .boolean⟩ := by decide +kernel
theorem own_pd19 : parseMethodDescriptor "(C)Ljava/lang/String;" = some ⟨[.char], some (.object "java/lang/String")⟩ := by decide +kernel
theorem own_d1_0 : decode method_2_code 0 = .ok (.iload_n 0, 1) := by decide +kernel
theorem own_d1_1 : decode method_2_code 1 = .ok (.ldc 7, 2) := by decide +kernel
theorem own_d1_3 : decode method_2_code 3 = .ok (.iand, 1) := by decide +kernel
theorem own_d1_4 : decode method_2_code 4 = .ok (.bipush 7, 2) := by decide +kernel
theorem own_d1_6 : decode method_2_code 6 = .ok (.irem, 1) := by decide +kernel
theorem own_d1_7 : decode method_2_code 7 = .ok (.istore_n 1, 1) := by decide +kernel
theorem own_d1_8 : decode method_2_code 8 = .ok (.iload_n 1, 1) := by decide +kernel
theorem own_d1_9 : decode method_2_code 9 = .ok (.ifCond .ne 7, 3) := by decide +kernel
theorem own_d1_12 : decode method_2_code 12 = .ok (.getstatic 8, 3) := by decide +kernel
theorem own_d1_15 : decode method_2_code 15 = .ok (.areturn, 1) := by decide +kernel
theorem own_d1_16 : decode method_2_code 16 = .ok (.iload_n 1, 1) := by decide +kernel
theorem own_d1_17 : decode method_2_code 17 = .ok (.iconst 1, 1) := by decide +kernel
theorem own_d1_18 : decode method_2_code 18 = .ok (.if_icmp .ne 7, 3) := by decide +kernel
theorem own_d1_21 : decode method_2_code 21 = .ok (.getstatic 14, 3) := by decide +kernel
theorem own_d1_24 : decode method_2_code 24 = .ok (.areturn, 1) := by decide +kernel
theorem own_d1_25 : decode method_2_code 25 = .ok (.iload_n 1, 1) := by decide +kernel
theorem own_d1_26 : decode method_2_code 26 = .ok (.iconst 2, 1) := by decide +kernel
theorem own_d1_27 : decode method_2_code 27 = .ok (.if_icmp .ne 7, 3) := by decide +kernel
theorem own_d1_30 : decode method_2_code 30 = .ok (.getstatic 17, 3) := by decide +kernel
theorem own_d1_33 : decode method_2_code 33 = .ok (.areturn, 1) := by decide +kernel
theorem own_d1_34 : decode method_2_code 34 = .ok (.iload_n 1, 1) := by decide +kernel
theorem own_d1_35 : decode method_2_code 35 = .ok (.iconst 3, 1) := by decide +kernel
theorem own_d1_36 : decode method_2_code 36 = .ok (.if_icmp .ne 7, 3) := by decide +kernel
theorem own_d1_39 : decode method_2_code 39 = .ok (.getstatic 20, 3) := by decide +kernel
theorem own_d1_42 : decode method_2_code 42 = .ok (.areturn, 1) := by decide +kernel
theorem own_d1_43 : decode method_2_code 43 = .ok (.iload_n 1, 1) := by decide +kernel
theorem own_d1_44 : decode method_2_code 44 = .ok (.iconst 4, 1) := by decide +kernel
theorem own_d1_45 : decode method_2_code 45 = .ok (.if_icmp .ne 7, 3) := by decide +kernel
theorem own_d1_48 : decode method_2_code 48 = .ok (.getstatic 23, 3) := by decide +kernel
theorem own_d1_51 : decode method_2_code 51 = .ok (.areturn, 1) := by decide +kernel
theorem own_d1_52 : decode method_2_code 52 = .ok (.iload_n 1, 1) := by decide +kernel
theorem own_d1_53 : decode method_2_code 53 = .ok (.iconst 5, 1) := by decide +kernel
theorem own_d1_54 : decode method_2_code 54 = .ok (.if_icmp .ne 7, 3) := by decide +kernel
theorem own_d1_57 : decode method_2_code 57 = .ok (.getstatic 26, 3) := by decide +kernel
theorem own_d1_60 : decode method_2_code 60 = .ok (.areturn, 1) := by decide +kernel
theorem own_d1_61 : decode method_2_code 61 = .ok (.getstatic 29, 3) := by decide +kernel
theorem own_d1_64 : decode method_2_code 64 = .ok (.areturn, 1) := by decide +kernel
theorem own_pn1 : plainFor (⟨"com/example/sheaf/sheaf/engine/InstructionResultFailedPinLaw", "pick", "(I)Lcom/example/sheaf/sheaf/engine/Failure;"⟩ : MethodName) = true := plainFor_of_name (show plainName "com/example/sheaf/sheaf/engine/InstructionResultFailedPinLaw" = true by first | (simp [plainName, overriddenIn]; done) | decide +kernel)
theorem own_ef1 (m : MethodId) (p1 : Int32) : entryFrame m #[(.int p1)] 2 = (mkF m 0 #[.val (.int p1), .unset] []) := by first | (simp [entryFrame, mkF, argsToLocals, Value.category]; done) | rfl
set_option maxRecDepth 65536 in
set_option maxHeartbeats 40000000 in
theorem own_rm1 (l : Launch) (Z : State) (a0 : Array Value) (hw : ∀ d ∈ tables_1, d.before a0 Z = true) (h0 : Heap) (n0 : Nat) (Z0 : n0 ≤ h0.size) (p1 : Int32) (O : Old Z n0 h0) (s_UnknownSymbol : Addr) (S_UnknownSymbol : Sta Z Z.heap "com/example/sheaf/sheaf/engine/Failure" "UnknownSymbol" "Lcom/example/sheaf/sheaf/engine/Failure;" (.ref s_UnknownSymbol)) (s_PriorFailure : Addr) (S_PriorFailure : Sta Z Z.heap "com/example/sheaf/sheaf/engine/Failure" "PriorFailure" "Lcom/example/sheaf/sheaf/engine/Failure;" (.ref s_PriorFailure)) (s_OrderClosed : Addr) (S_OrderClosed : Sta Z Z.heap "com/example/sheaf/sheaf/engine/Failure" "OrderClosed" "Lcom/example/sheaf/sheaf/engine/Failure;" (.ref s_OrderClosed)) (s_InvalidField : Addr) (S_InvalidField : Sta Z Z.heap "com/example/sheaf/sheaf/engine/Failure" "InvalidField" "Lcom/example/sheaf/sheaf/engine/Failure;" (.ref s_InvalidField)) (s_UnknownOrder : Addr) (S_UnknownOrder : Sta Z Z.heap "com/example/sheaf/sheaf/engine/Failure" "UnknownOrder" "Lcom/example/sheaf/sheaf/engine/Failure;" (.ref s_UnknownOrder)) (s_None : Addr) (S_None : Sta Z Z.heap "com/example/sheaf/sheaf/engine/Failure" "None" "Lcom/example/sheaf/sheaf/engine/Failure;" (.ref s_None)) (s_DuplicateClOrdID : Addr) (S_DuplicateClOrdID : Sta Z Z.heap "com/example/sheaf/sheaf/engine/Failure" "DuplicateClOrdID" "Lcom/example/sheaf/sheaf/engine/Failure;" (.ref s_DuplicateClOrdID)) :
    own_C l Z (⟨"com/example/sheaf/sheaf/engine/InstructionResultFailedPinLaw", "pick", "(I)Lcom/example/sheaf/sheaf/engine/Failure;"⟩ : MethodName) method_2_code 2 (some (.object "com/example/sheaf/sheaf/engine/Failure")) [] ({ frames := 0, cells := 0, slots := 0, locals := 0 } : Room) #[(.int p1)] h0 (own_qpk h0) := by
  refine own_body own_pn1 (f0 := fun m => (mkF m 0 #[.val (.int p1), .unset] [])) (fun m => own_ef1 m p1) ?_
  intro p e s m below meth c s₁ hx hby hml hown hnm hret hlk hZ X0 e0
  change own_G p e below (own_F (own_qpk h0) s 0 0) s₁ (mkF m 0 #[.val (.int p1), .unset] [])
  have N0 := Fr.nil n0
  refine own_st (T' := s₁) (g' := (mkF m 1 #[.val (.int p1), .unset] [(.int p1)])) (fun t k => XS.iloadN X0.here hx rfl (hb hby own_d1_0) rfl k) ?_
  refine own_st (T' := s₁) (g' := (mkF m 3 #[.val (.int p1), .unset] [(.int (2147483647 : Int32)), (.int p1)])) (X0.ldcInt hx hown (mvT hZ (hw _ (List.mem_of_getElem? (i := 4) rfl))) (g := (mkF m 1 #[.val (.int p1), .unset] [(.int p1)])) rfl (hb hby own_d1_1)) ?_
  refine own_st (T' := s₁) (g' := (mkF m 4 #[.val (.int p1), .unset] [(.int (p1 &&& (2147483647 : Int32)))])) (fun t k => XS.iand X0.here hx rfl (hb hby own_d1_3) rfl k) ?_
  refine own_st (T' := s₁) (g' := (mkF m 6 #[.val (.int p1), .unset] [(.int (7 : Int32)), (.int (p1 &&& (2147483647 : Int32)))])) (fun t k => XS.bipush X0.here hx rfl (hb hby own_d1_4) k) ?_
  refine own_st (T' := s₁) (g' := (mkF m 7 #[.val (.int p1), .unset] [(.int ((p1 &&& (2147483647 : Int32)) % (7 : Int32)))])) (fun t k => iremM (g := (mkF m 6 #[.val (.int p1), .unset] [(.int (7 : Int32)), (.int (p1 &&& (2147483647 : Int32)))])) X0 hx rfl (hb hby own_d1_6) rfl (by decide) k) ?_
  refine own_st (T' := s₁) (g' := (mkF m 8 #[.val (.int p1), .val (.int ((p1 &&& (2147483647 : Int32)) % (7 : Int32)))] [])) (fun t k => XS.istoreN X0.here hx rfl (hb hby own_d1_7) rfl (l' := #[.val (.int p1), .val (.int ((p1 &&& (2147483647 : Int32)) % (7 : Int32)))]) rfl k) ?_
  refine own_st (T' := s₁) (g' := (mkF m 9 #[.val (.int p1), .val (.int ((p1 &&& (2147483647 : Int32)) % (7 : Int32)))] [(.int ((p1 &&& (2147483647 : Int32)) % (7 : Int32)))])) (fun t k => XS.iloadN X0.here hx rfl (hb hby own_d1_8) rfl k) ?_
  by_cases hc9_1 : ((p1 &&& (2147483647 : Int32)) % (7 : Int32)) = (0 : Int32)
  ·
    refine own_st (T' := s₁) (g' := (mkF m 12 #[.val (.int p1), .val (.int ((p1 &&& (2147483647 : Int32)) % (7 : Int32)))] [])) (fun t k => XS.ifNo X0.here hx rfl (hb hby own_d1_9) rfl ((if0 _ _).trans (teq hc9_1).2) k) ?_
    obtain ⟨T2, X2, e2, st2⟩ := getS2 X0 hx hZ hown (host := "") (Or.inl (hw _ (List.mem_of_getElem? (i := 136) rfl))) Via.refl e0 (S_None.ext O.2) (g := (mkF m 12 #[.val (.int p1), .val (.int ((p1 &&& (2147483647 : Int32)) % (7 : Int32)))] [])) rfl (hb hby own_d1_12)
    refine own_st (T' := T2) (g' := (mkF m 15 #[.val (.int p1), .val (.int ((p1 &&& (2147483647 : Int32)) % (7 : Int32)))] [(.ref s_None)])) st2 ?_
    exact own_retR X2 hx hlk hret (hb hby own_d1_15) (by decide) (by decide) rfl ⟨_, rfl, e2, rfl⟩
  ·
    refine own_st (T' := s₁) (g' := (mkF m 16 #[.val (.int p1), .val (.int ((p1 &&& (2147483647 : Int32)) % (7 : Int32)))] [])) (fun t k => XS.ifYes X0.here hx rfl (pc0 := 9) (pc' := 16) rfl (hb hby own_d1_9) rfl ((if0 _ _).trans (feq hc9_1).2) (by decide) (by decide) k) ?_
    refine own_st (T' := s₁) (g' := (mkF m 17 #[.val (.int p1), .val (.int ((p1 &&& (2147483647 : Int32)) % (7 : Int32)))] [(.int ((p1 &&& (2147483647 : Int32)) % (7 : Int32)))])) (fun t k => XS.iloadN X0.here hx rfl (hb hby own_d1_16) rfl k) ?_
    refine own_st (T' := s₁) (g' := (mkF m 18 #[.val (.int p1), .val (.int ((p1 &&& (2147483647 : Int32)) % (7 : Int32)))] [(.int (1 : Int32)), (.int ((p1 &&& (2147483647 : Int32)) % (7 : Int32)))])) (fun t k => XS.iconst X0.here hx rfl (hb hby own_d1_17) k) ?_
    by_cases hc18_3 : ((p1 &&& (2147483647 : Int32)) % (7 : Int32)) = (1 : Int32)
    ·
      refine own_st (T' := s₁) (g' := (mkF m 21 #[.val (.int p1), .val (.int ((p1 &&& (2147483647 : Int32)) % (7 : Int32)))] [])) (fun t k => XS.icmpNo X0.here hx rfl (hb hby own_d1_18) rfl (teq hc18_3).2 k) ?_
      obtain ⟨T4, X4, e4, st4⟩ := getS2 X0 hx hZ hown (host := "") (Or.inl (hw _ (List.mem_of_getElem? (i := 111) rfl))) Via.refl e0 (S_PriorFailure.ext O.2) (g := (mkF m 21 #[.val (.int p1), .val (.int ((p1 &&& (2147483647 : Int32)) % (7 : Int32)))] [])) rfl (hb hby own_d1_21)
      refine own_st (T' := T4) (g' := (mkF m 24 #[.val (.int p1), .val (.int ((p1 &&& (2147483647 : Int32)) % (7 : Int32)))] [(.ref s_PriorFailure)])) st4 ?_
      exact own_retR X4 hx hlk hret (hb hby own_d1_24) (by decide) (by decide) rfl ⟨_, rfl, e4, rfl⟩
    ·
      refine own_st (T' := s₁) (g' := (mkF m 25 #[.val (.int p1), .val (.int ((p1 &&& (2147483647 : Int32)) % (7 : Int32)))] [])) (fun t k => XS.icmpYes X0.here hx rfl (pc0 := 18) (pc' := 25) rfl (hb hby own_d1_18) rfl (feq hc18_3).2 (by decide) (by decide) k) ?_
      refine own_st (T' := s₁) (g' := (mkF m 26 #[.val (.int p1), .val (.int ((p1 &&& (2147483647 : Int32)) % (7 : Int32)))] [(.int ((p1 &&& (2147483647 : Int32)) % (7 : Int32)))])) (fun t k => XS.iloadN X0.here hx rfl (hb hby own_d1_25) rfl k) ?_
      refine own_st (T' := s₁) (g' := (mkF m 27 #[.val (.int p1), .val (.int ((p1 &&& (2147483647 : Int32)) % (7 : Int32)))] [(.int (2 : Int32)), (.int ((p1 &&& (2147483647 : Int32)) % (7 : Int32)))])) (fun t k => XS.iconst X0.here hx rfl (hb hby own_d1_26) k) ?_
      by_cases hc27_5 : ((p1 &&& (2147483647 : Int32)) % (7 : Int32)) = (2 : Int32)
      ·
        refine own_st (T' := s₁) (g' := (mkF m 30 #[.val (.int p1), .val (.int ((p1 &&& (2147483647 : Int32)) % (7 : Int32)))] [])) (fun t k => XS.icmpNo X0.here hx rfl (hb hby own_d1_27) rfl (teq hc27_5).2 k) ?_
        obtain ⟨T6, X6, e6, st6⟩ := getS2 X0 hx hZ hown (host := "") (Or.inl (hw _ (List.mem_of_getElem? (i := 5) rfl))) Via.refl e0 (S_UnknownSymbol.ext O.2) (g := (mkF m 30 #[.val (.int p1), .val (.int ((p1 &&& (2147483647 : Int32)) % (7 : Int32)))] [])) rfl (hb hby own_d1_30)
        refine own_st (T' := T6) (g' := (mkF m 33 #[.val (.int p1), .val (.int ((p1 &&& (2147483647 : Int32)) % (7 : Int32)))] [(.ref s_UnknownSymbol)])) st6 ?_
        exact own_retR X6 hx hlk hret (hb hby own_d1_33) (by decide) (by decide) rfl ⟨_, rfl, e6, rfl⟩
      ·
        refine own_st (T' := s₁) (g' := (mkF m 34 #[.val (.int p1), .val (.int ((p1 &&& (2147483647 : Int32)) % (7 : Int32)))] [])) (fun t k => XS.icmpYes X0.here hx rfl (pc0 := 27) (pc' := 34) rfl (hb hby own_d1_27) rfl (feq hc27_5).2 (by decide) (by decide) k) ?_
        refine own_st (T' := s₁) (g' := (mkF m 35 #[.val (.int p1), .val (.int ((p1 &&& (2147483647 : Int32)) % (7 : Int32)))] [(.int ((p1 &&& (2147483647 : Int32)) % (7 : Int32)))])) (fun t k => XS.iloadN X0.here hx rfl (hb hby own_d1_34) rfl k) ?_
        refine own_st (T' := s₁) (g' := (mkF m 36 #[.val (.int p1), .val (.int ((p1 &&& (2147483647 : Int32)) % (7 : Int32)))] [(.int (3 : Int32)), (.int ((p1 &&& (2147483647 : Int32)) % (7 : Int32)))])) (fun t k => XS.iconst X0.here hx rfl (hb hby own_d1_35) k) ?_
        by_cases hc36_7 : ((p1 &&& (2147483647 : Int32)) % (7 : Int32)) = (3 : Int32)
        ·
          refine own_st (T' := s₁) (g' := (mkF m 39 #[.val (.int p1), .val (.int ((p1 &&& (2147483647 : Int32)) % (7 : Int32)))] [])) (fun t k => XS.icmpNo X0.here hx rfl (hb hby own_d1_36) rfl (teq hc36_7).2 k) ?_
          obtain ⟨T8, X8, e8, st8⟩ := getS2 X0 hx hZ hown (host := "") (Or.inl (hw _ (List.mem_of_getElem? (i := 132) rfl))) Via.refl e0 (S_InvalidField.ext O.2) (g := (mkF m 39 #[.val (.int p1), .val (.int ((p1 &&& (2147483647 : Int32)) % (7 : Int32)))] [])) rfl (hb hby own_d1_39)
          refine own_st (T' := T8) (g' := (mkF m 42 #[.val (.int p1), .val (.int ((p1 &&& (2147483647 : Int32)) % (7 : Int32)))] [(.ref s_InvalidField)])) st8 ?_
          exact own_retR X8 hx hlk hret (hb hby own_d1_42) (by decide) (by decide) rfl ⟨_, rfl, e8, rfl⟩
        ·
          refine own_st (T' := s₁) (g' := (mkF m 43 #[.val (.int p1), .val (.int ((p1 &&& (2147483647 : Int32)) % (7 : Int32)))] [])) (fun t k => XS.icmpYes X0.here hx rfl (pc0 := 36) (pc' := 43) rfl (hb hby own_d1_36) rfl (feq hc36_7).2 (by decide) (by decide) k) ?_
          refine own_st (T' := s₁) (g' := (mkF m 44 #[.val (.int p1), .val (.int ((p1 &&& (2147483647 : Int32)) % (7 : Int32)))] [(.int ((p1 &&& (2147483647 : Int32)) % (7 : Int32)))])) (fun t k => XS.iloadN X0.here hx rfl (hb hby own_d1_43) rfl k) ?_
          refine own_st (T' := s₁) (g' := (mkF m 45 #[.val (.int p1), .val (.int ((p1 &&& (2147483647 : Int32)) % (7 : Int32)))] [(.int (4 : Int32)), (.int ((p1 &&& (2147483647 : Int32)) % (7 : Int32)))])) (fun t k => XS.iconst X0.here hx rfl (hb hby own_d1_44) k) ?_
          by_cases hc45_9 : ((p1 &&& (2147483647 : Int32)) % (7 : Int32)) = (4 : Int32)
          ·
            refine own_st (T' := s₁) (g' := (mkF m 48 #[.val (.int p1), .val (.int ((p1 &&& (2147483647 : Int32)) % (7 : Int32)))] [])) (fun t k => XS.icmpNo X0.here hx rfl (hb hby own_d1_45) rfl (teq hc45_9).2 k) ?_
            obtain ⟨T10, X10, e10, st10⟩ := getS2 X0 hx hZ hown (host := "") (Or.inl (hw _ (List.mem_of_getElem? (i := 138) rfl))) Via.refl e0 (S_DuplicateClOrdID.ext O.2) (g := (mkF m 48 #[.val (.int p1), .val (.int ((p1 &&& (2147483647 : Int32)) % (7 : Int32)))] [])) rfl (hb hby own_d1_48)
            refine own_st (T' := T10) (g' := (mkF m 51 #[.val (.int p1), .val (.int ((p1 &&& (2147483647 : Int32)) % (7 : Int32)))] [(.ref s_DuplicateClOrdID)])) st10 ?_
            exact own_retR X10 hx hlk hret (hb hby own_d1_51) (by decide) (by decide) rfl ⟨_, rfl, e10, rfl⟩
          ·
            refine own_st (T' := s₁) (g' := (mkF m 52 #[.val (.int p1), .val (.int ((p1 &&& (2147483647 : Int32)) % (7 : Int32)))] [])) (fun t k => XS.icmpYes X0.here hx rfl (pc0 := 45) (pc' := 52) rfl (hb hby own_d1_45) rfl (feq hc45_9).2 (by decide) (by decide) k) ?_
            refine own_st (T' := s₁) (g' := (mkF m 53 #[.val (.int p1), .val (.int ((p1 &&& (2147483647 : Int32)) % (7 : Int32)))] [(.int ((p1 &&& (2147483647 : Int32)) % (7 : Int32)))])) (fun t k => XS.iloadN X0.here hx rfl (hb hby own_d1_52) rfl k) ?_
            refine own_st (T' := s₁) (g' := (mkF m 54 #[.val (.int p1), .val (.int ((p1 &&& (2147483647 : Int32)) % (7 : Int32)))] [(.int (5 : Int32)), (.int ((p1 &&& (2147483647 : Int32)) % (7 : Int32)))])) (fun t k => XS.iconst X0.here hx rfl (hb hby own_d1_53) k) ?_
            by_cases hc54_11 : ((p1 &&& (2147483647 : Int32)) % (7 : Int32)) = (5 : Int32)
            ·
              refine own_st (T' := s₁) (g' := (mkF m 57 #[.val (.int p1), .val (.int ((p1 &&& (2147483647 : Int32)) % (7 : Int32)))] [])) (fun t k => XS.icmpNo X0.here hx rfl (hb hby own_d1_54) rfl (teq hc54_11).2 k) ?_
              obtain ⟨T12, X12, e12, st12⟩ := getS2 X0 hx hZ hown (host := "") (Or.inl (hw _ (List.mem_of_getElem? (i := 134) rfl))) Via.refl e0 (S_UnknownOrder.ext O.2) (g := (mkF m 57 #[.val (.int p1), .val (.int ((p1 &&& (2147483647 : Int32)) % (7 : Int32)))] [])) rfl (hb hby own_d1_57)
              refine own_st (T' := T12) (g' := (mkF m 60 #[.val (.int p1), .val (.int ((p1 &&& (2147483647 : Int32)) % (7 : Int32)))] [(.ref s_UnknownOrder)])) st12 ?_
              exact own_retR X12 hx hlk hret (hb hby own_d1_60) (by decide) (by decide) rfl ⟨_, rfl, e12, rfl⟩
            ·
              refine own_st (T' := s₁) (g' := (mkF m 61 #[.val (.int p1), .val (.int ((p1 &&& (2147483647 : Int32)) % (7 : Int32)))] [])) (fun t k => XS.icmpYes X0.here hx rfl (pc0 := 54) (pc' := 61) rfl (hb hby own_d1_54) rfl (feq hc54_11).2 (by decide) (by decide) k) ?_
              obtain ⟨T13, X13, e13, st13⟩ := getS2 X0 hx hZ hown (host := "") (Or.inl (hw _ (List.mem_of_getElem? (i := 127) rfl))) Via.refl e0 (S_OrderClosed.ext O.2) (g := (mkF m 61 #[.val (.int p1), .val (.int ((p1 &&& (2147483647 : Int32)) % (7 : Int32)))] [])) rfl (hb hby own_d1_61)
              refine own_st (T' := T13) (g' := (mkF m 64 #[.val (.int p1), .val (.int ((p1 &&& (2147483647 : Int32)) % (7 : Int32)))] [(.ref s_OrderClosed)])) st13 ?_
              exact own_retR X13 hx hlk hret (hb hby own_d1_64) (by decide) (by decide) rfl ⟨_, rfl, e13, rfl⟩
theorem own_d7_0 : decode jdk_52_method_15_code 0 = .ok (.iload_n 1, 1) := by decide +kernel
theorem own_d7_1 : decode jdk_52_method_15_code 1 = .ok (.aload_n 0, 1) := by decide +kernel
theorem own_d7_2 : decode jdk_52_method_15_code 2 = .ok (.arraylength, 1) := by decide +kernel
theorem own_d7_3 : decode jdk_52_method_15_code 3 = .ok (.isub, 1) := by decide +kernel
theorem own_d7_4 : decode jdk_52_method_15_code 4 = .ok (.bipush 31, 2) := by decide +kernel
theorem own_d7_6 : decode jdk_52_method_15_code 6 = .ok (.iushr, 1) := by decide +kernel
theorem own_d7_7 : decode jdk_52_method_15_code 7 = .ok (.i2b, 1) := by decide +kernel
theorem own_d7_8 : decode jdk_52_method_15_code 8 = .ok (.ireturn, 1) := by decide +kernel
theorem own_pn7 : plainFor (⟨"java/lang/StringUTF16", "coderFromArrayLen", "([BI)B"⟩ : MethodName) = true := plainFor_of_name (show plainName "java/lang/StringUTF16" = true by first | (simp [plainName, overriddenIn]; done) | decide +kernel)
theorem own_ef7 (m : MethodId) (a1 : Addr) : entryFrame m #[(.ref a1), (.int (2 : Int32))] 2 = (mkF m 0 #[.val (.ref a1), .val (.int (2 : Int32))] []) := by first | (simp [entryFrame, mkF, argsToLocals, Value.category]; done) | rfl
set_option maxRecDepth 65536 in
set_option maxHeartbeats 40000000 in
theorem own_rm7 (l : Launch) (Z : State) (a0 : Array Value) (hw : ∀ d ∈ tables_1, d.before a0 Z = true) (h0 : Heap) (n0 : Nat) (Z0 : n0 ≤ h0.size) (a1 : Addr) (k : ClassId) (x0 x1 : Int32) (V_a1 : Arv Z h0 a1 k .byte 2 [.int x0, .int x1] (.int (0 : Int32))) :
    own_C l Z (⟨"java/lang/StringUTF16", "coderFromArrayLen", "([BI)B"⟩ : MethodName) jdk_52_method_15_code 2 (some .byte) [] ({ frames := 0, cells := 0, slots := 0, locals := 0 } : Room) #[(.ref a1), (.int (2 : Int32))] h0 (own_P (.int 0) h0) := by
  refine own_body own_pn7 (f0 := fun m => (mkF m 0 #[.val (.ref a1), .val (.int (2 : Int32))] [])) (fun m => own_ef7 m a1) ?_
  intro p e s m below meth c s₁ hx hby hml hown hnm hret hlk hZ X0 e0
  change own_G p e below (own_F (own_P (.int 0) h0) s 0 0) s₁ (mkF m 0 #[.val (.ref a1), .val (.int (2 : Int32))] [])
  have N0 := Fr.nil n0
  refine own_st (T' := s₁) (g' := (mkF m 1 #[.val (.ref a1), .val (.int (2 : Int32))] [(.int (2 : Int32))])) (fun t k => XS.iloadN X0.here hx rfl (hb hby own_d7_0) rfl k) ?_
  refine own_st (T' := s₁) (g' := (mkF m 2 #[.val (.ref a1), .val (.int (2 : Int32))] [(.ref a1), (.int (2 : Int32))])) (fun t k => XS.aloadN X0.here hx rfl (hb hby own_d7_1) rfl rfl k) ?_
  refine own_st (T' := s₁) (g' := (mkF m 3 #[.val (.ref a1), .val (.int (2 : Int32))] [(.int (2 : Int32)), (.int (2 : Int32))])) (own_alen V_a1 X0 hx hZ e0 (g := (mkF m 2 #[.val (.ref a1), .val (.int (2 : Int32))] [(.ref a1), (.int (2 : Int32))])) rfl rfl (hb hby own_d7_2)) ?_
  refine own_st (T' := s₁) (g' := (mkF m 4 #[.val (.ref a1), .val (.int (2 : Int32))] [(.int (0 : Int32))])) (fun t k => XS.isub X0.here hx rfl (hb hby own_d7_3) rfl k) ?_
  refine own_st (T' := s₁) (g' := (mkF m 6 #[.val (.ref a1), .val (.int (2 : Int32))] [(.int (31 : Int32)), (.int (0 : Int32))])) (fun t k => XS.bipush X0.here hx rfl (hb hby own_d7_4) k) ?_
  refine own_st (T' := s₁) (g' := (mkF m 7 #[.val (.ref a1), .val (.int (2 : Int32))] [(.int (((0 : Int32).toUInt32 >>> ((31 : Int32) &&& 31).toUInt32).toInt32))])) (fun t k => XS.iushr X0.here hx rfl (hb hby own_d7_6) rfl k) ?_
  refine own_st (T' := s₁) (g' := (mkF m 8 #[.val (.ref a1), .val (.int (2 : Int32))] [(.int ((((0 : Int32).toUInt32 >>> ((31 : Int32) &&& 31).toUInt32).toInt32).toInt8.toInt32))])) (fun t k => XS.i2b X0.here hx rfl (hb hby own_d7_7) rfl k) ?_
  exact own_retY X0 hx hlk hret (hb hby own_d7_8) (by decide) (by decide) (by decide) ⟨rfl, e0, rfl⟩
theorem own_d6_0 : decode jdk_52_method_21_code 0 = .ok (.iconst 0, 1) := by decide +kernel
theorem own_d6_1 : decode jdk_52_method_21_code 1 = .ok (.istore 5, 2) := by decide +kernel
theorem own_d6_3 : decode jdk_52_method_21_code 3 = .ok (.iload 5, 2) := by decide +kernel
theorem own_d6_5 : decode jdk_52_method_21_code 5 = .ok (.iload 4, 2) := by decide +kernel
theorem own_d6_7 : decode jdk_52_method_21_code 7 = .ok (.if_icmp .ge 37, 3) := by decide +kernel
theorem own_d6_10 : decode jdk_52_method_21_code 10 = .ok (.aload_n 0, 1) := by decide +kernel
theorem own_d6_11 : decode jdk_52_method_21_code 11 = .ok (.iload_n 1, 1) := by decide +kernel
theorem own_d6_12 : decode jdk_52_method_21_code 12 = .ok (.caload, 1) := by decide +kernel
theorem own_d6_13 : decode jdk_52_method_21_code 13 = .ok (.istore 6, 2) := by decide +kernel
theorem own_d6_15 : decode jdk_52_method_21_code 15 = .ok (.iload 6, 2) := by decide +kernel
theorem own_d6_17 : decode jdk_52_method_21_code 17 = .ok (.sipush 255, 3) := by decide +kernel
theorem own_d6_20 : decode jdk_52_method_21_code 20 = .ok (.if_icmp .le 6, 3) := by decide +kernel
theorem own_d6_26 : decode jdk_52_method_21_code 26 = .ok (.aload_n 2, 1) := by decide +kernel
theorem own_d6_27 : decode jdk_52_method_21_code 27 = .ok (.iload_n 3, 1) := by decide +kernel
theorem own_d6_28 : decode jdk_52_method_21_code 28 = .ok (.iload 6, 2) := by decide +kernel
theorem own_d6_30 : decode jdk_52_method_21_code 30 = .ok (.i2b, 1) := by decide +kernel
theorem own_d6_31 : decode jdk_52_method_21_code 31 = .ok (.bastore, 1) := by decide +kernel
theorem own_d6_32 : decode jdk_52_method_21_code 32 = .ok (.iinc 1 1, 3) := by decide +kernel
theorem own_d6_35 : decode jdk_52_method_21_code 35 = .ok (.iinc 3 1, 3) := by decide +kernel
theorem own_d6_38 : decode jdk_52_method_21_code 38 = .ok (.iinc 5 1, 3) := by decide +kernel
theorem own_d6_41 : decode jdk_52_method_21_code 41 = .ok (.goto (-38), 3) := by decide +kernel
theorem own_d6_44 : decode jdk_52_method_21_code 44 = .ok (.iload 4, 2) := by decide +kernel
theorem own_d6_46 : decode jdk_52_method_21_code 46 = .ok (.ireturn, 1) := by decide +kernel
theorem own_pn6 : plainFor (⟨"java/lang/StringUTF16", "compress", "([CI[BII)I"⟩ : MethodName) = true := plainFor_of_name (show plainName "java/lang/StringUTF16" = true by first | (simp [plainName, overriddenIn]; done) | decide +kernel)
theorem own_ef6 (m : MethodId) (a1 : Addr) (a3 : Addr) : entryFrame m #[(.ref a1), (.int (0 : Int32)), (.ref a3), (.int (0 : Int32)), (.int (2 : Int32))] 7 = (mkF m 0 #[.val (.ref a1), .val (.int (0 : Int32)), .val (.ref a3), .val (.int (0 : Int32)), .val (.int (2 : Int32)), .unset, .unset] []) := by first | (simp [entryFrame, mkF, argsToLocals, Value.category]; done) | rfl
set_option maxRecDepth 65536 in
set_option maxHeartbeats 40000000 in
theorem own_rm6 (l : Launch) (Z : State) (a0 : Array Value) (hw : ∀ d ∈ tables_1, d.before a0 Z = true) (h0 : Heap) (n0 : Nat) (Z0 : n0 ≤ h0.size) (a1 : Addr) (a3 : Addr) (x y : Int32) (hxx : ¬ (255 : Int32) < x) (hyy : ¬ (255 : Int32) < y) (kc : ClassId) (V_a1 : Arv Z h0 a1 kc .char 2 [.int x, .int y] (.int (0 : Int32))) (kb : ClassId) (V_a3 : Arv Z h0 a3 kb .byte 2 [.int (0 : Int32), .int (0 : Int32)] (.int (0 : Int32))) (ne_a1_a3 : a1 ≠ a3) (g_a3 : n0 ≤ a3) :
    own_C l Z (⟨"java/lang/StringUTF16", "compress", "([CI[BII)I"⟩ : MethodName) jdk_52_method_21_code 7 (some .int) [] ({ frames := 0, cells := 0, slots := 0, locals := 0 } : Room) #[(.ref a1), (.int (0 : Int32)), (.ref a3), (.int (0 : Int32)), (.int (2 : Int32))] h0 (own_qcp Z a3 kb h0 n0) := by
  refine own_body own_pn6 (f0 := fun m => (mkF m 0 #[.val (.ref a1), .val (.int (0 : Int32)), .val (.ref a3), .val (.int (0 : Int32)), .val (.int (2 : Int32)), .unset, .unset] [])) (fun m => own_ef6 m a1 a3) ?_
  intro p e s m below meth c s₁ hx hby hml hown hnm hret hlk hZ X0 e0
  change own_G p e below (own_F (own_qcp Z a3 kb h0 n0) s 0 0) s₁ (mkF m 0 #[.val (.ref a1), .val (.int (0 : Int32)), .val (.ref a3), .val (.int (0 : Int32)), .val (.int (2 : Int32)), .unset, .unset] [])
  have N0 := Fr.nil n0
  refine own_st (T' := s₁) (g' := (mkF m 1 #[.val (.ref a1), .val (.int (0 : Int32)), .val (.ref a3), .val (.int (0 : Int32)), .val (.int (2 : Int32)), .unset, .unset] [(.int (0 : Int32))])) (fun t k => XS.iconst X0.here hx rfl (hb hby own_d6_0) k) ?_
  refine own_st (T' := s₁) (g' := (mkF m 3 #[.val (.ref a1), .val (.int (0 : Int32)), .val (.ref a3), .val (.int (0 : Int32)), .val (.int (2 : Int32)), .val (.int (0 : Int32)), .unset] [])) (fun t k => XS.istore X0.here hx rfl (hb hby own_d6_1) rfl (l' := #[.val (.ref a1), .val (.int (0 : Int32)), .val (.ref a3), .val (.int (0 : Int32)), .val (.int (2 : Int32)), .val (.int (0 : Int32)), .unset]) rfl k) ?_
  refine own_st (T' := s₁) (g' := (mkF m 5 #[.val (.ref a1), .val (.int (0 : Int32)), .val (.ref a3), .val (.int (0 : Int32)), .val (.int (2 : Int32)), .val (.int (0 : Int32)), .unset] [(.int (0 : Int32))])) (fun t k => XS.iload X0.here hx rfl (hb hby own_d6_3) rfl k) ?_
  refine own_st (T' := s₁) (g' := (mkF m 7 #[.val (.ref a1), .val (.int (0 : Int32)), .val (.ref a3), .val (.int (0 : Int32)), .val (.int (2 : Int32)), .val (.int (0 : Int32)), .unset] [(.int (2 : Int32)), (.int (0 : Int32))])) (fun t k => XS.iload X0.here hx rfl (hb hby own_d6_5) rfl k) ?_
  refine own_st (T' := s₁) (g' := (mkF m 10 #[.val (.ref a1), .val (.int (0 : Int32)), .val (.ref a3), .val (.int (0 : Int32)), .val (.int (2 : Int32)), .val (.int (0 : Int32)), .unset] [])) (fun t k => XS.icmpNo X0.here hx rfl (hb hby own_d6_7) rfl (tlt (by decide)).2.1 k) ?_
  refine own_st (T' := s₁) (g' := (mkF m 11 #[.val (.ref a1), .val (.int (0 : Int32)), .val (.ref a3), .val (.int (0 : Int32)), .val (.int (2 : Int32)), .val (.int (0 : Int32)), .unset] [(.ref a1)])) (fun t k => XS.aloadN X0.here hx rfl (hb hby own_d6_10) rfl rfl k) ?_
  refine own_st (T' := s₁) (g' := (mkF m 12 #[.val (.ref a1), .val (.int (0 : Int32)), .val (.ref a3), .val (.int (0 : Int32)), .val (.int (2 : Int32)), .val (.int (0 : Int32)), .unset] [(.int (0 : Int32)), (.ref a1)])) (fun t k => XS.iloadN X0.here hx rfl (hb hby own_d6_11) rfl k) ?_
  obtain ⟨cl1, Ar1, q1, S1, N1n, H1, G1⟩ := V_a1
  have hin1 : ¬ ((0 : Int32) < 0 ∨ cl1.slots.size ≤ ((0 : Int32) : Int32).toNatClampNeg) := inb_of S1 ⟨by decide, by decide⟩
  have hat2 := H1.at hin1 (v := (.int x)) rfl
  have V_a1 : Arv Z h0 a1 kc .char (2 : Int32) [(.int x), (.int y)] (.int (0 : Int32)) := ⟨cl1, Ar1, q1, S1, N1n, H1, G1⟩
  refine own_st (T' := s₁) (g' := (mkF m 13 #[.val (.ref a1), .val (.int (0 : Int32)), .val (.ref a3), .val (.int (0 : Int32)), .val (.int (2 : Int32)), .val (.int (0 : Int32)), .unset] [(.int x)])) (X0.caload hx (j := (0 : Int32)) (v := (.int x)) (by rw [e0]; exact Ar1.1) (State.isArrayOf_alike hZ.alike Ar1.2.1) Ar1.2.2 hin1 hat2 (g := (mkF m 12 #[.val (.ref a1), .val (.int (0 : Int32)), .val (.ref a3), .val (.int (0 : Int32)), .val (.int (2 : Int32)), .val (.int (0 : Int32)), .unset] [(.int (0 : Int32)), (.ref a1)])) rfl rfl (hb hby own_d6_12)) ?_
  refine own_st (T' := s₁) (g' := (mkF m 15 #[.val (.ref a1), .val (.int (0 : Int32)), .val (.ref a3), .val (.int (0 : Int32)), .val (.int (2 : Int32)), .val (.int (0 : Int32)), .val (.int x)] [])) (fun t k => XS.istore X0.here hx rfl (hb hby own_d6_13) rfl (l' := #[.val (.ref a1), .val (.int (0 : Int32)), .val (.ref a3), .val (.int (0 : Int32)), .val (.int (2 : Int32)), .val (.int (0 : Int32)), .val (.int x)]) rfl k) ?_
  refine own_st (T' := s₁) (g' := (mkF m 17 #[.val (.ref a1), .val (.int (0 : Int32)), .val (.ref a3), .val (.int (0 : Int32)), .val (.int (2 : Int32)), .val (.int (0 : Int32)), .val (.int x)] [(.int x)])) (fun t k => XS.iload X0.here hx rfl (hb hby own_d6_15) rfl k) ?_
  refine own_st (T' := s₁) (g' := (mkF m 20 #[.val (.ref a1), .val (.int (0 : Int32)), .val (.ref a3), .val (.int (0 : Int32)), .val (.int (2 : Int32)), .val (.int (0 : Int32)), .val (.int x)] [(.int (255 : Int32)), (.int x)])) (fun t k => XS.sipush X0.here hx rfl (hb hby own_d6_17) k) ?_
  have hk3 : ¬ ((255 : Int32) < x) := hxx
  refine own_st (T' := s₁) (g' := (mkF m 26 #[.val (.ref a1), .val (.int (0 : Int32)), .val (.ref a3), .val (.int (0 : Int32)), .val (.int (2 : Int32)), .val (.int (0 : Int32)), .val (.int x)] [])) (fun t k => XS.icmpYes X0.here hx rfl (pc0 := 20) (pc' := 26) rfl (hb hby own_d6_20) rfl (flt hk3).2.2.2 (by decide) (by decide) k) ?_
  refine own_st (T' := s₁) (g' := (mkF m 27 #[.val (.ref a1), .val (.int (0 : Int32)), .val (.ref a3), .val (.int (0 : Int32)), .val (.int (2 : Int32)), .val (.int (0 : Int32)), .val (.int x)] [(.ref a3)])) (fun t k => XS.aloadN X0.here hx rfl (hb hby own_d6_26) rfl rfl k) ?_
  refine own_st (T' := s₁) (g' := (mkF m 28 #[.val (.ref a1), .val (.int (0 : Int32)), .val (.ref a3), .val (.int (0 : Int32)), .val (.int (2 : Int32)), .val (.int (0 : Int32)), .val (.int x)] [(.int (0 : Int32)), (.ref a3)])) (fun t k => XS.iloadN X0.here hx rfl (hb hby own_d6_27) rfl k) ?_
  refine own_st (T' := s₁) (g' := (mkF m 30 #[.val (.ref a1), .val (.int (0 : Int32)), .val (.ref a3), .val (.int (0 : Int32)), .val (.int (2 : Int32)), .val (.int (0 : Int32)), .val (.int x)] [(.int x), (.int (0 : Int32)), (.ref a3)])) (fun t k => XS.iload X0.here hx rfl (hb hby own_d6_28) rfl k) ?_
  refine own_st (T' := s₁) (g' := (mkF m 31 #[.val (.ref a1), .val (.int (0 : Int32)), .val (.ref a3), .val (.int (0 : Int32)), .val (.int (2 : Int32)), .val (.int (0 : Int32)), .val (.int x)] [(.int (x.toInt8.toInt32)), (.int (0 : Int32)), (.ref a3)])) (fun t k => XS.i2b X0.here hx rfl (hb hby own_d6_30) rfl k) ?_
  obtain ⟨cl4, Ar4, q4, S4, N4n, H4, G4⟩ := V_a3
  have hin4 : ¬ ((0 : Int32) < 0 ∨ cl4.slots.size ≤ ((0 : Int32) : Int32).toNatClampNeg) := inb_of S4 ⟨by decide, by decide⟩
  obtain ⟨T5, h5, X5, e5, W5, st5⟩ := stB X0 hx hZ e0 Ar4 (j := (0 : Int32)) hin4 (g := (mkF m 31 #[.val (.ref a1), .val (.int (0 : Int32)), .val (.ref a3), .val (.int (0 : Int32)), .val (.int (2 : Int32)), .val (.int (0 : Int32)), .val (.int x)] [(.int (x.toInt8.toInt32)), (.int (0 : Int32)), (.ref a3)])) rfl rfl (hb hby own_d6_31)
  have V_a1 := V_a1.other W5 ne_a1_a3
  have V_a3 : Arv Z h5 a3 kb .byte (2 : Int32) [(.int (nar .byte (x.toInt8.toInt32))), (.int (0 : Int32))] (.int (0 : Int32)) := Arv.set Ar4 q4 S4 N4n H4 G4 (fits_nar_byte _) W5 0 rfl (Nat.le_of_ble_eq_true rfl)
  have K0_5 := (Keep.refl h0 [a3]).wr W5 (Or.inl (List.mem_of_getElem? (i := 0) rfl))
  have N5 := Fr.snoc X5 N0 g_a3
  generalize hlc5 : ([] ++ [(⟨a3, ((0 : Int32) : Int32).toNatClampNeg⟩ : Loc)] : List Loc) = lc5 at X5 N5
  have Z5 : n0 ≤ h5.size := Nat.le_trans Z0 (Keep.of_wr W5).1
  refine own_st (T' := T5) (g' := (mkF m 32 #[.val (.ref a1), .val (.int (0 : Int32)), .val (.ref a3), .val (.int (0 : Int32)), .val (.int (2 : Int32)), .val (.int (0 : Int32)), .val (.int x)] [])) st5 ?_
  refine own_st (T' := T5) (g' := (mkF m 35 #[.val (.ref a1), .val (.int (1 : Int32)), .val (.ref a3), .val (.int (0 : Int32)), .val (.int (2 : Int32)), .val (.int (0 : Int32)), .val (.int x)] [])) (fun t k => XS.iinc X5.here hx rfl (hb hby own_d6_32) rfl (l' := #[.val (.ref a1), .val (.int (1 : Int32)), .val (.ref a3), .val (.int (0 : Int32)), .val (.int (2 : Int32)), .val (.int (0 : Int32)), .val (.int x)]) rfl k) ?_
  refine own_st (T' := T5) (g' := (mkF m 38 #[.val (.ref a1), .val (.int (1 : Int32)), .val (.ref a3), .val (.int (1 : Int32)), .val (.int (2 : Int32)), .val (.int (0 : Int32)), .val (.int x)] [])) (fun t k => XS.iinc X5.here hx rfl (hb hby own_d6_35) rfl (l' := #[.val (.ref a1), .val (.int (1 : Int32)), .val (.ref a3), .val (.int (1 : Int32)), .val (.int (2 : Int32)), .val (.int (0 : Int32)), .val (.int x)]) rfl k) ?_
  refine own_st (T' := T5) (g' := (mkF m 41 #[.val (.ref a1), .val (.int (1 : Int32)), .val (.ref a3), .val (.int (1 : Int32)), .val (.int (2 : Int32)), .val (.int (1 : Int32)), .val (.int x)] [])) (fun t k => XS.iinc X5.here hx rfl (hb hby own_d6_38) rfl (l' := #[.val (.ref a1), .val (.int (1 : Int32)), .val (.ref a3), .val (.int (1 : Int32)), .val (.int (2 : Int32)), .val (.int (1 : Int32)), .val (.int x)]) rfl k) ?_
  refine own_st (T' := T5) (g' := (mkF m 3 #[.val (.ref a1), .val (.int (1 : Int32)), .val (.ref a3), .val (.int (1 : Int32)), .val (.int (2 : Int32)), .val (.int (1 : Int32)), .val (.int x)] [])) (fun t k => XS.goto X5.here hx rfl (pc0 := 41) (pc' := 3) rfl (hb hby own_d6_41) (by decide) (by decide) k) ?_
  refine own_st (T' := T5) (g' := (mkF m 5 #[.val (.ref a1), .val (.int (1 : Int32)), .val (.ref a3), .val (.int (1 : Int32)), .val (.int (2 : Int32)), .val (.int (1 : Int32)), .val (.int x)] [(.int (1 : Int32))])) (fun t k => XS.iload X5.here hx rfl (hb hby own_d6_3) rfl k) ?_
  refine own_st (T' := T5) (g' := (mkF m 7 #[.val (.ref a1), .val (.int (1 : Int32)), .val (.ref a3), .val (.int (1 : Int32)), .val (.int (2 : Int32)), .val (.int (1 : Int32)), .val (.int x)] [(.int (2 : Int32)), (.int (1 : Int32))])) (fun t k => XS.iload X5.here hx rfl (hb hby own_d6_5) rfl k) ?_
  refine own_st (T' := T5) (g' := (mkF m 10 #[.val (.ref a1), .val (.int (1 : Int32)), .val (.ref a3), .val (.int (1 : Int32)), .val (.int (2 : Int32)), .val (.int (1 : Int32)), .val (.int x)] [])) (fun t k => XS.icmpNo X5.here hx rfl (hb hby own_d6_7) rfl (tlt (by decide)).2.1 k) ?_
  refine own_st (T' := T5) (g' := (mkF m 11 #[.val (.ref a1), .val (.int (1 : Int32)), .val (.ref a3), .val (.int (1 : Int32)), .val (.int (2 : Int32)), .val (.int (1 : Int32)), .val (.int x)] [(.ref a1)])) (fun t k => XS.aloadN X5.here hx rfl (hb hby own_d6_10) rfl rfl k) ?_
  refine own_st (T' := T5) (g' := (mkF m 12 #[.val (.ref a1), .val (.int (1 : Int32)), .val (.ref a3), .val (.int (1 : Int32)), .val (.int (2 : Int32)), .val (.int (1 : Int32)), .val (.int x)] [(.int (1 : Int32)), (.ref a1)])) (fun t k => XS.iloadN X5.here hx rfl (hb hby own_d6_11) rfl k) ?_
  obtain ⟨cl6, Ar6, q6, S6, N6n, H6, G6⟩ := V_a1
  have hin6 : ¬ ((1 : Int32) < 0 ∨ cl6.slots.size ≤ ((1 : Int32) : Int32).toNatClampNeg) := inb_of S6 ⟨by decide, by decide⟩
  have hat7 := H6.at hin6 (v := (.int y)) rfl
  have V_a1 : Arv Z h5 a1 kc .char (2 : Int32) [(.int x), (.int y)] (.int (0 : Int32)) := ⟨cl6, Ar6, q6, S6, N6n, H6, G6⟩
  refine own_st (T' := T5) (g' := (mkF m 13 #[.val (.ref a1), .val (.int (1 : Int32)), .val (.ref a3), .val (.int (1 : Int32)), .val (.int (2 : Int32)), .val (.int (1 : Int32)), .val (.int x)] [(.int y)])) (X5.caload hx (j := (1 : Int32)) (v := (.int y)) (by rw [e5]; exact Ar6.1) (State.isArrayOf_alike hZ.alike Ar6.2.1) Ar6.2.2 hin6 hat7 (g := (mkF m 12 #[.val (.ref a1), .val (.int (1 : Int32)), .val (.ref a3), .val (.int (1 : Int32)), .val (.int (2 : Int32)), .val (.int (1 : Int32)), .val (.int x)] [(.int (1 : Int32)), (.ref a1)])) rfl rfl (hb hby own_d6_12)) ?_
  refine own_st (T' := T5) (g' := (mkF m 15 #[.val (.ref a1), .val (.int (1 : Int32)), .val (.ref a3), .val (.int (1 : Int32)), .val (.int (2 : Int32)), .val (.int (1 : Int32)), .val (.int y)] [])) (fun t k => XS.istore X5.here hx rfl (hb hby own_d6_13) rfl (l' := #[.val (.ref a1), .val (.int (1 : Int32)), .val (.ref a3), .val (.int (1 : Int32)), .val (.int (2 : Int32)), .val (.int (1 : Int32)), .val (.int y)]) rfl k) ?_
  refine own_st (T' := T5) (g' := (mkF m 17 #[.val (.ref a1), .val (.int (1 : Int32)), .val (.ref a3), .val (.int (1 : Int32)), .val (.int (2 : Int32)), .val (.int (1 : Int32)), .val (.int y)] [(.int y)])) (fun t k => XS.iload X5.here hx rfl (hb hby own_d6_15) rfl k) ?_
  refine own_st (T' := T5) (g' := (mkF m 20 #[.val (.ref a1), .val (.int (1 : Int32)), .val (.ref a3), .val (.int (1 : Int32)), .val (.int (2 : Int32)), .val (.int (1 : Int32)), .val (.int y)] [(.int (255 : Int32)), (.int y)])) (fun t k => XS.sipush X5.here hx rfl (hb hby own_d6_17) k) ?_
  have hk8 : ¬ ((255 : Int32) < y) := hyy
  refine own_st (T' := T5) (g' := (mkF m 26 #[.val (.ref a1), .val (.int (1 : Int32)), .val (.ref a3), .val (.int (1 : Int32)), .val (.int (2 : Int32)), .val (.int (1 : Int32)), .val (.int y)] [])) (fun t k => XS.icmpYes X5.here hx rfl (pc0 := 20) (pc' := 26) rfl (hb hby own_d6_20) rfl (flt hk8).2.2.2 (by decide) (by decide) k) ?_
  refine own_st (T' := T5) (g' := (mkF m 27 #[.val (.ref a1), .val (.int (1 : Int32)), .val (.ref a3), .val (.int (1 : Int32)), .val (.int (2 : Int32)), .val (.int (1 : Int32)), .val (.int y)] [(.ref a3)])) (fun t k => XS.aloadN X5.here hx rfl (hb hby own_d6_26) rfl rfl k) ?_
  refine own_st (T' := T5) (g' := (mkF m 28 #[.val (.ref a1), .val (.int (1 : Int32)), .val (.ref a3), .val (.int (1 : Int32)), .val (.int (2 : Int32)), .val (.int (1 : Int32)), .val (.int y)] [(.int (1 : Int32)), (.ref a3)])) (fun t k => XS.iloadN X5.here hx rfl (hb hby own_d6_27) rfl k) ?_
  refine own_st (T' := T5) (g' := (mkF m 30 #[.val (.ref a1), .val (.int (1 : Int32)), .val (.ref a3), .val (.int (1 : Int32)), .val (.int (2 : Int32)), .val (.int (1 : Int32)), .val (.int y)] [(.int y), (.int (1 : Int32)), (.ref a3)])) (fun t k => XS.iload X5.here hx rfl (hb hby own_d6_28) rfl k) ?_
  refine own_st (T' := T5) (g' := (mkF m 31 #[.val (.ref a1), .val (.int (1 : Int32)), .val (.ref a3), .val (.int (1 : Int32)), .val (.int (2 : Int32)), .val (.int (1 : Int32)), .val (.int y)] [(.int (y.toInt8.toInt32)), (.int (1 : Int32)), (.ref a3)])) (fun t k => XS.i2b X5.here hx rfl (hb hby own_d6_30) rfl k) ?_
  obtain ⟨cl9, Ar9, q9, S9, N9n, H9, G9⟩ := V_a3
  have hin9 : ¬ ((1 : Int32) < 0 ∨ cl9.slots.size ≤ ((1 : Int32) : Int32).toNatClampNeg) := inb_of S9 ⟨by decide, by decide⟩
  obtain ⟨T10, h10, X10, e10, W10, st10⟩ := stB X5 hx hZ e5 Ar9 (j := (1 : Int32)) hin9 (g := (mkF m 31 #[.val (.ref a1), .val (.int (1 : Int32)), .val (.ref a3), .val (.int (1 : Int32)), .val (.int (2 : Int32)), .val (.int (1 : Int32)), .val (.int y)] [(.int (y.toInt8.toInt32)), (.int (1 : Int32)), (.ref a3)])) rfl rfl (hb hby own_d6_31)
  have V_a1 := V_a1.other W10 ne_a1_a3
  have V_a3 : Arv Z h10 a3 kb .byte (2 : Int32) [(.int (nar .byte (x.toInt8.toInt32))), (.int (nar .byte (y.toInt8.toInt32)))] (.int (0 : Int32)) := Arv.set Ar9 q9 S9 N9n H9 G9 (fits_nar_byte _) W10 1 rfl (Nat.le_of_ble_eq_true rfl)
  have K0_10 := K0_5.wr W10 (Or.inl (List.mem_of_getElem? (i := 0) rfl))
  have N10 := Fr.snoc X10 N5 g_a3
  generalize hlc10 : (lc5 ++ [(⟨a3, ((1 : Int32) : Int32).toNatClampNeg⟩ : Loc)] : List Loc) = lc10 at X10 N10
  have Z10 : n0 ≤ h10.size := Nat.le_trans Z5 (Keep.of_wr W10).1
  refine own_st (T' := T10) (g' := (mkF m 32 #[.val (.ref a1), .val (.int (1 : Int32)), .val (.ref a3), .val (.int (1 : Int32)), .val (.int (2 : Int32)), .val (.int (1 : Int32)), .val (.int y)] [])) st10 ?_
  refine own_st (T' := T10) (g' := (mkF m 35 #[.val (.ref a1), .val (.int (2 : Int32)), .val (.ref a3), .val (.int (1 : Int32)), .val (.int (2 : Int32)), .val (.int (1 : Int32)), .val (.int y)] [])) (fun t k => XS.iinc X10.here hx rfl (hb hby own_d6_32) rfl (l' := #[.val (.ref a1), .val (.int (2 : Int32)), .val (.ref a3), .val (.int (1 : Int32)), .val (.int (2 : Int32)), .val (.int (1 : Int32)), .val (.int y)]) rfl k) ?_
  refine own_st (T' := T10) (g' := (mkF m 38 #[.val (.ref a1), .val (.int (2 : Int32)), .val (.ref a3), .val (.int (2 : Int32)), .val (.int (2 : Int32)), .val (.int (1 : Int32)), .val (.int y)] [])) (fun t k => XS.iinc X10.here hx rfl (hb hby own_d6_35) rfl (l' := #[.val (.ref a1), .val (.int (2 : Int32)), .val (.ref a3), .val (.int (2 : Int32)), .val (.int (2 : Int32)), .val (.int (1 : Int32)), .val (.int y)]) rfl k) ?_
  refine own_st (T' := T10) (g' := (mkF m 41 #[.val (.ref a1), .val (.int (2 : Int32)), .val (.ref a3), .val (.int (2 : Int32)), .val (.int (2 : Int32)), .val (.int (2 : Int32)), .val (.int y)] [])) (fun t k => XS.iinc X10.here hx rfl (hb hby own_d6_38) rfl (l' := #[.val (.ref a1), .val (.int (2 : Int32)), .val (.ref a3), .val (.int (2 : Int32)), .val (.int (2 : Int32)), .val (.int (2 : Int32)), .val (.int y)]) rfl k) ?_
  refine own_st (T' := T10) (g' := (mkF m 3 #[.val (.ref a1), .val (.int (2 : Int32)), .val (.ref a3), .val (.int (2 : Int32)), .val (.int (2 : Int32)), .val (.int (2 : Int32)), .val (.int y)] [])) (fun t k => XS.goto X10.here hx rfl (pc0 := 41) (pc' := 3) rfl (hb hby own_d6_41) (by decide) (by decide) k) ?_
  refine own_st (T' := T10) (g' := (mkF m 5 #[.val (.ref a1), .val (.int (2 : Int32)), .val (.ref a3), .val (.int (2 : Int32)), .val (.int (2 : Int32)), .val (.int (2 : Int32)), .val (.int y)] [(.int (2 : Int32))])) (fun t k => XS.iload X10.here hx rfl (hb hby own_d6_3) rfl k) ?_
  refine own_st (T' := T10) (g' := (mkF m 7 #[.val (.ref a1), .val (.int (2 : Int32)), .val (.ref a3), .val (.int (2 : Int32)), .val (.int (2 : Int32)), .val (.int (2 : Int32)), .val (.int y)] [(.int (2 : Int32)), (.int (2 : Int32))])) (fun t k => XS.iload X10.here hx rfl (hb hby own_d6_5) rfl k) ?_
  refine own_st (T' := T10) (g' := (mkF m 44 #[.val (.ref a1), .val (.int (2 : Int32)), .val (.ref a3), .val (.int (2 : Int32)), .val (.int (2 : Int32)), .val (.int (2 : Int32)), .val (.int y)] [])) (fun t k => XS.icmpYes X10.here hx rfl (pc0 := 7) (pc' := 44) rfl (hb hby own_d6_7) rfl (flt (by decide)).2.1 (by decide) (by decide) k) ?_
  refine own_st (T' := T10) (g' := (mkF m 46 #[.val (.ref a1), .val (.int (2 : Int32)), .val (.ref a3), .val (.int (2 : Int32)), .val (.int (2 : Int32)), .val (.int (2 : Int32)), .val (.int y)] [(.int (2 : Int32))])) (fun t k => XS.iload X10.here hx rfl (hb hby own_d6_44) rfl k) ?_
  exact own_retI X10 hx hlk hret (hb hby own_d6_46) (by decide) (by decide) (by rw [e10]; exact ⟨rfl, N10, K0_10, _, _, V_a3⟩)
theorem own_d5_0 : decode jdk_52_method_16_code 0 = .ok (.iload_n 2, 1) := by decide +kernel
theorem own_d5_1 : decode jdk_52_method_16_code 1 = .ok (.newarray .byte, 2) := by decide +kernel
theorem own_d5_3 : decode jdk_52_method_16_code 3 = .ok (.astore_n 3, 1) := by decide +kernel
theorem own_d5_4 : decode jdk_52_method_16_code 4 = .ok (.aload_n 0, 1) := by decide +kernel
theorem own_d5_5 : decode jdk_52_method_16_code 5 = .ok (.iload_n 1, 1) := by decide +kernel
theorem own_d5_6 : decode jdk_52_method_16_code 6 = .ok (.aload_n 3, 1) := by decide +kernel
theorem own_d5_7 : decode jdk_52_method_16_code 7 = .ok (.iconst 0, 1) := by decide +kernel
theorem own_d5_8 : decode jdk_52_method_16_code 8 = .ok (.iload_n 2, 1) := by decide +kernel
theorem own_d5_9 : decode jdk_52_method_16_code 9 = .ok (.invokestatic 115, 3) := by decide +kernel
theorem own_d5_12 : decode jdk_52_method_16_code 12 = .ok (.istore 4, 2) := by decide +kernel
theorem own_d5_14 : decode jdk_52_method_16_code 14 = .ok (.iload 4, 2) := by decide +kernel
theorem own_d5_16 : decode jdk_52_method_16_code 16 = .ok (.iload_n 2, 1) := by decide +kernel
theorem own_d5_17 : decode jdk_52_method_16_code 17 = .ok (.if_icmp .eq 40, 3) := by decide +kernel
theorem own_d5_57 : decode jdk_52_method_16_code 57 = .ok (.aload_n 3, 1) := by decide +kernel
theorem own_d5_58 : decode jdk_52_method_16_code 58 = .ok (.areturn, 1) := by decide +kernel
theorem own_pn5 : plainFor (⟨"java/lang/StringUTF16", "compress", "([CII)[B"⟩ : MethodName) = true := plainFor_of_name (show plainName "java/lang/StringUTF16" = true by first | (simp [plainName, overriddenIn]; done) | decide +kernel)
theorem own_ef5 (m : MethodId) (a1 : Addr) : entryFrame m #[(.ref a1), (.int (0 : Int32)), (.int (2 : Int32))] 6 = (mkF m 0 #[.val (.ref a1), .val (.int (0 : Int32)), .val (.int (2 : Int32)), .unset, .unset, .unset] []) := by first | (simp [entryFrame, mkF, argsToLocals, Value.category]; done) | rfl
set_option maxRecDepth 65536 in
set_option maxHeartbeats 40000000 in
theorem own_rm5 (l : Launch) (Z : State) (a0 : Array Value) (hw : ∀ d ∈ tables_1, d.before a0 Z = true) (h0 : Heap) (n0 : Nat) (Z0 : n0 ≤ h0.size) (a1 : Addr) (x y : Int32) (hxx : ¬ (255 : Int32) < x) (hyy : ¬ (255 : Int32) < y) (kc : ClassId) (V_a1 : Arv Z h0 a1 kc .char 2 [.int x, .int y] (.int (0 : Int32))) :
    own_C l Z (⟨"java/lang/StringUTF16", "compress", "([CII)[B"⟩ : MethodName) jdk_52_method_16_code 6 (some (.array .byte)) [] ({ frames := 1, cells := 1, slots := 2, locals := 30 } : Room) #[(.ref a1), (.int (0 : Int32)), (.int (2 : Int32))] h0 (own_qby Z n0 h0) := by
  refine own_body own_pn5 (f0 := fun m => (mkF m 0 #[.val (.ref a1), .val (.int (0 : Int32)), .val (.int (2 : Int32)), .unset, .unset, .unset] [])) (fun m => own_ef5 m a1) ?_
  intro p e s m below meth c s₁ hx hby hml hown hnm hret hlk hZ X0 e0
  change own_G p e below (own_F (own_qby Z n0 h0) s 1 2) s₁ (mkF m 0 #[.val (.ref a1), .val (.int (0 : Int32)), .val (.int (2 : Int32)), .unset, .unset, .unset] [])
  have N0 := Fr.nil n0
  refine own_st (T' := s₁) (g' := (mkF m 1 #[.val (.ref a1), .val (.int (0 : Int32)), .val (.int (2 : Int32)), .unset, .unset, .unset] [(.int (2 : Int32))])) (fun t k => XS.iloadN X0.here hx rfl (hb hby own_d5_0) rfl k) ?_
  obtain ⟨T1, h1, k1, X1, e1, E1, A1, Ex1, st1⟩ := newPE X0 hx hZ (aty := .byte) (hw _ (List.mem_of_getElem? (i := 27) rfl)) e0 (g := (mkF m 1 #[.val (.ref a1), .val (.int (0 : Int32)), .val (.int (2 : Int32)), .unset, .unset, .unset] [(.int (2 : Int32))])) rfl (hb hby own_d5_1) rfl (by decide) (cap := 2) (by decide) (by decide) (by decide) (by decide) (ad := "[B") (by decide)
  obtain ⟨b1, gb1⟩ : ∃ z, z = h0.size := ⟨_, rfl⟩
  rw [← gb1] at A1 Ex1 st1
  have ne_a1_b1 : a1 ≠ b1 := by rw [gb1]; exact Nat.ne_of_lt V_a1.lt
  have g_b1 : n0 ≤ b1 := Nat.le_trans Z0 (Nat.le_of_eq gb1.symm)
  have Z1 : n0 ≤ h1.size := Nat.le_trans Z0 E1.1
  have sz_b1 : h0.size ≤ b1 := Nat.le_trans (Keep.refl h0 []).1 (Nat.le_of_eq gb1.symm)
  have K0_1 := (Keep.refl h0 []).ext E1
  have V_a1 := V_a1.ext E1
  have V_b1 : Arv Z h1 b1 k1 .byte (2 : Int32) [(.int (0 : Int32)), (.int (0 : Int32))] (.int (0 : Int32)) := (Arv.new A1 (by decide)).pad (pad_rep [] (.int (0 : Int32)) 2)
  have E_b1 := Ex1
  have X1 : Stand p l e ({ frames := 1, cells := 1, slots := 2, locals := 30 } : Room) s m #[(.ref a1), (.int (0 : Int32)), (.int (2 : Int32))] below meth c T1 [] 1 2 := X1
  refine own_st (T' := T1) (g' := (mkF m 3 #[.val (.ref a1), .val (.int (0 : Int32)), .val (.int (2 : Int32)), .unset, .unset, .unset] [(.ref b1)])) st1 ?_
  refine own_st (T' := T1) (g' := (mkF m 4 #[.val (.ref a1), .val (.int (0 : Int32)), .val (.int (2 : Int32)), .val (.ref b1), .unset, .unset] [])) (fun t k => XS.astoreN X1.here hx rfl (hb hby own_d5_3) rfl rfl (l' := #[.val (.ref a1), .val (.int (0 : Int32)), .val (.int (2 : Int32)), .val (.ref b1), .unset, .unset]) rfl k) ?_
  refine own_st (T' := T1) (g' := (mkF m 5 #[.val (.ref a1), .val (.int (0 : Int32)), .val (.int (2 : Int32)), .val (.ref b1), .unset, .unset] [(.ref a1)])) (fun t k => XS.aloadN X1.here hx rfl (hb hby own_d5_4) rfl rfl k) ?_
  refine own_st (T' := T1) (g' := (mkF m 6 #[.val (.ref a1), .val (.int (0 : Int32)), .val (.int (2 : Int32)), .val (.ref b1), .unset, .unset] [(.int (0 : Int32)), (.ref a1)])) (fun t k => XS.iloadN X1.here hx rfl (hb hby own_d5_5) rfl k) ?_
  refine own_st (T' := T1) (g' := (mkF m 7 #[.val (.ref a1), .val (.int (0 : Int32)), .val (.int (2 : Int32)), .val (.ref b1), .unset, .unset] [(.ref b1), (.int (0 : Int32)), (.ref a1)])) (fun t k => XS.aloadN X1.here hx rfl (hb hby own_d5_6) rfl rfl k) ?_
  refine own_st (T' := T1) (g' := (mkF m 8 #[.val (.ref a1), .val (.int (0 : Int32)), .val (.int (2 : Int32)), .val (.ref b1), .unset, .unset] [(.int (0 : Int32)), (.ref b1), (.int (0 : Int32)), (.ref a1)])) (fun t k => XS.iconst X1.here hx rfl (hb hby own_d5_7) k) ?_
  refine own_st (T' := T1) (g' := (mkF m 9 #[.val (.ref a1), .val (.int (0 : Int32)), .val (.int (2 : Int32)), .val (.ref b1), .unset, .unset] [(.int (2 : Int32)), (.int (0 : Int32)), (.ref b1), (.int (0 : Int32)), (.ref a1)])) (fun t k => XS.iloadN X1.here hx rfl (hb hby own_d5_8) rfl k) ?_
  obtain ⟨_, T2, L2, hQ2, X2, st2⟩ := own_callS (y := (⟨"java/lang/StringUTF16", "compress", "([CI[BII)I"⟩ : MethodName)) (argsL := [(.ref a1), (.int (0 : Int32)), (.ref b1), (.int (0 : Int32)), (.int (2 : Int32))]) 0 [] (own_rm6 l Z a0 hw h1 n0 Z1 a1 b1 x y hxx hyy kc V_a1 k1 V_b1 ne_a1_b1 g_b1) X1 hx hZ hown (hw _ (List.mem_of_getElem? (i := 28) rfl)) (hw _ (List.mem_of_getElem? (i := 29) rfl)) (hw _ (List.mem_of_getElem? (i := 25) rfl)) (hw _ (List.mem_of_getElem? (i := 30) rfl)) (by decide) (by decide) (by decide) (by decide) (by decide) e1 (g := (mkF m 9 #[.val (.ref a1), .val (.int (0 : Int32)), .val (.int (2 : Int32)), .val (.ref b1), .unset, .unset] [(.int (2 : Int32)), (.int (0 : Int32)), (.ref b1), (.int (0 : Int32)), (.ref a1)])) rfl (by rw [hml]; rfl) (lenOf own_pd0 rfl) rfl (by show 2 * 0 + _ ≤ _; exact Nat.le_of_eq rfl) (hb hby own_d5_9)
  obtain ⟨rfl, N2q, Kq2, x2a, x2b, V_b1⟩ := hQ2
  have K0_2 := K0_1.trans Kq2 (allS (Or.inr sz_b1) all0)
  have Z2 : n0 ≤ T2.heap.size := Nat.le_trans Z1 Kq2.1
  have V_a1 := V_a1.keep Kq2 (ninS ne_a1_b1 nin0)
  have E_b1 := E_b1.keep Kq2
  have N2 := Fr.app N0 N2q
  generalize hlc2 : ([] ++ L2 : List Loc) = lc2 at X2 N2
  have X2 : Stand p l e ({ frames := 1, cells := 1, slots := 2, locals := 30 } : Room) s m #[(.ref a1), (.int (0 : Int32)), (.int (2 : Int32))] below meth c T2 lc2 1 2 := X2
  refine own_st (T' := T2) (g' := (mkF m 12 #[.val (.ref a1), .val (.int (0 : Int32)), .val (.int (2 : Int32)), .val (.ref b1), .unset, .unset] [(.int (2 : Int32))])) st2 ?_
  refine own_st (T' := T2) (g' := (mkF m 14 #[.val (.ref a1), .val (.int (0 : Int32)), .val (.int (2 : Int32)), .val (.ref b1), .val (.int (2 : Int32)), .unset] [])) (fun t k => XS.istore X2.here hx rfl (hb hby own_d5_12) rfl (l' := #[.val (.ref a1), .val (.int (0 : Int32)), .val (.int (2 : Int32)), .val (.ref b1), .val (.int (2 : Int32)), .unset]) rfl k) ?_
  refine own_st (T' := T2) (g' := (mkF m 16 #[.val (.ref a1), .val (.int (0 : Int32)), .val (.int (2 : Int32)), .val (.ref b1), .val (.int (2 : Int32)), .unset] [(.int (2 : Int32))])) (fun t k => XS.iload X2.here hx rfl (hb hby own_d5_14) rfl k) ?_
  refine own_st (T' := T2) (g' := (mkF m 17 #[.val (.ref a1), .val (.int (0 : Int32)), .val (.int (2 : Int32)), .val (.ref b1), .val (.int (2 : Int32)), .unset] [(.int (2 : Int32)), (.int (2 : Int32))])) (fun t k => XS.iloadN X2.here hx rfl (hb hby own_d5_16) rfl k) ?_
  refine own_st (T' := T2) (g' := (mkF m 57 #[.val (.ref a1), .val (.int (0 : Int32)), .val (.int (2 : Int32)), .val (.ref b1), .val (.int (2 : Int32)), .unset] [])) (fun t k => XS.icmpYes X2.here hx rfl (pc0 := 17) (pc' := 57) rfl (hb hby own_d5_17) rfl (teq (by decide)).1 (by decide) (by decide) k) ?_
  refine own_st (T' := T2) (g' := (mkF m 58 #[.val (.ref a1), .val (.int (0 : Int32)), .val (.int (2 : Int32)), .val (.ref b1), .val (.int (2 : Int32)), .unset] [(.ref b1)])) (fun t k => XS.aloadN X2.here hx rfl (hb hby own_d5_57) rfl rfl k) ?_
  exact own_retA X2 hx hlk hret (hb hby own_d5_58) (by decide) (by decide) rfl ⟨b1, k1, _, _, rfl, N2, own_ext K0_2, sz_b1, V_b1⟩
theorem own_d3_0 : decode jdk_42_method_149_code 0 = .ok (.aload_n 0, 1) := by decide +kernel
theorem own_d3_1 : decode jdk_42_method_149_code 1 = .ok (.invokespecial 1, 3) := by decide +kernel
theorem own_d3_4 : decode jdk_42_method_149_code 4 = .ok (.iload_n 3, 1) := by decide +kernel
theorem own_d3_5 : decode jdk_42_method_149_code 5 = .ok (.ifCond .ne 22, 3) := by decide +kernel
theorem own_d3_27 : decode jdk_42_method_149_code 27 = .ok (.getstatic 38, 3) := by decide +kernel
theorem own_d3_30 : decode jdk_42_method_149_code 30 = .ok (.ifCond .eq 28, 3) := by decide +kernel
theorem own_d3_33 : decode jdk_42_method_149_code 33 = .ok (.aload_n 1, 1) := by decide +kernel
theorem own_d3_34 : decode jdk_42_method_149_code 34 = .ok (.iload_n 2, 1) := by decide +kernel
theorem own_d3_35 : decode jdk_42_method_149_code 35 = .ok (.iload_n 3, 1) := by decide +kernel
theorem own_d3_36 : decode jdk_42_method_149_code 36 = .ok (.invokestatic 177, 3) := by decide +kernel
theorem own_d3_39 : decode jdk_42_method_149_code 39 = .ok (.astore 5, 2) := by decide +kernel
theorem own_d3_41 : decode jdk_42_method_149_code 41 = .ok (.aload_n 0, 1) := by decide +kernel
theorem own_d3_42 : decode jdk_42_method_149_code 42 = .ok (.aload 5, 2) := by decide +kernel
theorem own_d3_44 : decode jdk_42_method_149_code 44 = .ok (.iload_n 3, 1) := by decide +kernel
theorem own_d3_45 : decode jdk_42_method_149_code 45 = .ok (.invokestatic 47, 3) := by decide +kernel
theorem own_d3_48 : decode jdk_42_method_149_code 48 = .ok (.putfield 15, 3) := by decide +kernel
theorem own_d3_51 : decode jdk_42_method_149_code 51 = .ok (.aload_n 0, 1) := by decide +kernel
theorem own_d3_52 : decode jdk_42_method_149_code 52 = .ok (.aload 5, 2) := by decide +kernel
theorem own_d3_54 : decode jdk_42_method_149_code 54 = .ok (.putfield 9, 3) := by decide +kernel
theorem own_d3_57 : decode jdk_42_method_149_code 57 = .ok (.return_, 1) := by decide +kernel
theorem own_pn3 : plainFor (⟨"java/lang/String", "<init>", "([CIILjava/lang/Void;)V"⟩ : MethodName) = true := plainFor_of_name (show plainName "java/lang/String" = true by first | (simp [plainName, overriddenIn]; done) | decide +kernel)
theorem own_ef3n2 (m : MethodId) (a1 : Addr) (a2 : Addr) : entryFrame m #[(.ref a1), (.ref a2), (.int (0 : Int32)), (.int (2 : Int32)), .null] 6 = (mkF m 0 #[.val (.ref a1), .val (.ref a2), .val (.int (0 : Int32)), .val (.int (2 : Int32)), .val .null, .unset] []) := by first | (simp [entryFrame, mkF, argsToLocals, Value.category]; done) | rfl
set_option maxRecDepth 65536 in
set_option maxHeartbeats 40000000 in
theorem own_rm3n2 (l : Launch) (Z : State) (a0 : Array Value) (hw : ∀ d ∈ tables_1, d.before a0 Z = true) (h0 : Heap) (n0 : Nat) (Z0 : n0 ≤ h0.size) (a1 : Addr) (a2 : Addr) (O : Old Z n0 h0) (zc : Int32) (hzc : ¬ zc = 0) (S_CS : Sta Z Z.heap "java/lang/String" "COMPACT_STRINGS" "Z" (.int zc)) (E_a1 : Exa Z h0 a1 "java/lang/String") (g_a1 : n0 ≤ a1) (u_c : Value) (F_coder_a1 : Fld Z h0 a1 "java/lang/String" "coder" "B" u_c) (u_v : Value) (F_value_a1 : Fld Z h0 a1 "java/lang/String" "value" "[B" u_v) (x y : Int32) (hxx : ¬ (255 : Int32) < x) (hyy : ¬ (255 : Int32) < y) (kc : ClassId) (V_a2 : Arv Z h0 a2 kc .char 2 [.int x, .int y] (.int (0 : Int32))) (ne_a2_a1 : a2 ≠ a1) :
    own_C l Z (⟨"java/lang/String", "<init>", "([CIILjava/lang/Void;)V"⟩ : MethodName) jdk_42_method_149_code 6 none [] ({ frames := 2, cells := 1, slots := 2, locals := 60 } : Room) #[(.ref a1), (.ref a2), (.int (0 : Int32)), (.int (2 : Int32)), .null] h0 (own_qs Z a1 h0 n0) := by
  refine own_body own_pn3 (f0 := fun m => (mkF m 0 #[.val (.ref a1), .val (.ref a2), .val (.int (0 : Int32)), .val (.int (2 : Int32)), .val .null, .unset] [])) (fun m => own_ef3n2 m a1 a2) ?_
  intro p e s m below meth c s₁ hx hby hml hown hnm hret hlk hZ X0 e0
  change own_G p e below (own_F (own_qs Z a1 h0 n0) s 1 2) s₁ (mkF m 0 #[.val (.ref a1), .val (.ref a2), .val (.int (0 : Int32)), .val (.int (2 : Int32)), .val .null, .unset] [])
  have N0 := Fr.nil n0
  refine own_st (T' := s₁) (g' := (mkF m 1 #[.val (.ref a1), .val (.ref a2), .val (.int (0 : Int32)), .val (.int (2 : Int32)), .val .null, .unset] [(.ref a1)])) (fun t k => XS.aloadN X0.here hx rfl (hb hby own_d3_0) rfl rfl k) ?_
  obtain ⟨T1, X1, e1, st1⟩ := initO X0 hx hZ hown (hw _ (List.mem_of_getElem? (i := 19) rfl)) (hw _ (List.mem_of_getElem? (i := 20) rfl)) (hw _ (List.mem_of_getElem? (i := 21) rfl)) e0 (g := (mkF m 1 #[.val (.ref a1), .val (.ref a2), .val (.int (0 : Int32)), .val (.int (2 : Int32)), .val .null, .unset] [(.ref a1)])) rfl (by rw [hml]; rfl) rfl (hb hby own_d3_1) (by decide) (W := 0) (by show 2 * 0 + _ ≤ _; exact Nat.le_of_eq rfl) (by decide)
  refine own_st (T' := T1) (g' := (mkF m 4 #[.val (.ref a1), .val (.ref a2), .val (.int (0 : Int32)), .val (.int (2 : Int32)), .val .null, .unset] [])) st1 ?_
  refine own_st (T' := T1) (g' := (mkF m 5 #[.val (.ref a1), .val (.ref a2), .val (.int (0 : Int32)), .val (.int (2 : Int32)), .val .null, .unset] [(.int (2 : Int32))])) (fun t k => XS.iloadN X1.here hx rfl (hb hby own_d3_4) rfl k) ?_
  refine own_st (T' := T1) (g' := (mkF m 27 #[.val (.ref a1), .val (.ref a2), .val (.int (0 : Int32)), .val (.int (2 : Int32)), .val .null, .unset] [])) (fun t k => XS.ifYes X1.here hx rfl (pc0 := 5) (pc' := 27) rfl (hb hby own_d3_5) rfl ((if0 _ _).trans (feq (by decide)).2) (by decide) (by decide) k) ?_
  obtain ⟨T2, X2, e2, st2⟩ := getS2 X1 hx hZ hown (host := "") (Or.inl (hw _ (List.mem_of_getElem? (i := 22) rfl))) Via.refl e1 (S_CS.ext O.2) (g := (mkF m 27 #[.val (.ref a1), .val (.ref a2), .val (.int (0 : Int32)), .val (.int (2 : Int32)), .val .null, .unset] [])) rfl (hb hby own_d3_27)
  refine own_st (T' := T2) (g' := (mkF m 30 #[.val (.ref a1), .val (.ref a2), .val (.int (0 : Int32)), .val (.int (2 : Int32)), .val .null, .unset] [(.int zc)])) st2 ?_
  have hk3 : ¬ (zc = (0 : Int32)) := hzc
  refine own_st (T' := T2) (g' := (mkF m 33 #[.val (.ref a1), .val (.ref a2), .val (.int (0 : Int32)), .val (.int (2 : Int32)), .val .null, .unset] [])) (fun t k => XS.ifNo X2.here hx rfl (hb hby own_d3_30) rfl ((if0 _ _).trans (feq hk3).1) k) ?_
  refine own_st (T' := T2) (g' := (mkF m 34 #[.val (.ref a1), .val (.ref a2), .val (.int (0 : Int32)), .val (.int (2 : Int32)), .val .null, .unset] [(.ref a2)])) (fun t k => XS.aloadN X2.here hx rfl (hb hby own_d3_33) rfl rfl k) ?_
  refine own_st (T' := T2) (g' := (mkF m 35 #[.val (.ref a1), .val (.ref a2), .val (.int (0 : Int32)), .val (.int (2 : Int32)), .val .null, .unset] [(.int (0 : Int32)), (.ref a2)])) (fun t k => XS.iloadN X2.here hx rfl (hb hby own_d3_34) rfl k) ?_
  refine own_st (T' := T2) (g' := (mkF m 36 #[.val (.ref a1), .val (.ref a2), .val (.int (0 : Int32)), .val (.int (2 : Int32)), .val .null, .unset] [(.int (2 : Int32)), (.int (0 : Int32)), (.ref a2)])) (fun t k => XS.iloadN X2.here hx rfl (hb hby own_d3_35) rfl k) ?_
  have lt4_a1 := E_a1.lt
  have lt4_a2 := V_a2.lt
  obtain ⟨_, T4, L4, hQ4, X4, st4⟩ := own_callS (y := (⟨"java/lang/StringUTF16", "compress", "([CII)[B"⟩ : MethodName)) (argsL := [(.ref a2), (.int (0 : Int32)), (.int (2 : Int32))]) 0 [] (own_rm5 l Z a0 hw h0 n0 Z0 a2 x y hxx hyy kc V_a2) X2 hx hZ hown (hw _ (List.mem_of_getElem? (i := 23) rfl)) (hw _ (List.mem_of_getElem? (i := 24) rfl)) (hw _ (List.mem_of_getElem? (i := 25) rfl)) (hw _ (List.mem_of_getElem? (i := 26) rfl)) (by decide) (by decide) (by decide) (by decide) (by decide) e2 (g := (mkF m 36 #[.val (.ref a1), .val (.ref a2), .val (.int (0 : Int32)), .val (.int (2 : Int32)), .val .null, .unset] [(.int (2 : Int32)), (.int (0 : Int32)), (.ref a2)])) rfl (by rw [hml]; rfl) (lenOf own_pd1 rfl) rfl (by show 2 * 0 + _ ≤ _; exact Nat.le_of_eq rfl) (hb hby own_d3_36)
  obtain ⟨o4, k4, x4a, x4b, rfl, N4q, Eq4, sz_o4, V_o4⟩ := hQ4
  have K0_4 := (Keep.refl h0 [a1]).ext Eq4
  have Z4 : n0 ≤ T4.heap.size := Nat.le_trans Z0 Eq4.1
  have O := O.ext Eq4
  have E_a1 := E_a1.ext Eq4
  have F_coder_a1 := F_coder_a1.ext Eq4
  have F_value_a1 := F_value_a1.ext Eq4
  have V_a2 := V_a2.ext Eq4
  have N4 := Fr.app N0 N4q
  generalize hlc4 : ([] ++ L4 : List Loc) = lc4 at X4 N4
  have X4 : Stand p l e ({ frames := 2, cells := 1, slots := 2, locals := 60 } : Room) s m #[(.ref a1), (.ref a2), (.int (0 : Int32)), (.int (2 : Int32)), .null] below meth c T4 lc4 1 2 := X4
  have g_o4 : n0 ≤ o4 := Nat.le_trans Z0 sz_o4
  have ne_a1_o4 : a1 ≠ o4 := Nat.ne_of_lt (Nat.lt_of_lt_of_le lt4_a1 sz_o4)
  have ne_a2_o4 : a2 ≠ o4 := Nat.ne_of_lt (Nat.lt_of_lt_of_le lt4_a2 sz_o4)
  have sz_o4 := Nat.le_trans (Keep.refl h0 [a1]).1 sz_o4
  refine own_st (T' := T4) (g' := (mkF m 39 #[.val (.ref a1), .val (.ref a2), .val (.int (0 : Int32)), .val (.int (2 : Int32)), .val .null, .unset] [(.ref o4)])) st4 ?_
  refine own_st (T' := T4) (g' := (mkF m 41 #[.val (.ref a1), .val (.ref a2), .val (.int (0 : Int32)), .val (.int (2 : Int32)), .val .null, .val (.ref o4)] [])) (fun t k => XS.astore X4.here hx rfl (hb hby own_d3_39) rfl rfl (l' := #[.val (.ref a1), .val (.ref a2), .val (.int (0 : Int32)), .val (.int (2 : Int32)), .val .null, .val (.ref o4)]) rfl k) ?_
  refine own_st (T' := T4) (g' := (mkF m 42 #[.val (.ref a1), .val (.ref a2), .val (.int (0 : Int32)), .val (.int (2 : Int32)), .val .null, .val (.ref o4)] [(.ref a1)])) (fun t k => XS.aloadN X4.here hx rfl (hb hby own_d3_41) rfl rfl k) ?_
  refine own_st (T' := T4) (g' := (mkF m 44 #[.val (.ref a1), .val (.ref a2), .val (.int (0 : Int32)), .val (.int (2 : Int32)), .val .null, .val (.ref o4)] [(.ref o4), (.ref a1)])) (fun t k => XS.aload X4.here hx rfl (hb hby own_d3_42) rfl rfl k) ?_
  refine own_st (T' := T4) (g' := (mkF m 45 #[.val (.ref a1), .val (.ref a2), .val (.int (0 : Int32)), .val (.int (2 : Int32)), .val .null, .val (.ref o4)] [(.int (2 : Int32)), (.ref o4), (.ref a1)])) (fun t k => XS.iloadN X4.here hx rfl (hb hby own_d3_44) rfl k) ?_
  obtain ⟨_, T5, L5, hQ5, X5, st5⟩ := own_callS (y := (⟨"java/lang/StringUTF16", "coderFromArrayLen", "([BI)B"⟩ : MethodName)) (argsL := [(.ref o4), (.int (2 : Int32))]) 1 [(.ref a1)] (own_rm7 l Z a0 hw T4.heap n0 Z4 o4 k4 x4a x4b V_o4) X4 hx hZ hown (hw _ (List.mem_of_getElem? (i := 31) rfl)) (hw _ (List.mem_of_getElem? (i := 32) rfl)) (hw _ (List.mem_of_getElem? (i := 25) rfl)) (hw _ (List.mem_of_getElem? (i := 33) rfl)) (by decide) (by decide) (by decide) (by decide) (by decide) rfl (g := (mkF m 45 #[.val (.ref a1), .val (.ref a2), .val (.int (0 : Int32)), .val (.int (2 : Int32)), .val .null, .val (.ref o4)] [(.int (2 : Int32)), (.ref o4), (.ref a1)])) rfl (by rw [hml]; rfl) (lenOf own_pd2 rfl) rfl (by show 2 * 0 + _ ≤ _; exact Nat.le_of_eq rfl) (hb hby own_d3_45)
  obtain ⟨rfl, e5, rfl⟩ := hQ5
  have X5 : Stand p l e ({ frames := 2, cells := 1, slots := 2, locals := 60 } : Room) s m #[(.ref a1), (.ref a2), (.int (0 : Int32)), (.int (2 : Int32)), .null] below meth c T5 lc4 1 2 := by have := X5; rwa [List.append_nil] at this
  refine own_st (T' := T5) (g' := (mkF m 48 #[.val (.ref a1), .val (.ref a2), .val (.int (0 : Int32)), .val (.int (2 : Int32)), .val .null, .val (.ref o4)] [(.int (0 : Int32)), (.ref a1)])) st5 ?_
  obtain ⟨T6, h6, X6, e6, W6, st6⟩ := putFN X5 hx hZ hown (hw _ (List.mem_of_getElem? (i := 34) rfl)) Via.refl e5 F_coder_a1 E_a1 (Or.inr ⟨(hw _ (List.mem_of_getElem? (i := 35) rfl)), rfl, hnm⟩) (hw _ (List.mem_of_getElem? (i := 10) rfl)) (ty := .byte) (v' := (.int (nar .byte (0 : Int32)))) (by decide) rfl (fits_nar_byte _) (g := (mkF m 48 #[.val (.ref a1), .val (.ref a2), .val (.int (0 : Int32)), .val (.int (2 : Int32)), .val .null, .val (.ref o4)] [(.int (0 : Int32)), (.ref a1)])) rfl rfl (hb hby own_d3_48)
  have O := O.wr W6 g_a1
  have E_a1 := E_a1.wr W6
  have F_coder_a1 := F_coder_a1.same W6
  have F_value_a1 := F_value_a1.other W6 (Or.inr (slot_ne (Or.inr (hw _ (List.mem_of_getElem? (i := 37) rfl))) (Or.inr (hw _ (List.mem_of_getElem? (i := 35) rfl))) (by decide) (t := (.array .byte)) (t' := .byte) (by decide) (by decide)))
  have V_a2 := V_a2.other W6 ne_a2_a1
  have V_o4 := V_o4.other W6 (Ne.symm ne_a1_o4)
  have K0_6 := K0_4.wr W6 (Or.inl (List.mem_of_getElem? (i := 0) rfl))
  have N6 := Fr.snoc X6 N4 g_a1
  generalize hlc6 : (lc4 ++ [(⟨a1, Jvm.RoadKit.slotOf Z "java/lang/String" "coder" "B"⟩ : Loc)] : List Loc) = lc6 at X6 N6
  have Z6 : n0 ≤ h6.size := Nat.le_trans Z4 (Keep.of_wr W6).1
  refine own_st (T' := T6) (g' := (mkF m 51 #[.val (.ref a1), .val (.ref a2), .val (.int (0 : Int32)), .val (.int (2 : Int32)), .val .null, .val (.ref o4)] [])) st6 ?_
  refine own_st (T' := T6) (g' := (mkF m 52 #[.val (.ref a1), .val (.ref a2), .val (.int (0 : Int32)), .val (.int (2 : Int32)), .val .null, .val (.ref o4)] [(.ref a1)])) (fun t k => XS.aloadN X6.here hx rfl (hb hby own_d3_51) rfl rfl k) ?_
  refine own_st (T' := T6) (g' := (mkF m 54 #[.val (.ref a1), .val (.ref a2), .val (.int (0 : Int32)), .val (.int (2 : Int32)), .val .null, .val (.ref o4)] [(.ref o4), (.ref a1)])) (fun t k => XS.aload X6.here hx rfl (hb hby own_d3_52) rfl rfl k) ?_
  obtain ⟨T7, h7, X7, e7, W7, st7⟩ := putF X6 hx hZ hown (host := "") (Or.inl (hw _ (List.mem_of_getElem? (i := 36) rfl))) Via.refl e6 F_value_a1 E_a1 (Or.inr ⟨(hw _ (List.mem_of_getElem? (i := 37) rfl)), rfl, hnm⟩) (hw _ (List.mem_of_getElem? (i := 10) rfl)) (ty := (.array .byte)) (by decide) rfl rfl (g := (mkF m 54 #[.val (.ref a1), .val (.ref a2), .val (.int (0 : Int32)), .val (.int (2 : Int32)), .val .null, .val (.ref o4)] [(.ref o4), (.ref a1)])) rfl rfl (hb hby own_d3_54)
  have O := O.wr W7 g_a1
  have E_a1 := E_a1.wr W7
  have F_coder_a1 := F_coder_a1.other W7 (Or.inr (slot_ne (Or.inr (hw _ (List.mem_of_getElem? (i := 35) rfl))) (Or.inr (hw _ (List.mem_of_getElem? (i := 37) rfl))) (by decide) (t := .byte) (t' := (.array .byte)) (by decide) (by decide)))
  have F_value_a1 := F_value_a1.same W7
  have V_a2 := V_a2.other W7 ne_a2_a1
  have V_o4 := V_o4.other W7 (Ne.symm ne_a1_o4)
  have K0_7 := K0_6.wr W7 (Or.inl (List.mem_of_getElem? (i := 0) rfl))
  have N7 := Fr.snoc X7 N6 g_a1
  generalize hlc7 : (lc6 ++ [(⟨a1, Jvm.RoadKit.slotOf Z "java/lang/String" "value" "[B"⟩ : Loc)] : List Loc) = lc7 at X7 N7
  have Z7 : n0 ≤ h7.size := Nat.le_trans Z6 (Keep.of_wr W7).1
  refine own_st (T' := T7) (g' := (mkF m 57 #[.val (.ref a1), .val (.ref a2), .val (.int (0 : Int32)), .val (.int (2 : Int32)), .val .null, .val (.ref o4)] [])) st7 ?_
  exact own_retV X7 hx hlk hret (hb hby own_d3_57) (by decide) (by decide) (by rw [e7]; exact ⟨rfl, N7, K0_7, E_a1⟩)
theorem own_d3_8 : decode jdk_42_method_149_code 8 = .ok (.aload_n 0, 1) := by decide +kernel
theorem own_d3_9 : decode jdk_42_method_149_code 9 = .ok (.ldc 7, 2) := by decide +kernel
theorem own_d3_11 : decode jdk_42_method_149_code 11 = .ok (.getfield 9, 3) := by decide +kernel
theorem own_d3_14 : decode jdk_42_method_149_code 14 = .ok (.putfield 9, 3) := by decide +kernel
theorem own_d3_17 : decode jdk_42_method_149_code 17 = .ok (.aload_n 0, 1) := by decide +kernel
theorem own_d3_18 : decode jdk_42_method_149_code 18 = .ok (.ldc 7, 2) := by decide +kernel
theorem own_d3_20 : decode jdk_42_method_149_code 20 = .ok (.getfield 15, 3) := by decide +kernel
theorem own_d3_23 : decode jdk_42_method_149_code 23 = .ok (.putfield 15, 3) := by decide +kernel
theorem own_d3_26 : decode jdk_42_method_149_code 26 = .ok (.return_, 1) := by decide +kernel
theorem own_ef3n0 (m : MethodId) (a1 : Addr) (a2 : Addr) : entryFrame m #[(.ref a1), (.ref a2), (.int (0 : Int32)), (.int (0 : Int32)), .null] 6 = (mkF m 0 #[.val (.ref a1), .val (.ref a2), .val (.int (0 : Int32)), .val (.int (0 : Int32)), .val .null, .unset] []) := by first | (simp [entryFrame, mkF, argsToLocals, Value.category]; done) | rfl
set_option maxRecDepth 65536 in
set_option maxHeartbeats 40000000 in
theorem own_rm3n0 (l : Launch) (Z : State) (a0 : Array Value) (hw : ∀ d ∈ tables_1, d.before a0 Z = true) (h0 : Heap) (n0 : Nat) (Z0 : n0 ≤ h0.size) (a1 : Addr) (a2 : Addr) (E_a1 : Exa Z h0 a1 "java/lang/String") (g_a1 : n0 ≤ a1) (u_c : Value) (F_coder_a1 : Fld Z h0 a1 "java/lang/String" "coder" "B" u_c) (F_value_a1 : Fld Z h0 a1 "java/lang/String" "value" "[B" .null) :
    own_CH l Z consts_1 (⟨"java/lang/String", "<init>", "([CIILjava/lang/Void;)V"⟩ : MethodName) jdk_42_method_149_code 6 none ({ frames := 1, cells := 4, slots := 8, locals := 16 } : Room) #[(.ref a1), (.ref a2), (.int (0 : Int32)), (.int (0 : Int32)), .null] h0 (own_qs Z a1 h0 n0) := by
  refine own_bodyH own_pn3 (f0 := fun m => (mkF m 0 #[.val (.ref a1), .val (.ref a2), .val (.int (0 : Int32)), .val (.int (0 : Int32)), .val .null, .unset] [])) (fun m => own_ef3n0 m a1 a2) ?_
  intro p e s m below meth c s₁ hx hby hml hown hnm hret hlk hZ X0 e0 hS hC
  change own_G p e below (own_FH Z consts_1 h0 (own_qs Z a1 h0 n0) s 4 8) s₁ (mkF m 0 #[.val (.ref a1), .val (.ref a2), .val (.int (0 : Int32)), .val (.int (0 : Int32)), .val .null, .unset] [])
  have hkS : 0 ≤ h0.size := Nat.zero_le _
  have N0 := Fr.nil n0
  have hSf : Safe Z consts_1 s.vm h0 a1 := own_safeN hZ.alike E_a1 F_value_a1
  refine own_st (T' := s₁) (g' := (mkF m 1 #[.val (.ref a1), .val (.ref a2), .val (.int (0 : Int32)), .val (.int (0 : Int32)), .val .null, .unset] [(.ref a1)])) (fun t k => XS.aloadN X0.here hx rfl (hb hby own_d3_0) rfl rfl k) ?_
  obtain ⟨T1, X1, e1, st1⟩ := initO X0 hx hZ hown (hw _ (List.mem_of_getElem? (i := 19) rfl)) (hw _ (List.mem_of_getElem? (i := 20) rfl)) (hw _ (List.mem_of_getElem? (i := 21) rfl)) e0 (g := (mkF m 1 #[.val (.ref a1), .val (.ref a2), .val (.int (0 : Int32)), .val (.int (0 : Int32)), .val .null, .unset] [(.ref a1)])) rfl (by rw [hml]; rfl) rfl (hb hby own_d3_1) (by decide) (W := 0) (by show 2 * 0 + _ ≤ _; exact Nat.le_of_eq rfl) (by decide)
  refine own_st (T' := T1) (g' := (mkF m 4 #[.val (.ref a1), .val (.ref a2), .val (.int (0 : Int32)), .val (.int (0 : Int32)), .val .null, .unset] [])) st1 ?_
  refine own_st (T' := T1) (g' := (mkF m 5 #[.val (.ref a1), .val (.ref a2), .val (.int (0 : Int32)), .val (.int (0 : Int32)), .val .null, .unset] [(.int (0 : Int32))])) (fun t k => XS.iloadN X1.here hx rfl (hb hby own_d3_4) rfl k) ?_
  refine own_st (T' := T1) (g' := (mkF m 8 #[.val (.ref a1), .val (.ref a2), .val (.int (0 : Int32)), .val (.int (0 : Int32)), .val .null, .unset] [])) (fun t k => XS.ifNo X1.here hx rfl (hb hby own_d3_5) rfl ((if0 _ _).trans (teq (by decide)).2) k) ?_
  refine own_st (T' := T1) (g' := (mkF m 9 #[.val (.ref a1), .val (.ref a2), .val (.int (0 : Int32)), .val (.int (0 : Int32)), .val .null, .unset] [(.ref a1)])) (fun t k => XS.aloadN X1.here hx rfl (hb hby own_d3_8) rfl rfl k) ?_
  have ltS2 := E_a1.lt
  obtain ⟨sa2, T2, h2, k2, y2, ky2, X2, e2, E2, hS, hkN2, hZ, hown, E_sa2, F_coder_sa2, F_value_sa2, -, -, -, hCn2, -, hne2, st2⟩ := ldcCH X1 hx hZ hown (hw _ (List.mem_of_getElem? (i := 129) rfl)) (own_wS hw) e1 hS hkS (own_EL hw) (List.mem_of_getElem? (i := 0) rfl) hC.1 (vs := []) (z := 0) ⟨by decide, rfl⟩ (by decide) rfl (g := (mkF m 9 #[.val (.ref a1), .val (.ref a2), .val (.int (0 : Int32)), .val (.int (0 : Int32)), .val .null, .unset] [(.ref a1)])) rfl (hb hby own_d3_9) (n := 0) (by decide) (by decide) (by decide) (by decide)
  have hSf := hCn2.safe ltS2 hSf
  have hC := hC.trans hCn2
  have ne_sa2_a1 : sa2 ≠ a1 := Ne.symm (hne2 a1 hSf).1
  have K0_2 := (Keep.refl h0 [a1]).ext E2
  have Z2 : n0 ≤ h2.size := Nat.le_trans Z0 E2.1
  have hkS := Nat.le_trans hkS E2.1
  have E_a1 := E_a1.ext E2
  have F_coder_a1 := F_coder_a1.ext E2
  have F_value_a1 := F_value_a1.ext E2
  have hkS := hkN2
  have X2 : Stand p l e ({ frames := 1, cells := 4, slots := 8, locals := 16 } : Room) (s.setVm T2.vm) m #[(.ref a1), (.ref a2), (.int (0 : Int32)), (.int (0 : Int32)), .null] below meth c T2 [] 2 4 := X2
  refine own_st (T' := T2) (g' := (mkF m 11 #[.val (.ref a1), .val (.ref a2), .val (.int (0 : Int32)), .val (.int (0 : Int32)), .val .null, .unset] [(.ref sa2), (.ref a1)])) st2 ?_
  obtain ⟨T3, X3, e3, st3⟩ := getF X2 hx hZ hown (host := "") (Or.inl (hw _ (List.mem_of_getElem? (i := 36) rfl))) Via.refl e2 F_value_sa2 (g := (mkF m 11 #[.val (.ref a1), .val (.ref a2), .val (.int (0 : Int32)), .val (.int (0 : Int32)), .val .null, .unset] [(.ref sa2), (.ref a1)])) rfl rfl (hb hby own_d3_11)
  refine own_st (T' := T3) (g' := (mkF m 14 #[.val (.ref a1), .val (.ref a2), .val (.int (0 : Int32)), .val (.int (0 : Int32)), .val .null, .unset] [(.ref y2), (.ref a1)])) st3 ?_
  obtain ⟨T4, h4, X4, e4, W4, st4⟩ := putF X3 hx hZ hown (host := "") (Or.inl (hw _ (List.mem_of_getElem? (i := 36) rfl))) Via.refl e3 F_value_a1 E_a1 (Or.inr ⟨(hw _ (List.mem_of_getElem? (i := 37) rfl)), rfl, hnm⟩) (hw _ (List.mem_of_getElem? (i := 10) rfl)) (ty := (.array .byte)) (by decide) rfl rfl (g := (mkF m 14 #[.val (.ref a1), .val (.ref a2), .val (.int (0 : Int32)), .val (.int (0 : Int32)), .val .null, .unset] [(.ref y2), (.ref a1)])) rfl rfl (hb hby own_d3_14)
  have hCw := hC.trans (CHr.wr W4 hSf hC.1)
  have hSf := Safe.wr W4 hSf hC.1 hSf
  have hC := hCw
  have hkS := Nat.le_trans hkS (Keep.of_wr W4).1
  have E_a1 := E_a1.wr W4
  have F_coder_a1 := F_coder_a1.other W4 (Or.inr (slot_ne (Or.inr (hw _ (List.mem_of_getElem? (i := 35) rfl))) (Or.inr (hw _ (List.mem_of_getElem? (i := 37) rfl))) (by decide) (t := .byte) (t' := (.array .byte)) (by decide) (by decide)))
  have F_value_a1 := F_value_a1.same W4
  have F_coder_sa2 := F_coder_sa2.other W4 (Or.inl ne_sa2_a1)
  have F_value_sa2 := F_value_sa2.other W4 (Or.inl ne_sa2_a1)
  have K0_4 := K0_2.wr W4 (Or.inl (List.mem_of_getElem? (i := 0) rfl))
  have N4 := Fr.snoc X4 N0 g_a1
  generalize hlc4 : ([] ++ [(⟨a1, Jvm.RoadKit.slotOf Z "java/lang/String" "value" "[B"⟩ : Loc)] : List Loc) = lc4 at X4 N4
  have Z4 : n0 ≤ h4.size := Nat.le_trans Z2 (Keep.of_wr W4).1
  refine own_st (T' := T4) (g' := (mkF m 17 #[.val (.ref a1), .val (.ref a2), .val (.int (0 : Int32)), .val (.int (0 : Int32)), .val .null, .unset] [])) st4 ?_
  refine own_st (T' := T4) (g' := (mkF m 18 #[.val (.ref a1), .val (.ref a2), .val (.int (0 : Int32)), .val (.int (0 : Int32)), .val .null, .unset] [(.ref a1)])) (fun t k => XS.aloadN X4.here hx rfl (hb hby own_d3_17) rfl rfl k) ?_
  have ltS5 := E_a1.lt
  obtain ⟨sa5, T5, h5, k5, y5, ky5, X5, e5, E5, hS, hkN5, hZ, hown, E_sa5, F_coder_sa5, F_value_sa5, -, -, -, hCn5, -, hne5, st5⟩ := ldcCH X4 hx hZ hown (hw _ (List.mem_of_getElem? (i := 129) rfl)) (own_wS hw) e4 hS hkS (own_EL hw) (List.mem_of_getElem? (i := 0) rfl) hC.1 (vs := []) (z := 0) ⟨by decide, rfl⟩ (by decide) rfl (g := (mkF m 18 #[.val (.ref a1), .val (.ref a2), .val (.int (0 : Int32)), .val (.int (0 : Int32)), .val .null, .unset] [(.ref a1)])) rfl (hb hby own_d3_18) (n := 0) (by decide) (by decide) (by decide) (by decide)
  have hSf := hCn5.safe ltS5 hSf
  have hC := hC.trans hCn5
  have ne_sa5_a1 : sa5 ≠ a1 := Ne.symm (hne5 a1 hSf).1
  have K0_5 := K0_4.ext E5
  have Z5 : n0 ≤ h5.size := Nat.le_trans Z4 E5.1
  have hkS := Nat.le_trans hkS E5.1
  have E_a1 := E_a1.ext E5
  have F_coder_a1 := F_coder_a1.ext E5
  have F_value_a1 := F_value_a1.ext E5
  have F_coder_sa2 := F_coder_sa2.ext E5
  have F_value_sa2 := F_value_sa2.ext E5
  have hkS := hkN5
  have X5 : Stand p l e ({ frames := 1, cells := 4, slots := 8, locals := 16 } : Room) (s.setVm T5.vm) m #[(.ref a1), (.ref a2), (.int (0 : Int32)), (.int (0 : Int32)), .null] below meth c T5 lc4 4 8 := X5
  refine own_st (T' := T5) (g' := (mkF m 20 #[.val (.ref a1), .val (.ref a2), .val (.int (0 : Int32)), .val (.int (0 : Int32)), .val .null, .unset] [(.ref sa5), (.ref a1)])) st5 ?_
  obtain ⟨T6, X6, e6, st6⟩ := getF X5 hx hZ hown (host := "") (Or.inl (hw _ (List.mem_of_getElem? (i := 34) rfl))) Via.refl e5 F_coder_sa5 (g := (mkF m 20 #[.val (.ref a1), .val (.ref a2), .val (.int (0 : Int32)), .val (.int (0 : Int32)), .val .null, .unset] [(.ref sa5), (.ref a1)])) rfl rfl (hb hby own_d3_20)
  refine own_st (T' := T6) (g' := (mkF m 23 #[.val (.ref a1), .val (.ref a2), .val (.int (0 : Int32)), .val (.int (0 : Int32)), .val .null, .unset] [(.int (0 : Int32)), (.ref a1)])) st6 ?_
  obtain ⟨T7, h7, X7, e7, W7, st7⟩ := putFN X6 hx hZ hown (hw _ (List.mem_of_getElem? (i := 34) rfl)) Via.refl e6 F_coder_a1 E_a1 (Or.inr ⟨(hw _ (List.mem_of_getElem? (i := 35) rfl)), rfl, hnm⟩) (hw _ (List.mem_of_getElem? (i := 10) rfl)) (ty := .byte) (v' := (.int (nar .byte (0 : Int32)))) (by decide) rfl (fits_nar_byte _) (g := (mkF m 23 #[.val (.ref a1), .val (.ref a2), .val (.int (0 : Int32)), .val (.int (0 : Int32)), .val .null, .unset] [(.int (0 : Int32)), (.ref a1)])) rfl rfl (hb hby own_d3_23)
  have hCw := hC.trans (CHr.wr W7 hSf hC.1)
  have hSf := Safe.wr W7 hSf hC.1 hSf
  have hC := hCw
  have hkS := Nat.le_trans hkS (Keep.of_wr W7).1
  have E_a1 := E_a1.wr W7
  have F_coder_a1 := F_coder_a1.same W7
  have F_value_a1 := F_value_a1.other W7 (Or.inr (slot_ne (Or.inr (hw _ (List.mem_of_getElem? (i := 37) rfl))) (Or.inr (hw _ (List.mem_of_getElem? (i := 35) rfl))) (by decide) (t := (.array .byte)) (t' := .byte) (by decide) (by decide)))
  have F_coder_sa2 := F_coder_sa2.other W7 (Or.inl ne_sa2_a1)
  have F_value_sa2 := F_value_sa2.other W7 (Or.inl ne_sa2_a1)
  have F_coder_sa5 := F_coder_sa5.other W7 (Or.inl ne_sa5_a1)
  have F_value_sa5 := F_value_sa5.other W7 (Or.inl ne_sa5_a1)
  have K0_7 := K0_5.wr W7 (Or.inl (List.mem_of_getElem? (i := 0) rfl))
  have N7 := Fr.snoc X7 N4 g_a1
  generalize hlc7 : (lc4 ++ [(⟨a1, Jvm.RoadKit.slotOf Z "java/lang/String" "coder" "B"⟩ : Loc)] : List Loc) = lc7 at X7 N7
  have Z7 : n0 ≤ h7.size := Nat.le_trans Z5 (Keep.of_wr W7).1
  refine own_st (T' := T7) (g' := (mkF m 26 #[.val (.ref a1), .val (.ref a2), .val (.int (0 : Int32)), .val (.int (0 : Int32)), .val .null, .unset] [])) st7 ?_
  exact own_retVH X7 hS (by rw [e7]; exact hkS) hx hZ (own_EL hw) (by rw [e7]; exact hC) hlk hret (hb hby own_d3_26) (by decide) (by decide) (by rw [e7]; exact ⟨rfl, N7, K0_7, E_a1⟩)
theorem own_d2_0 : decode jdk_42_method_3_code 0 = .ok (.aload_n 0, 1) := by decide +kernel
theorem own_d2_1 : decode jdk_42_method_3_code 1 = .ok (.aload_n 1, 1) := by decide +kernel
theorem own_d2_2 : decode jdk_42_method_3_code 2 = .ok (.iconst 0, 1) := by decide +kernel
theorem own_d2_3 : decode jdk_42_method_3_code 3 = .ok (.aload_n 1, 1) := by decide +kernel
theorem own_d2_4 : decode jdk_42_method_3_code 4 = .ok (.arraylength, 1) := by decide +kernel
theorem own_d2_5 : decode jdk_42_method_3_code 5 = .ok (.aconst_null, 1) := by decide +kernel
theorem own_d2_6 : decode jdk_42_method_3_code 6 = .ok (.invokespecial 27, 3) := by decide +kernel
theorem own_d2_9 : decode jdk_42_method_3_code 9 = .ok (.return_, 1) := by decide +kernel
theorem own_pn2 : plainFor (⟨"java/lang/String", "<init>", "([C)V"⟩ : MethodName) = true := plainFor_of_name (show plainName "java/lang/String" = true by first | (simp [plainName, overriddenIn]; done) | decide +kernel)
theorem own_ef2n2 (m : MethodId) (a1 : Addr) (a2 : Addr) : entryFrame m #[(.ref a1), (.ref a2)] 2 = (mkF m 0 #[.val (.ref a1), .val (.ref a2)] []) := by first | (simp [entryFrame, mkF, argsToLocals, Value.category]; done) | rfl
set_option maxRecDepth 65536 in
set_option maxHeartbeats 40000000 in
theorem own_rm2n2 (l : Launch) (Z : State) (a0 : Array Value) (hw : ∀ d ∈ tables_1, d.before a0 Z = true) (h0 : Heap) (n0 : Nat) (Z0 : n0 ≤ h0.size) (a1 : Addr) (a2 : Addr) (O : Old Z n0 h0) (zc : Int32) (hzc : ¬ zc = 0) (S_CS : Sta Z Z.heap "java/lang/String" "COMPACT_STRINGS" "Z" (.int zc)) (E_a1 : Exa Z h0 a1 "java/lang/String") (g_a1 : n0 ≤ a1) (u_c : Value) (F_coder_a1 : Fld Z h0 a1 "java/lang/String" "coder" "B" u_c) (u_v : Value) (F_value_a1 : Fld Z h0 a1 "java/lang/String" "value" "[B" u_v) (x y : Int32) (hxx : ¬ (255 : Int32) < x) (hyy : ¬ (255 : Int32) < y) (kc : ClassId) (V_a2 : Arv Z h0 a2 kc .char 2 [.int x, .int y] (.int (0 : Int32))) (ne_a2_a1 : a2 ≠ a1) :
    own_C l Z (⟨"java/lang/String", "<init>", "([C)V"⟩ : MethodName) jdk_42_method_3_code 2 none [] ({ frames := 3, cells := 1, slots := 2, locals := 90 } : Room) #[(.ref a1), (.ref a2)] h0 (own_qs Z a1 h0 n0) := by
  refine own_body own_pn2 (f0 := fun m => (mkF m 0 #[.val (.ref a1), .val (.ref a2)] [])) (fun m => own_ef2n2 m a1 a2) ?_
  intro p e s m below meth c s₁ hx hby hml hown hnm hret hlk hZ X0 e0
  change own_G p e below (own_F (own_qs Z a1 h0 n0) s 1 2) s₁ (mkF m 0 #[.val (.ref a1), .val (.ref a2)] [])
  have N0 := Fr.nil n0
  refine own_st (T' := s₁) (g' := (mkF m 1 #[.val (.ref a1), .val (.ref a2)] [(.ref a1)])) (fun t k => XS.aloadN X0.here hx rfl (hb hby own_d2_0) rfl rfl k) ?_
  refine own_st (T' := s₁) (g' := (mkF m 2 #[.val (.ref a1), .val (.ref a2)] [(.ref a2), (.ref a1)])) (fun t k => XS.aloadN X0.here hx rfl (hb hby own_d2_1) rfl rfl k) ?_
  refine own_st (T' := s₁) (g' := (mkF m 3 #[.val (.ref a1), .val (.ref a2)] [(.int (0 : Int32)), (.ref a2), (.ref a1)])) (fun t k => XS.iconst X0.here hx rfl (hb hby own_d2_2) k) ?_
  refine own_st (T' := s₁) (g' := (mkF m 4 #[.val (.ref a1), .val (.ref a2)] [(.ref a2), (.int (0 : Int32)), (.ref a2), (.ref a1)])) (fun t k => XS.aloadN X0.here hx rfl (hb hby own_d2_3) rfl rfl k) ?_
  refine own_st (T' := s₁) (g' := (mkF m 5 #[.val (.ref a1), .val (.ref a2)] [(.int (2 : Int32)), (.int (0 : Int32)), (.ref a2), (.ref a1)])) (own_alen V_a2 X0 hx hZ e0 (g := (mkF m 4 #[.val (.ref a1), .val (.ref a2)] [(.ref a2), (.int (0 : Int32)), (.ref a2), (.ref a1)])) rfl rfl (hb hby own_d2_4)) ?_
  refine own_st (T' := s₁) (g' := (mkF m 6 #[.val (.ref a1), .val (.ref a2)] [.null, (.int (2 : Int32)), (.int (0 : Int32)), (.ref a2), (.ref a1)])) (fun t k => XS.aconstNull X0.here hx rfl (hb hby own_d2_5) k) ?_
  obtain ⟨_, T1, L1, hQ1, X1, st1⟩ := own_callI (y := (⟨"java/lang/String", "<init>", "([CIILjava/lang/Void;)V"⟩ : MethodName)) (argsL := [(.ref a2), (.int (0 : Int32)), (.int (2 : Int32)), .null]) 0 [] (own_rm3n2 l Z a0 hw h0 n0 Z0 a1 a2 O zc hzc S_CS E_a1 g_a1 _ F_coder_a1 _ F_value_a1 x y hxx hyy kc V_a2 ne_a2_a1) X0 hx hZ hown rfl (hw _ (List.mem_of_getElem? (i := 15) rfl)) (hw _ (List.mem_of_getElem? (i := 16) rfl)) (hw _ (List.mem_of_getElem? (i := 18) rfl)) (hw _ (List.mem_of_getElem? (i := 11) rfl)) (by decide) (by decide) (by decide) (by decide) (by decide) e0 (g := (mkF m 6 #[.val (.ref a1), .val (.ref a2)] [.null, (.int (2 : Int32)), (.int (0 : Int32)), (.ref a2), (.ref a1)])) rfl (by rw [hml]; rfl) (lenOf own_pd3 rfl) rfl (by show 2 * 0 + _ ≤ _; exact Nat.le_of_eq rfl) (hb hby own_d2_6)
  obtain ⟨rfl, N1q, Kq1, E_a1⟩ := hQ1
  have K0_1 := (Keep.refl h0 [a1]).trans Kq1 (allS (Or.inl (List.mem_of_getElem? (i := 0) rfl)) all0)
  have Z1 : n0 ≤ T1.heap.size := Nat.le_trans Z0 Kq1.1
  have O := O.keep Kq1 (allS g_a1 all0)
  have V_a2 := V_a2.keep Kq1 (ninS ne_a2_a1 nin0)
  have N1 := Fr.app N0 N1q
  generalize hlc1 : ([] ++ L1 : List Loc) = lc1 at X1 N1
  have X1 : Stand p l e ({ frames := 3, cells := 1, slots := 2, locals := 90 } : Room) s m #[(.ref a1), (.ref a2)] below meth c T1 lc1 1 2 := X1
  refine own_st (T' := T1) (g' := (mkF m 9 #[.val (.ref a1), .val (.ref a2)] [])) st1 ?_
  exact own_retV X1 hx hlk hret (hb hby own_d2_9) (by decide) (by decide) ⟨rfl, N1, K0_1, E_a1⟩
theorem own_ef2n0 (m : MethodId) (a1 : Addr) (a2 : Addr) : entryFrame m #[(.ref a1), (.ref a2)] 2 = (mkF m 0 #[.val (.ref a1), .val (.ref a2)] []) := by first | (simp [entryFrame, mkF, argsToLocals, Value.category]; done) | rfl
set_option maxRecDepth 65536 in
set_option maxHeartbeats 40000000 in
theorem own_rm2n0 (l : Launch) (Z : State) (a0 : Array Value) (hw : ∀ d ∈ tables_1, d.before a0 Z = true) (h0 : Heap) (n0 : Nat) (Z0 : n0 ≤ h0.size) (a1 : Addr) (a2 : Addr) (E_a1 : Exa Z h0 a1 "java/lang/String") (g_a1 : n0 ≤ a1) (u_c : Value) (F_coder_a1 : Fld Z h0 a1 "java/lang/String" "coder" "B" u_c) (F_value_a1 : Fld Z h0 a1 "java/lang/String" "value" "[B" .null) (kc : ClassId) (V_a2 : Arv Z h0 a2 kc .char 0 [] (.int (0 : Int32))) (ne_a2_a1 : a2 ≠ a1) :
    own_CH l Z consts_1 (⟨"java/lang/String", "<init>", "([C)V"⟩ : MethodName) jdk_42_method_3_code 2 none ({ frames := 2, cells := 4, slots := 8, locals := 60 } : Room) #[(.ref a1), (.ref a2)] h0 (own_qs Z a1 h0 n0) := by
  refine own_bodyH own_pn2 (f0 := fun m => (mkF m 0 #[.val (.ref a1), .val (.ref a2)] [])) (fun m => own_ef2n0 m a1 a2) ?_
  intro p e s m below meth c s₁ hx hby hml hown hnm hret hlk hZ X0 e0 hS hC
  change own_G p e below (own_FH Z consts_1 h0 (own_qs Z a1 h0 n0) s 4 8) s₁ (mkF m 0 #[.val (.ref a1), .val (.ref a2)] [])
  have hkS : 0 ≤ h0.size := Nat.zero_le _
  have N0 := Fr.nil n0
  refine own_st (T' := s₁) (g' := (mkF m 1 #[.val (.ref a1), .val (.ref a2)] [(.ref a1)])) (fun t k => XS.aloadN X0.here hx rfl (hb hby own_d2_0) rfl rfl k) ?_
  refine own_st (T' := s₁) (g' := (mkF m 2 #[.val (.ref a1), .val (.ref a2)] [(.ref a2), (.ref a1)])) (fun t k => XS.aloadN X0.here hx rfl (hb hby own_d2_1) rfl rfl k) ?_
  refine own_st (T' := s₁) (g' := (mkF m 3 #[.val (.ref a1), .val (.ref a2)] [(.int (0 : Int32)), (.ref a2), (.ref a1)])) (fun t k => XS.iconst X0.here hx rfl (hb hby own_d2_2) k) ?_
  refine own_st (T' := s₁) (g' := (mkF m 4 #[.val (.ref a1), .val (.ref a2)] [(.ref a2), (.int (0 : Int32)), (.ref a2), (.ref a1)])) (fun t k => XS.aloadN X0.here hx rfl (hb hby own_d2_3) rfl rfl k) ?_
  refine own_st (T' := s₁) (g' := (mkF m 5 #[.val (.ref a1), .val (.ref a2)] [(.int (0 : Int32)), (.int (0 : Int32)), (.ref a2), (.ref a1)])) (own_alen V_a2 X0 hx hZ e0 (g := (mkF m 4 #[.val (.ref a1), .val (.ref a2)] [(.ref a2), (.int (0 : Int32)), (.ref a2), (.ref a1)])) rfl rfl (hb hby own_d2_4)) ?_
  refine own_st (T' := s₁) (g' := (mkF m 6 #[.val (.ref a1), .val (.ref a2)] [.null, (.int (0 : Int32)), (.int (0 : Int32)), (.ref a2), (.ref a1)])) (fun t k => XS.aconstNull X0.here hx rfl (hb hby own_d2_5) k) ?_
  obtain ⟨_, T1, L1, hQ1, X1, hS, hZ, hown, hCn1, st1⟩ := own_callIH (y := (⟨"java/lang/String", "<init>", "([CIILjava/lang/Void;)V"⟩ : MethodName)) (argsL := [(.ref a2), (.int (0 : Int32)), (.int (0 : Int32)), .null]) 0 [] (own_rm3n0 l Z a0 hw h0 n0 Z0 a1 a2 E_a1 g_a1 _ F_coder_a1 F_value_a1) X0 hx hZ hown hS hkS (own_EL hw) hC.1 rfl (hw _ (List.mem_of_getElem? (i := 15) rfl)) (hw _ (List.mem_of_getElem? (i := 16) rfl)) (hw _ (List.mem_of_getElem? (i := 18) rfl)) (hw _ (List.mem_of_getElem? (i := 11) rfl)) (by decide) (by decide) (by decide) (by decide) (by decide) e0 (g := (mkF m 6 #[.val (.ref a1), .val (.ref a2)] [.null, (.int (0 : Int32)), (.int (0 : Int32)), (.ref a2), (.ref a1)])) rfl (by rw [hml]; rfl) (lenOf own_pd3 rfl) rfl (by show 2 * 0 + _ ≤ _; exact Nat.le_of_eq rfl) (hb hby own_d2_6)
  obtain ⟨rfl, N1q, Kq1, E_a1⟩ := hQ1
  have K0_1 := (Keep.refl h0 [a1]).trans Kq1 (allS (Or.inl (List.mem_of_getElem? (i := 0) rfl)) all0)
  have Z1 : n0 ≤ T1.heap.size := Nat.le_trans Z0 Kq1.1
  have hkS := Nat.le_trans hkS Kq1.1
  have V_a2 := V_a2.keep Kq1 (ninS ne_a2_a1 nin0)
  have N1 := Fr.app N0 N1q
  generalize hlc1 : ([] ++ L1 : List Loc) = lc1 at X1 N1
  have X1 : Stand p l e ({ frames := 2, cells := 4, slots := 8, locals := 60 } : Room) (s.setVm T1.vm) m #[(.ref a1), (.ref a2)] below meth c T1 lc1 4 8 := X1
  refine own_st (T' := T1) (g' := (mkF m 9 #[.val (.ref a1), .val (.ref a2)] [])) st1 ?_
  have hkS := Nat.le_refl T1.heap.size
  have hC := hC.trans hCn1
  exact own_retVH X1 hS hkS hx hZ (own_EL hw) hC hlk hret (hb hby own_d2_9) (by decide) (by decide) ⟨rfl, N1, K0_1, E_a1⟩
theorem own_d22_0 : decode jdk_42_method_151_code 0 = .ok (.aload_n 0, 1) := by decide +kernel
theorem own_d22_1 : decode jdk_42_method_151_code 1 = .ok (.invokespecial 1, 3) := by decide +kernel
theorem own_d22_4 : decode jdk_42_method_151_code 4 = .ok (.aload_n 0, 1) := by decide +kernel
theorem own_d22_5 : decode jdk_42_method_151_code 5 = .ok (.aload_n 1, 1) := by decide +kernel
theorem own_d22_6 : decode jdk_42_method_151_code 6 = .ok (.putfield 9, 3) := by decide +kernel
theorem own_d22_9 : decode jdk_42_method_151_code 9 = .ok (.aload_n 0, 1) := by decide +kernel
theorem own_d22_10 : decode jdk_42_method_151_code 10 = .ok (.iload_n 2, 1) := by decide +kernel
theorem own_d22_11 : decode jdk_42_method_151_code 11 = .ok (.putfield 15, 3) := by decide +kernel
theorem own_d22_14 : decode jdk_42_method_151_code 14 = .ok (.return_, 1) := by decide +kernel
theorem own_pn22 : plainFor (⟨"java/lang/String", "<init>", "([BB)V"⟩ : MethodName) = true := plainFor_of_name (show plainName "java/lang/String" = true by first | (simp [plainName, overriddenIn]; done) | decide +kernel)
theorem own_ef22 (m : MethodId) (a1 : Addr) (a2 : Addr) (p3 : Int32) : entryFrame m #[(.ref a1), (.ref a2), (.int p3)] 3 = (mkF m 0 #[.val (.ref a1), .val (.ref a2), .val (.int p3)] []) := by first | (simp [entryFrame, mkF, argsToLocals, Value.category]; done) | rfl
set_option maxRecDepth 65536 in
set_option maxHeartbeats 40000000 in
theorem own_rm22 (l : Launch) (Z : State) (a0 : Array Value) (hw : ∀ d ∈ tables_1, d.before a0 Z = true) (h0 : Heap) (n0 : Nat) (Z0 : n0 ≤ h0.size) (a1 : Addr) (a2 : Addr) (p3 : Int32) (E_a1 : Exa Z h0 a1 "java/lang/String") (g_a1 : n0 ≤ a1) (u_c : Value) (F_coder_a1 : Fld Z h0 a1 "java/lang/String" "coder" "B" u_c) (u_v : Value) (F_value_a1 : Fld Z h0 a1 "java/lang/String" "value" "[B" u_v) :
    own_C l Z (⟨"java/lang/String", "<init>", "([BB)V"⟩ : MethodName) jdk_42_method_151_code 3 none [] ({ frames := 1, cells := 0, slots := 0, locals := 20 } : Room) #[(.ref a1), (.ref a2), (.int p3)] h0 (own_qs Z a1 h0 n0) := by
  refine own_body own_pn22 (f0 := fun m => (mkF m 0 #[.val (.ref a1), .val (.ref a2), .val (.int p3)] [])) (fun m => own_ef22 m a1 a2 p3) ?_
  intro p e s m below meth c s₁ hx hby hml hown hnm hret hlk hZ X0 e0
  change own_G p e below (own_F (own_qs Z a1 h0 n0) s 0 0) s₁ (mkF m 0 #[.val (.ref a1), .val (.ref a2), .val (.int p3)] [])
  have N0 := Fr.nil n0
  refine own_st (T' := s₁) (g' := (mkF m 1 #[.val (.ref a1), .val (.ref a2), .val (.int p3)] [(.ref a1)])) (fun t k => XS.aloadN X0.here hx rfl (hb hby own_d22_0) rfl rfl k) ?_
  obtain ⟨T1, X1, e1, st1⟩ := initO X0 hx hZ hown (hw _ (List.mem_of_getElem? (i := 19) rfl)) (hw _ (List.mem_of_getElem? (i := 20) rfl)) (hw _ (List.mem_of_getElem? (i := 21) rfl)) e0 (g := (mkF m 1 #[.val (.ref a1), .val (.ref a2), .val (.int p3)] [(.ref a1)])) rfl (by rw [hml]; rfl) rfl (hb hby own_d22_1) (by decide) (W := 0) (by show 2 * 0 + _ ≤ _; exact Nat.le_of_eq rfl) (by decide)
  refine own_st (T' := T1) (g' := (mkF m 4 #[.val (.ref a1), .val (.ref a2), .val (.int p3)] [])) st1 ?_
  refine own_st (T' := T1) (g' := (mkF m 5 #[.val (.ref a1), .val (.ref a2), .val (.int p3)] [(.ref a1)])) (fun t k => XS.aloadN X1.here hx rfl (hb hby own_d22_4) rfl rfl k) ?_
  refine own_st (T' := T1) (g' := (mkF m 6 #[.val (.ref a1), .val (.ref a2), .val (.int p3)] [(.ref a2), (.ref a1)])) (fun t k => XS.aloadN X1.here hx rfl (hb hby own_d22_5) rfl rfl k) ?_
  obtain ⟨T2, h2, X2, e2, W2, st2⟩ := putF X1 hx hZ hown (host := "") (Or.inl (hw _ (List.mem_of_getElem? (i := 36) rfl))) Via.refl e1 F_value_a1 E_a1 (Or.inr ⟨(hw _ (List.mem_of_getElem? (i := 37) rfl)), rfl, hnm⟩) (hw _ (List.mem_of_getElem? (i := 10) rfl)) (ty := (.array .byte)) (by decide) rfl rfl (g := (mkF m 6 #[.val (.ref a1), .val (.ref a2), .val (.int p3)] [(.ref a2), (.ref a1)])) rfl rfl (hb hby own_d22_6)
  have E_a1 := E_a1.wr W2
  have F_coder_a1 := F_coder_a1.other W2 (Or.inr (slot_ne (Or.inr (hw _ (List.mem_of_getElem? (i := 35) rfl))) (Or.inr (hw _ (List.mem_of_getElem? (i := 37) rfl))) (by decide) (t := .byte) (t' := (.array .byte)) (by decide) (by decide)))
  have F_value_a1 := F_value_a1.same W2
  have K0_2 := (Keep.refl h0 [a1]).wr W2 (Or.inl (List.mem_of_getElem? (i := 0) rfl))
  have N2 := Fr.snoc X2 N0 g_a1
  generalize hlc2 : ([] ++ [(⟨a1, Jvm.RoadKit.slotOf Z "java/lang/String" "value" "[B"⟩ : Loc)] : List Loc) = lc2 at X2 N2
  have Z2 : n0 ≤ h2.size := Nat.le_trans Z0 (Keep.of_wr W2).1
  refine own_st (T' := T2) (g' := (mkF m 9 #[.val (.ref a1), .val (.ref a2), .val (.int p3)] [])) st2 ?_
  refine own_st (T' := T2) (g' := (mkF m 10 #[.val (.ref a1), .val (.ref a2), .val (.int p3)] [(.ref a1)])) (fun t k => XS.aloadN X2.here hx rfl (hb hby own_d22_9) rfl rfl k) ?_
  refine own_st (T' := T2) (g' := (mkF m 11 #[.val (.ref a1), .val (.ref a2), .val (.int p3)] [(.int p3), (.ref a1)])) (fun t k => XS.iloadN X2.here hx rfl (hb hby own_d22_10) rfl k) ?_
  obtain ⟨T3, h3, X3, e3, W3, st3⟩ := putFN X2 hx hZ hown (hw _ (List.mem_of_getElem? (i := 34) rfl)) Via.refl e2 F_coder_a1 E_a1 (Or.inr ⟨(hw _ (List.mem_of_getElem? (i := 35) rfl)), rfl, hnm⟩) (hw _ (List.mem_of_getElem? (i := 10) rfl)) (ty := .byte) (v' := (.int (nar .byte p3))) (by decide) rfl (fits_nar_byte _) (g := (mkF m 11 #[.val (.ref a1), .val (.ref a2), .val (.int p3)] [(.int p3), (.ref a1)])) rfl rfl (hb hby own_d22_11)
  have E_a1 := E_a1.wr W3
  have F_coder_a1 := F_coder_a1.same W3
  have F_value_a1 := F_value_a1.other W3 (Or.inr (slot_ne (Or.inr (hw _ (List.mem_of_getElem? (i := 37) rfl))) (Or.inr (hw _ (List.mem_of_getElem? (i := 35) rfl))) (by decide) (t := (.array .byte)) (t' := .byte) (by decide) (by decide)))
  have K0_3 := K0_2.wr W3 (Or.inl (List.mem_of_getElem? (i := 0) rfl))
  have N3 := Fr.snoc X3 N2 g_a1
  generalize hlc3 : (lc2 ++ [(⟨a1, Jvm.RoadKit.slotOf Z "java/lang/String" "coder" "B"⟩ : Loc)] : List Loc) = lc3 at X3 N3
  have Z3 : n0 ≤ h3.size := Nat.le_trans Z2 (Keep.of_wr W3).1
  refine own_st (T' := T3) (g' := (mkF m 14 #[.val (.ref a1), .val (.ref a2), .val (.int p3)] [])) st3 ?_
  exact own_retV X3 hx hlk hret (hb hby own_d22_14) (by decide) (by decide) (by rw [e3]; exact ⟨rfl, N3, K0_3, E_a1⟩)
theorem own_d20_0 : decode jdk_43_method_3_code 0 = .ok (.iload_n 0, 1) := by decide +kernel
theorem own_d20_1 : decode jdk_43_method_3_code 1 = .ok (.sipush 255, 3) := by decide +kernel
theorem own_d20_4 : decode jdk_43_method_3_code 4 = .ok (.if_icmp .gt 7, 3) := by decide +kernel
theorem own_d20_7 : decode jdk_43_method_3_code 7 = .ok (.iconst 1, 1) := by decide +kernel
theorem own_d20_8 : decode jdk_43_method_3_code 8 = .ok (.goto 4, 3) := by decide +kernel
theorem own_d20_12 : decode jdk_43_method_3_code 12 = .ok (.ireturn, 1) := by decide +kernel
theorem own_pn20 : plainFor (⟨"java/lang/StringLatin1", "canEncode", "(C)Z"⟩ : MethodName) = true := plainFor_of_name (show plainName "java/lang/StringLatin1" = true by first | (simp [plainName, overriddenIn]; done) | decide +kernel)
theorem own_ef20 (m : MethodId) (p1 : Int32) : entryFrame m #[(.int p1)] 1 = (mkF m 0 #[.val (.int p1)] []) := by first | (simp [entryFrame, mkF, argsToLocals, Value.category]; done) | rfl
set_option maxRecDepth 65536 in
set_option maxHeartbeats 40000000 in
theorem own_rm20 (l : Launch) (Z : State) (a0 : Array Value) (hw : ∀ d ∈ tables_1, d.before a0 Z = true) (h0 : Heap) (n0 : Nat) (Z0 : n0 ≤ h0.size) (p1 : Int32) (hcc : ¬ (255 : Int32) < p1) :
    own_C l Z (⟨"java/lang/StringLatin1", "canEncode", "(C)Z"⟩ : MethodName) jdk_43_method_3_code 1 (some .boolean) [] ({ frames := 0, cells := 0, slots := 0, locals := 0 } : Room) #[(.int p1)] h0 (own_P (.int 1) h0) := by
  refine own_body own_pn20 (f0 := fun m => (mkF m 0 #[.val (.int p1)] [])) (fun m => own_ef20 m p1) ?_
  intro p e s m below meth c s₁ hx hby hml hown hnm hret hlk hZ X0 e0
  change own_G p e below (own_F (own_P (.int 1) h0) s 0 0) s₁ (mkF m 0 #[.val (.int p1)] [])
  have N0 := Fr.nil n0
  refine own_st (T' := s₁) (g' := (mkF m 1 #[.val (.int p1)] [(.int p1)])) (fun t k => XS.iloadN X0.here hx rfl (hb hby own_d20_0) rfl k) ?_
  refine own_st (T' := s₁) (g' := (mkF m 4 #[.val (.int p1)] [(.int (255 : Int32)), (.int p1)])) (fun t k => XS.sipush X0.here hx rfl (hb hby own_d20_1) k) ?_
  have hk1 : ¬ ((255 : Int32) < p1) := hcc
  refine own_st (T' := s₁) (g' := (mkF m 7 #[.val (.int p1)] [])) (fun t k => XS.icmpNo X0.here hx rfl (hb hby own_d20_4) rfl (flt hk1).2.2.1 k) ?_
  refine own_st (T' := s₁) (g' := (mkF m 8 #[.val (.int p1)] [(.int (1 : Int32))])) (fun t k => XS.iconst X0.here hx rfl (hb hby own_d20_7) k) ?_
  refine own_st (T' := s₁) (g' := (mkF m 12 #[.val (.int p1)] [(.int (1 : Int32))])) (fun t k => XS.goto X0.here hx rfl (pc0 := 8) (pc' := 12) rfl (hb hby own_d20_8) (by decide) (by decide) k) ?_
  exact own_retB X0 hx hlk hret (hb hby own_d20_12) (by decide) (by decide) rfl ⟨rfl, e0, rfl⟩
theorem own_d21_0 : decode jdk_43_method_46_code 0 = .ok (.iconst 1, 1) := by decide +kernel
theorem own_d21_1 : decode jdk_43_method_46_code 1 = .ok (.newarray .byte, 2) := by decide +kernel
theorem own_d21_3 : decode jdk_43_method_46_code 3 = .ok (.dup, 1) := by decide +kernel
theorem own_d21_4 : decode jdk_43_method_46_code 4 = .ok (.iconst 0, 1) := by decide +kernel
theorem own_d21_5 : decode jdk_43_method_46_code 5 = .ok (.iload_n 0, 1) := by decide +kernel
theorem own_d21_6 : decode jdk_43_method_46_code 6 = .ok (.i2b, 1) := by decide +kernel
theorem own_d21_7 : decode jdk_43_method_46_code 7 = .ok (.bastore, 1) := by decide +kernel
theorem own_d21_8 : decode jdk_43_method_46_code 8 = .ok (.areturn, 1) := by decide +kernel
theorem own_pn21 : plainFor (⟨"java/lang/StringLatin1", "toBytes", "(C)[B"⟩ : MethodName) = true := plainFor_of_name (show plainName "java/lang/StringLatin1" = true by first | (simp [plainName, overriddenIn]; done) | decide +kernel)
theorem own_ef21 (m : MethodId) (p1 : Int32) : entryFrame m #[(.int p1)] 1 = (mkF m 0 #[.val (.int p1)] []) := by first | (simp [entryFrame, mkF, argsToLocals, Value.category]; done) | rfl
set_option maxRecDepth 65536 in
set_option maxHeartbeats 40000000 in
theorem own_rm21 (l : Launch) (Z : State) (a0 : Array Value) (hw : ∀ d ∈ tables_1, d.before a0 Z = true) (h0 : Heap) (n0 : Nat) (Z0 : n0 ≤ h0.size) (p1 : Int32)  :
    own_C l Z (⟨"java/lang/StringLatin1", "toBytes", "(C)[B"⟩ : MethodName) jdk_43_method_46_code 1 (some (.array .byte)) [] ({ frames := 0, cells := 1, slots := 1, locals := 0 } : Room) #[(.int p1)] h0 (own_qn n0 h0) := by
  refine own_body own_pn21 (f0 := fun m => (mkF m 0 #[.val (.int p1)] [])) (fun m => own_ef21 m p1) ?_
  intro p e s m below meth c s₁ hx hby hml hown hnm hret hlk hZ X0 e0
  change own_G p e below (own_F (own_qn n0 h0) s 1 1) s₁ (mkF m 0 #[.val (.int p1)] [])
  have N0 := Fr.nil n0
  refine own_st (T' := s₁) (g' := (mkF m 1 #[.val (.int p1)] [(.int (1 : Int32))])) (fun t k => XS.iconst X0.here hx rfl (hb hby own_d21_0) k) ?_
  obtain ⟨T1, h1, k1, X1, e1, E1, A1, Ex1, st1⟩ := newPE X0 hx hZ (aty := .byte) (hw _ (List.mem_of_getElem? (i := 27) rfl)) e0 (g := (mkF m 1 #[.val (.int p1)] [(.int (1 : Int32))])) rfl (hb hby own_d21_1) rfl (by decide) (cap := 1) (by decide) (by decide) (by decide) (by decide) (ad := "[B") (by decide)
  obtain ⟨b1, gb1⟩ : ∃ z, z = h0.size := ⟨_, rfl⟩
  rw [← gb1] at A1 Ex1 st1
  have g_b1 : n0 ≤ b1 := Nat.le_trans Z0 (Nat.le_of_eq gb1.symm)
  have Z1 : n0 ≤ h1.size := Nat.le_trans Z0 E1.1
  have sz_b1 : h0.size ≤ b1 := Nat.le_trans (Keep.refl h0 []).1 (Nat.le_of_eq gb1.symm)
  have K0_1 := (Keep.refl h0 []).ext E1
  have V_b1 : Arv Z h1 b1 k1 .byte (1 : Int32) [(.int (0 : Int32))] (.int (0 : Int32)) := (Arv.new A1 (by decide)).pad (pad_rep [] (.int (0 : Int32)) 1)
  have E_b1 := Ex1
  have X1 : Stand p l e ({ frames := 0, cells := 1, slots := 1, locals := 0 } : Room) s m #[(.int p1)] below meth c T1 [] 1 1 := X1
  refine own_st (T' := T1) (g' := (mkF m 3 #[.val (.int p1)] [(.ref b1)])) st1 ?_
  refine own_st (T' := T1) (g' := (mkF m 4 #[.val (.int p1)] [(.ref b1), (.ref b1)])) (fun t k => XS.dup X1.here hx rfl (hb hby own_d21_3) rfl rfl k) ?_
  refine own_st (T' := T1) (g' := (mkF m 5 #[.val (.int p1)] [(.int (0 : Int32)), (.ref b1), (.ref b1)])) (fun t k => XS.iconst X1.here hx rfl (hb hby own_d21_4) k) ?_
  refine own_st (T' := T1) (g' := (mkF m 6 #[.val (.int p1)] [(.int p1), (.int (0 : Int32)), (.ref b1), (.ref b1)])) (fun t k => XS.iloadN X1.here hx rfl (hb hby own_d21_5) rfl k) ?_
  refine own_st (T' := T1) (g' := (mkF m 7 #[.val (.int p1)] [(.int (p1.toInt8.toInt32)), (.int (0 : Int32)), (.ref b1), (.ref b1)])) (fun t k => XS.i2b X1.here hx rfl (hb hby own_d21_6) rfl k) ?_
  obtain ⟨cl2, Ar2, q2, S2, N2n, H2, G2⟩ := V_b1
  have hin2 : ¬ ((0 : Int32) < 0 ∨ cl2.slots.size ≤ ((0 : Int32) : Int32).toNatClampNeg) := inb_of S2 ⟨by decide, by decide⟩
  obtain ⟨T3, h3, X3, e3, W3, st3⟩ := stB X1 hx hZ e1 Ar2 (j := (0 : Int32)) hin2 (g := (mkF m 7 #[.val (.int p1)] [(.int (p1.toInt8.toInt32)), (.int (0 : Int32)), (.ref b1), (.ref b1)])) rfl rfl (hb hby own_d21_7)
  have E_b1 := E_b1.wr W3
  have V_b1 : Arv Z h3 b1 k1 .byte (1 : Int32) [(.int (nar .byte (p1.toInt8.toInt32)))] (.int (0 : Int32)) := Arv.set Ar2 q2 S2 N2n H2 G2 (fits_nar_byte _) W3 0 rfl (Nat.le_of_ble_eq_true rfl)
  have K0_3 := K0_1.wr W3 (Or.inr sz_b1)
  have N3 := Fr.snoc X3 N0 g_b1
  generalize hlc3 : ([] ++ [(⟨b1, ((0 : Int32) : Int32).toNatClampNeg⟩ : Loc)] : List Loc) = lc3 at X3 N3
  have Z3 : n0 ≤ h3.size := Nat.le_trans Z1 (Keep.of_wr W3).1
  refine own_st (T' := T3) (g' := (mkF m 8 #[.val (.int p1)] [(.ref b1)])) st3 ?_
  exact own_retA X3 hx hlk hret (hb hby own_d21_8) (by decide) (by decide) rfl (by rw [e3]; exact ⟨b1, rfl, N3, own_ext K0_3, sz_b1⟩)
theorem own_d19_0 : decode jdk_42_method_139_code 0 = .ok (.getstatic 38, 3) := by decide +kernel
theorem own_d19_3 : decode jdk_42_method_139_code 3 = .ok (.ifCond .eq 23, 3) := by decide +kernel
theorem own_d19_6 : decode jdk_42_method_139_code 6 = .ok (.iload_n 0, 1) := by decide +kernel
theorem own_d19_7 : decode jdk_42_method_139_code 7 = .ok (.invokestatic 1015, 3) := by decide +kernel
theorem own_d19_10 : decode jdk_42_method_139_code 10 = .ok (.ifCond .eq 16, 3) := by decide +kernel
theorem own_d19_13 : decode jdk_42_method_139_code 13 = .ok (.new 10, 3) := by decide +kernel
theorem own_d19_16 : decode jdk_42_method_139_code 16 = .ok (.dup, 1) := by decide +kernel
theorem own_d19_17 : decode jdk_42_method_139_code 17 = .ok (.iload_n 0, 1) := by decide +kernel
theorem own_d19_18 : decode jdk_42_method_139_code 18 = .ok (.invokestatic 1018, 3) := by decide +kernel
theorem own_d19_21 : decode jdk_42_method_139_code 21 = .ok (.iconst 0, 1) := by decide +kernel
theorem own_d19_22 : decode jdk_42_method_139_code 22 = .ok (.invokespecial 209, 3) := by decide +kernel
theorem own_d19_25 : decode jdk_42_method_139_code 25 = .ok (.areturn, 1) := by decide +kernel
theorem own_pn19 : plainFor (⟨"java/lang/String", "valueOf", "(C)Ljava/lang/String;"⟩ : MethodName) = true := plainFor_of_name (show plainName "java/lang/String" = true by first | (simp [plainName, overriddenIn]; done) | decide +kernel)
theorem own_ef19 (m : MethodId) (p1 : Int32) : entryFrame m #[(.int p1)] 1 = (mkF m 0 #[.val (.int p1)] []) := by first | (simp [entryFrame, mkF, argsToLocals, Value.category]; done) | rfl
set_option maxRecDepth 65536 in
set_option maxHeartbeats 40000000 in
theorem own_rm19 (l : Launch) (Z : State) (a0 : Array Value) (hw : ∀ d ∈ tables_1, d.before a0 Z = true) (h0 : Heap) (n0 : Nat) (Z0 : n0 ≤ h0.size) (p1 : Int32) (O : Old Z n0 h0) (zc : Int32) (hzc : ¬ zc = 0) (S_CS : Sta Z Z.heap "java/lang/String" "COMPACT_STRINGS" "Z" (.int zc)) (hcc : ¬ (255 : Int32) < p1) :
    own_C l Z (⟨"java/lang/String", "valueOf", "(C)Ljava/lang/String;"⟩ : MethodName) jdk_42_method_139_code 1 (some (.object "java/lang/String")) [] ({ frames := 2, cells := 2, slots := 5, locals := 60 } : Room) #[(.int p1)] h0 (own_qsn Z n0 h0) := by
  refine own_body own_pn19 (f0 := fun m => (mkF m 0 #[.val (.int p1)] [])) (fun m => own_ef19 m p1) ?_
  intro p e s m below meth c s₁ hx hby hml hown hnm hret hlk hZ X0 e0
  change own_G p e below (own_F (own_qsn Z n0 h0) s 2 5) s₁ (mkF m 0 #[.val (.int p1)] [])
  have N0 := Fr.nil n0
  obtain ⟨T1, X1, e1, st1⟩ := getS2 X0 hx hZ hown (host := "") (Or.inl (hw _ (List.mem_of_getElem? (i := 22) rfl))) Via.refl e0 (S_CS.ext O.2) (g := (mkF m 0 #[.val (.int p1)] [])) rfl (hb hby own_d19_0)
  refine own_st (T' := T1) (g' := (mkF m 3 #[.val (.int p1)] [(.int zc)])) st1 ?_
  have hk2 : ¬ (zc = (0 : Int32)) := hzc
  refine own_st (T' := T1) (g' := (mkF m 6 #[.val (.int p1)] [])) (fun t k => XS.ifNo X1.here hx rfl (hb hby own_d19_3) rfl ((if0 _ _).trans (feq hk2).1) k) ?_
  refine own_st (T' := T1) (g' := (mkF m 7 #[.val (.int p1)] [(.int p1)])) (fun t k => XS.iloadN X1.here hx rfl (hb hby own_d19_6) rfl k) ?_
  obtain ⟨_, T3, L3, hQ3, X3, st3⟩ := own_callS (y := (⟨"java/lang/StringLatin1", "canEncode", "(C)Z"⟩ : MethodName)) (argsL := [(.int p1)]) 0 [] (own_rm20 l Z a0 hw h0 n0 Z0 p1 hcc) X1 hx hZ hown (hw _ (List.mem_of_getElem? (i := 116) rfl)) (hw _ (List.mem_of_getElem? (i := 117) rfl)) (hw _ (List.mem_of_getElem? (i := 118) rfl)) (hw _ (List.mem_of_getElem? (i := 119) rfl)) (by decide) (by decide) (by decide) (by decide) (by decide) e1 (g := (mkF m 7 #[.val (.int p1)] [(.int p1)])) rfl (by rw [hml]; rfl) (lenOf own_pd4 rfl) rfl (by show 2 * 0 + _ ≤ _; exact Nat.le_of_eq rfl) (hb hby own_d19_7)
  obtain ⟨rfl, e3, rfl⟩ := hQ3
  have X3 : Stand p l e ({ frames := 2, cells := 2, slots := 5, locals := 60 } : Room) s m #[(.int p1)] below meth c T3 [] 0 0 := X3
  refine own_st (T' := T3) (g' := (mkF m 10 #[.val (.int p1)] [(.int (1 : Int32))])) st3 ?_
  refine own_st (T' := T3) (g' := (mkF m 13 #[.val (.int p1)] [])) (fun t k => XS.ifNo X3.here hx rfl (hb hby own_d19_10) rfl ((if0 _ _).trans (feq (by decide)).1) k) ?_
  obtain ⟨T4, h4, X4, e4, E4, A4, D4, -, st4⟩ := newO X3 hx hZ hown (hw _ (List.mem_of_getElem? (i := 120) rfl)) (hw _ (List.mem_of_getElem? (i := 10) rfl)) (hw _ (List.mem_of_getElem? (i := 11) rfl)) e3 (g := (mkF m 13 #[.val (.int p1)] [])) rfl (hb hby own_d19_13) (by decide) (by decide)
  obtain ⟨b4, gb4⟩ : ∃ z, z = h0.size := ⟨_, rfl⟩
  rw [← gb4] at A4 D4 st4
  have g_b4 : n0 ≤ b4 := Nat.le_trans Z0 (Nat.le_of_eq gb4.symm)
  have Z4 : n0 ≤ h4.size := Nat.le_trans Z0 E4.1
  have sz_b4 : h0.size ≤ b4 := Nat.le_trans (Keep.refl h0 []).1 (Nat.le_of_eq gb4.symm)
  have K0_4 := (Keep.refl h0 []).ext E4
  have O := O.ext E4
  have E_b4 := A4
  have F_coder_b4 : Fld Z h4 b4 "java/lang/String" "coder" "B" (.int (0 : Int32)) := D4 (Or.inr (hw _ (List.mem_of_getElem? (i := 35) rfl))) (ty := .byte) (by decide)
  have F_value_b4 : Fld Z h4 b4 "java/lang/String" "value" "[B" .null := D4 (Or.inr (hw _ (List.mem_of_getElem? (i := 37) rfl))) (ty := (.array .byte)) (by decide)
  have X4 : Stand p l e ({ frames := 2, cells := 2, slots := 5, locals := 60 } : Room) s m #[(.int p1)] below meth c T4 [] 1 4 := X4
  refine own_st (T' := T4) (g' := (mkF m 16 #[.val (.int p1)] [(.ref b4)])) st4 ?_
  refine own_st (T' := T4) (g' := (mkF m 17 #[.val (.int p1)] [(.ref b4), (.ref b4)])) (fun t k => XS.dup X4.here hx rfl (hb hby own_d19_16) rfl rfl k) ?_
  refine own_st (T' := T4) (g' := (mkF m 18 #[.val (.int p1)] [(.int p1), (.ref b4), (.ref b4)])) (fun t k => XS.iloadN X4.here hx rfl (hb hby own_d19_17) rfl k) ?_
  have lt5_b4 := E_b4.lt
  obtain ⟨_, T5, L5, hQ5, X5, st5⟩ := own_callS (y := (⟨"java/lang/StringLatin1", "toBytes", "(C)[B"⟩ : MethodName)) (argsL := [(.int p1)]) 2 [(.ref b4), (.ref b4)] (own_rm21 l Z a0 hw h4 n0 Z4 p1) X4 hx hZ hown (hw _ (List.mem_of_getElem? (i := 121) rfl)) (hw _ (List.mem_of_getElem? (i := 122) rfl)) (hw _ (List.mem_of_getElem? (i := 118) rfl)) (hw _ (List.mem_of_getElem? (i := 123) rfl)) (by decide) (by decide) (by decide) (by decide) (by decide) e4 (g := (mkF m 18 #[.val (.int p1)] [(.int p1), (.ref b4), (.ref b4)])) rfl (by rw [hml]; rfl) (lenOf own_pd5 rfl) rfl (by show 2 * 0 + _ ≤ _; exact Nat.le_of_eq rfl) (hb hby own_d19_18)
  obtain ⟨o5, rfl, N5q, Eq5, sz_o5⟩ := hQ5
  have K0_5 := K0_4.ext Eq5
  have Z5 : n0 ≤ T5.heap.size := Nat.le_trans Z4 Eq5.1
  have O := O.ext Eq5
  have E_b4 := E_b4.ext Eq5
  have F_coder_b4 := F_coder_b4.ext Eq5
  have F_value_b4 := F_value_b4.ext Eq5
  have N5 := Fr.app N0 N5q
  generalize hlc5 : ([] ++ L5 : List Loc) = lc5 at X5 N5
  have X5 : Stand p l e ({ frames := 2, cells := 2, slots := 5, locals := 60 } : Room) s m #[(.int p1)] below meth c T5 lc5 2 5 := X5
  have g_o5 : n0 ≤ o5 := Nat.le_trans Z4 sz_o5
  have ne_b4_o5 : b4 ≠ o5 := Nat.ne_of_lt (Nat.lt_of_lt_of_le lt5_b4 sz_o5)
  have sz_o5 := Nat.le_trans K0_4.1 sz_o5
  refine own_st (T' := T5) (g' := (mkF m 21 #[.val (.int p1)] [(.ref o5), (.ref b4), (.ref b4)])) st5 ?_
  refine own_st (T' := T5) (g' := (mkF m 22 #[.val (.int p1)] [(.int (0 : Int32)), (.ref o5), (.ref b4), (.ref b4)])) (fun t k => XS.iconst X5.here hx rfl (hb hby own_d19_21) k) ?_
  obtain ⟨_, T6, L6, hQ6, X6, st6⟩ := own_callI (y := (⟨"java/lang/String", "<init>", "([BB)V"⟩ : MethodName)) (argsL := [(.ref o5), (.int (0 : Int32))]) 1 [(.ref b4)] (own_rm22 l Z a0 hw T5.heap n0 Z5 b4 o5 (0 : Int32) E_b4 g_b4 _ F_coder_b4 _ F_value_b4) X5 hx hZ hown rfl (hw _ (List.mem_of_getElem? (i := 124) rfl)) (hw _ (List.mem_of_getElem? (i := 125) rfl)) (hw _ (List.mem_of_getElem? (i := 126) rfl)) (hw _ (List.mem_of_getElem? (i := 11) rfl)) (by decide) (by decide) (by decide) (by decide) (by decide) rfl (g := (mkF m 22 #[.val (.int p1)] [(.int (0 : Int32)), (.ref o5), (.ref b4), (.ref b4)])) rfl (by rw [hml]; rfl) (lenOf own_pd6 rfl) rfl (by show 2 * 0 + _ ≤ _; exact Nat.le_of_eq rfl) (hb hby own_d19_22)
  obtain ⟨rfl, N6q, Kq6, E_b4⟩ := hQ6
  have K0_6 := K0_5.trans Kq6 (allS (Or.inr sz_b4) all0)
  have Z6 : n0 ≤ T6.heap.size := Nat.le_trans Z5 Kq6.1
  have O := O.keep Kq6 (allS g_b4 all0)
  have N6 := Fr.app N5 N6q
  generalize hlc6 : (lc5 ++ L6 : List Loc) = lc6 at X6 N6
  have X6 : Stand p l e ({ frames := 2, cells := 2, slots := 5, locals := 60 } : Room) s m #[(.int p1)] below meth c T6 lc6 2 5 := X6
  refine own_st (T' := T6) (g' := (mkF m 25 #[.val (.int p1)] [(.ref b4)])) st6 ?_
  exact own_retR X6 hx hlk hret (hb hby own_d19_25) (by decide) (by decide) rfl ⟨b4, rfl, N6, own_ext K0_6, sz_b4, E_b4⟩
theorem own_d9_0 : decode jdk_40_method_36_code 0 = .ok (.getstatic 90, 3) := by decide +kernel
theorem own_d9_3 : decode jdk_40_method_36_code 3 = .ok (.areturn, 1) := by decide +kernel
theorem own_pn9 : plainFor (⟨"java/util/List", "of", "()Ljava/util/List;"⟩ : MethodName) = true := plainFor_of_name (show plainName "java/util/List" = true by first | (simp [plainName, overriddenIn]; done) | decide +kernel)
theorem own_ef9 (m : MethodId)  : entryFrame m #[] 0 = (mkF m 0 #[] []) := by first | (simp [entryFrame, mkF, argsToLocals, Value.category]; done) | rfl
set_option maxRecDepth 65536 in
set_option maxHeartbeats 40000000 in
theorem own_rm9 (l : Launch) (Z : State) (a0 : Array Value) (hw : ∀ d ∈ tables_1, d.before a0 Z = true) (h0 : Heap) (n0 : Nat) (Z0 : n0 ≤ h0.size)  (O : Old Z n0 h0) (s_EL : Addr) (S_EL : Sta Z Z.heap "java/util/ImmutableCollections" "EMPTY_LIST" "Ljava/util/ImmutableCollections$ListN;" (.ref s_EL)) :
    own_C l Z (⟨"java/util/List", "of", "()Ljava/util/List;"⟩ : MethodName) jdk_40_method_36_code 0 (some (.object "java/util/List")) [] ({ frames := 0, cells := 0, slots := 0, locals := 0 } : Room) #[] h0 (own_P (.ref s_EL) h0) := by
  refine own_body own_pn9 (f0 := fun m => (mkF m 0 #[] [])) (fun m => own_ef9 m ) ?_
  intro p e s m below meth c s₁ hx hby hml hown hnm hret hlk hZ X0 e0
  change own_G p e below (own_F (own_P (.ref s_EL) h0) s 0 0) s₁ (mkF m 0 #[] [])
  have N0 := Fr.nil n0
  obtain ⟨T1, X1, e1, st1⟩ := getS2 X0 hx hZ hown (host := "") (Or.inl (hw _ (List.mem_of_getElem? (i := 48) rfl))) Via.refl e0 (S_EL.ext O.2) (g := (mkF m 0 #[] [])) rfl (hb hby own_d9_0)
  refine own_st (T' := T1) (g' := (mkF m 3 #[] [(.ref s_EL)])) st1 ?_
  exact own_retR X1 hx hlk hret (hb hby own_d9_3) (by decide) (by decide) rfl ⟨rfl, e1, rfl⟩
theorem own_d18_0 : decode jdk_45_method_3_code 0 = .ok (.aload_n 0, 1) := by decide +kernel
theorem own_d18_1 : decode jdk_45_method_3_code 1 = .ok (.getfield 7, 3) := by decide +kernel
theorem own_d18_4 : decode jdk_45_method_3_code 4 = .ok (.arraylength, 1) := by decide +kernel
theorem own_d18_5 : decode jdk_45_method_3_code 5 = .ok (.ireturn, 1) := by decide +kernel
theorem own_pn18 : plainFor (⟨"java/util/ImmutableCollections$ListN", "size", "()I"⟩ : MethodName) = true := plainFor_of_name (show plainName "java/util/ImmutableCollections$ListN" = true by first | (simp [plainName, overriddenIn]; done) | decide +kernel)
theorem own_ef18 (m : MethodId) (a1 : Addr) : entryFrame m #[(.ref a1)] 1 = (mkF m 0 #[.val (.ref a1)] []) := by first | (simp [entryFrame, mkF, argsToLocals, Value.category]; done) | rfl
set_option maxRecDepth 65536 in
set_option maxHeartbeats 40000000 in
theorem own_rm18 (l : Launch) (Z : State) (a0 : Array Value) (hw : ∀ d ∈ tables_1, d.before a0 Z = true) (h0 : Heap) (n0 : Nat) (Z0 : n0 ≤ h0.size) (a1 : Addr) (k : ClassId) (s_EA : Addr) (F_elements_a1 : Fld Z h0 a1 "java/util/ImmutableCollections$ListN" "elements" "[Ljava/lang/Object;" (.ref s_EA)) (V_s_EA : Arv Z h0 s_EA k (.object "java/lang/Object") 0 [] .null) :
    own_C l Z (⟨"java/util/ImmutableCollections$ListN", "size", "()I"⟩ : MethodName) jdk_45_method_3_code 1 (some .int) [] ({ frames := 0, cells := 0, slots := 0, locals := 0 } : Room) #[(.ref a1)] h0 (own_P (.int 0) h0) := by
  refine own_body own_pn18 (f0 := fun m => (mkF m 0 #[.val (.ref a1)] [])) (fun m => own_ef18 m a1) ?_
  intro p e s m below meth c s₁ hx hby hml hown hnm hret hlk hZ X0 e0
  change own_G p e below (own_F (own_P (.int 0) h0) s 0 0) s₁ (mkF m 0 #[.val (.ref a1)] [])
  have N0 := Fr.nil n0
  refine own_st (T' := s₁) (g' := (mkF m 1 #[.val (.ref a1)] [(.ref a1)])) (fun t k => XS.aloadN X0.here hx rfl (hb hby own_d18_0) rfl rfl k) ?_
  obtain ⟨T1, X1, e1, st1⟩ := getF X0 hx hZ hown (host := "") (Or.inl (hw _ (List.mem_of_getElem? (i := 109) rfl))) Via.refl e0 F_elements_a1 (g := (mkF m 1 #[.val (.ref a1)] [(.ref a1)])) rfl rfl (hb hby own_d18_1)
  refine own_st (T' := T1) (g' := (mkF m 4 #[.val (.ref a1)] [(.ref s_EA)])) st1 ?_
  refine own_st (T' := T1) (g' := (mkF m 5 #[.val (.ref a1)] [(.int (0 : Int32))])) (own_alen V_s_EA X1 hx hZ e1 (g := (mkF m 4 #[.val (.ref a1)] [(.ref s_EA)])) rfl rfl (hb hby own_d18_4)) ?_
  exact own_retI X1 hx hlk hret (hb hby own_d18_5) (by decide) (by decide) ⟨rfl, e1, rfl⟩
theorem own_d11_0 : decode jdk_30_method_1_code 0 = .ok (.aload_n 0, 1) := by decide +kernel
theorem own_d11_1 : decode jdk_30_method_1_code 1 = .ok (.invokespecial 1, 3) := by decide +kernel
theorem own_d11_4 : decode jdk_30_method_1_code 4 = .ok (.return_, 1) := by decide +kernel
theorem own_pn11 : plainFor (⟨"java/lang/Record", "<init>", "()V"⟩ : MethodName) = true := plainFor_of_name (show plainName "java/lang/Record" = true by first | (simp [plainName, overriddenIn]; done) | decide +kernel)
theorem own_ef11 (m : MethodId) (a1 : Addr) : entryFrame m #[(.ref a1)] 1 = (mkF m 0 #[.val (.ref a1)] []) := by first | (simp [entryFrame, mkF, argsToLocals, Value.category]; done) | rfl
set_option maxRecDepth 65536 in
set_option maxHeartbeats 40000000 in
theorem own_rm11 (l : Launch) (Z : State) (a0 : Array Value) (hw : ∀ d ∈ tables_1, d.before a0 Z = true) (h0 : Heap) (n0 : Nat) (Z0 : n0 ≤ h0.size) (a1 : Addr)  :
    own_C l Z (⟨"java/lang/Record", "<init>", "()V"⟩ : MethodName) jdk_30_method_1_code 1 none [] ({ frames := 1, cells := 0, slots := 0, locals := 12 } : Room) #[(.ref a1)] h0 (own_V h0) := by
  refine own_body own_pn11 (f0 := fun m => (mkF m 0 #[.val (.ref a1)] [])) (fun m => own_ef11 m a1) ?_
  intro p e s m below meth c s₁ hx hby hml hown hnm hret hlk hZ X0 e0
  change own_G p e below (own_F (own_V h0) s 0 0) s₁ (mkF m 0 #[.val (.ref a1)] [])
  have N0 := Fr.nil n0
  refine own_st (T' := s₁) (g' := (mkF m 1 #[.val (.ref a1)] [(.ref a1)])) (fun t k => XS.aloadN X0.here hx rfl (hb hby own_d11_0) rfl rfl k) ?_
  obtain ⟨T1, X1, e1, st1⟩ := initO X0 hx hZ hown (hw _ (List.mem_of_getElem? (i := 58) rfl)) (hw _ (List.mem_of_getElem? (i := 20) rfl)) (hw _ (List.mem_of_getElem? (i := 21) rfl)) e0 (g := (mkF m 1 #[.val (.ref a1)] [(.ref a1)])) rfl (by rw [hml]; rfl) rfl (hb hby own_d11_1) (by decide) (W := 0) (by show 2 * 0 + _ ≤ _; exact Nat.le_of_eq rfl) (by decide)
  refine own_st (T' := T1) (g' := (mkF m 4 #[.val (.ref a1)] [])) st1 ?_
  exact own_retV X1 hx hlk hret (hb hby own_d11_4) (by decide) (by decide) ⟨rfl, e1, rfl⟩
theorem own_d10_0 : decode prog_19_method_1_code 0 = .ok (.aload_n 0, 1) := by decide +kernel
theorem own_d10_1 : decode prog_19_method_1_code 1 = .ok (.invokespecial 1, 3) := by decide +kernel
theorem own_d10_4 : decode prog_19_method_1_code 4 = .ok (.aload_n 0, 1) := by decide +kernel
theorem own_d10_5 : decode prog_19_method_1_code 5 = .ok (.lload_n 1, 1) := by decide +kernel
theorem own_d10_6 : decode prog_19_method_1_code 6 = .ok (.putfield 7, 3) := by decide +kernel
theorem own_d10_9 : decode prog_19_method_1_code 9 = .ok (.aload_n 0, 1) := by decide +kernel
theorem own_d10_10 : decode prog_19_method_1_code 10 = .ok (.aload_n 3, 1) := by decide +kernel
theorem own_d10_11 : decode prog_19_method_1_code 11 = .ok (.putfield 13, 3) := by decide +kernel
theorem own_d10_14 : decode prog_19_method_1_code 14 = .ok (.aload_n 0, 1) := by decide +kernel
theorem own_d10_15 : decode prog_19_method_1_code 15 = .ok (.aload 4, 2) := by decide +kernel
theorem own_d10_17 : decode prog_19_method_1_code 17 = .ok (.putfield 17, 3) := by decide +kernel
theorem own_d10_20 : decode prog_19_method_1_code 20 = .ok (.aload_n 0, 1) := by decide +kernel
theorem own_d10_21 : decode prog_19_method_1_code 21 = .ok (.aload 5, 2) := by decide +kernel
theorem own_d10_23 : decode prog_19_method_1_code 23 = .ok (.putfield 21, 3) := by decide +kernel
theorem own_d10_26 : decode prog_19_method_1_code 26 = .ok (.aload_n 0, 1) := by decide +kernel
theorem own_d10_27 : decode prog_19_method_1_code 27 = .ok (.aload 6, 2) := by decide +kernel
theorem own_d10_29 : decode prog_19_method_1_code 29 = .ok (.putfield 25, 3) := by decide +kernel
theorem own_d10_32 : decode prog_19_method_1_code 32 = .ok (.return_, 1) := by decide +kernel
theorem own_pn10 : plainFor (⟨"com/example/sheaf/sheaf/engine/InstructionResult", "<init>", "(JLcom/example/sheaf/sheaf/engine/Failure;Ljava/lang/String;Lcom/example/sheaf/sheaf/engine/OrderState;Ljava/util/List;)V"⟩ : MethodName) = true := plainFor_of_name (show plainName "com/example/sheaf/sheaf/engine/InstructionResult" = true by first | (simp [plainName, overriddenIn]; done) | decide +kernel)
theorem own_ef10t (m : MethodId) (a1 : Addr) (q2 : Int64) (a4 : Addr) (a5 : Addr) (a7 : Addr) : entryFrame m #[(.ref a1), (.long q2), (.ref a4), (.ref a5), .null, (.ref a7)] 7 = (mkF m 0 #[.val (.ref a1), .val (.long q2), .second, .val (.ref a4), .val (.ref a5), .val .null, .val (.ref a7)] []) := by first | (simp [entryFrame, mkF, argsToLocals, Value.category]; done) | rfl
set_option maxRecDepth 65536 in
set_option maxHeartbeats 40000000 in
theorem own_rm10t (l : Launch) (Z : State) (a0 : Array Value) (hw : ∀ d ∈ tables_1, d.before a0 Z = true) (h0 : Heap) (n0 : Nat) (Z0 : n0 ≤ h0.size) (a1 : Addr) (q2 : Int64) (a4 : Addr) (a5 : Addr) (a7 : Addr) (E_a1 : Exa Z h0 a1 "com/example/sheaf/sheaf/engine/InstructionResult") (g_a1 : n0 ≤ a1) (u_seq : Value) (F_seq_a1 : Fld Z h0 a1 "com/example/sheaf/sheaf/engine/InstructionResult" "seq" "J" u_seq) (u_failure : Value) (F_failure_a1 : Fld Z h0 a1 "com/example/sheaf/sheaf/engine/InstructionResult" "failure" "Lcom/example/sheaf/sheaf/engine/Failure;" u_failure) (u_text : Value) (F_text_a1 : Fld Z h0 a1 "com/example/sheaf/sheaf/engine/InstructionResult" "text" "Ljava/lang/String;" u_text) (u_order : Value) (F_order_a1 : Fld Z h0 a1 "com/example/sheaf/sheaf/engine/InstructionResult" "order" "Lcom/example/sheaf/sheaf/engine/OrderState;" u_order) (u_fills : Value) (F_fills_a1 : Fld Z h0 a1 "com/example/sheaf/sheaf/engine/InstructionResult" "fills" "Ljava/util/List;" u_fills)  :
    own_C l Z (⟨"com/example/sheaf/sheaf/engine/InstructionResult", "<init>", "(JLcom/example/sheaf/sheaf/engine/Failure;Ljava/lang/String;Lcom/example/sheaf/sheaf/engine/OrderState;Ljava/util/List;)V"⟩ : MethodName) prog_19_method_1_code 7 none [] ({ frames := 2, cells := 0, slots := 0, locals := 30 } : Room) #[(.ref a1), (.long q2), (.ref a4), (.ref a5), .null, (.ref a7)] h0 (own_qi Z a1 q2 a4 (.ref a5) a7 h0 n0) := by
  refine own_body own_pn10 (f0 := fun m => (mkF m 0 #[.val (.ref a1), .val (.long q2), .second, .val (.ref a4), .val (.ref a5), .val .null, .val (.ref a7)] [])) (fun m => own_ef10t m a1 q2 a4 a5 a7) ?_
  intro p e s m below meth c s₁ hx hby hml hown hnm hret hlk hZ X0 e0
  change own_G p e below (own_F (own_qi Z a1 q2 a4 (.ref a5) a7 h0 n0) s 0 0) s₁ (mkF m 0 #[.val (.ref a1), .val (.long q2), .second, .val (.ref a4), .val (.ref a5), .val .null, .val (.ref a7)] [])
  have N0 := Fr.nil n0
  refine own_st (T' := s₁) (g' := (mkF m 1 #[.val (.ref a1), .val (.long q2), .second, .val (.ref a4), .val (.ref a5), .val .null, .val (.ref a7)] [(.ref a1)])) (fun t k => XS.aloadN X0.here hx rfl (hb hby own_d10_0) rfl rfl k) ?_
  obtain ⟨_, T1, L1, hQ1, X1, st1⟩ := own_callI (y := (⟨"java/lang/Record", "<init>", "()V"⟩ : MethodName)) (argsL := []) 0 [] (own_rm11 l Z a0 hw h0 n0 Z0 a1) X0 hx hZ hown rfl (hw _ (List.mem_of_getElem? (i := 53) rfl)) (hw _ (List.mem_of_getElem? (i := 54) rfl)) (hw _ (List.mem_of_getElem? (i := 57) rfl)) (hw _ (List.mem_of_getElem? (i := 56) rfl)) (by decide) (by decide) (by decide) (by decide) (by decide) e0 (g := (mkF m 1 #[.val (.ref a1), .val (.long q2), .second, .val (.ref a4), .val (.ref a5), .val .null, .val (.ref a7)] [(.ref a1)])) rfl (by rw [hml]; rfl) (lenOf own_pd7 rfl) rfl (by show 2 * 0 + _ ≤ _; exact Nat.le_of_eq rfl) (hb hby own_d10_1)
  obtain ⟨rfl, e1, rfl⟩ := hQ1
  have X1 : Stand p l e ({ frames := 2, cells := 0, slots := 0, locals := 30 } : Room) s m #[(.ref a1), (.long q2), (.ref a4), (.ref a5), .null, (.ref a7)] below meth c T1 [] 0 0 := X1
  refine own_st (T' := T1) (g' := (mkF m 4 #[.val (.ref a1), .val (.long q2), .second, .val (.ref a4), .val (.ref a5), .val .null, .val (.ref a7)] [])) st1 ?_
  refine own_st (T' := T1) (g' := (mkF m 5 #[.val (.ref a1), .val (.long q2), .second, .val (.ref a4), .val (.ref a5), .val .null, .val (.ref a7)] [(.ref a1)])) (fun t k => XS.aloadN X1.here hx rfl (hb hby own_d10_4) rfl rfl k) ?_
  refine own_st (T' := T1) (g' := (mkF m 6 #[.val (.ref a1), .val (.long q2), .second, .val (.ref a4), .val (.ref a5), .val .null, .val (.ref a7)] [(.long q2), (.ref a1)])) (fun t k => XS.lloadN X1.here hx rfl (hb hby own_d10_5) rfl k) ?_
  obtain ⟨T2, h2, X2, e2, W2, st2⟩ := putF X1 hx hZ hown (host := "") (Or.inl (hw _ (List.mem_of_getElem? (i := 59) rfl))) Via.refl e1 F_seq_a1 E_a1 (Or.inr ⟨(hw _ (List.mem_of_getElem? (i := 60) rfl)), rfl, hnm⟩) (hw _ (List.mem_of_getElem? (i := 43) rfl)) (ty := .long) (by decide) rfl rfl (g := (mkF m 6 #[.val (.ref a1), .val (.long q2), .second, .val (.ref a4), .val (.ref a5), .val .null, .val (.ref a7)] [(.long q2), (.ref a1)])) rfl rfl (hb hby own_d10_6)
  have E_a1 := E_a1.wr W2
  have F_seq_a1 := F_seq_a1.same W2
  have F_failure_a1 := F_failure_a1.other W2 (Or.inr (slot_ne (Or.inr (hw _ (List.mem_of_getElem? (i := 62) rfl))) (Or.inr (hw _ (List.mem_of_getElem? (i := 60) rfl))) (by decide) (t := (.object "com/example/sheaf/sheaf/engine/Failure")) (t' := .long) (by decide) (by decide)))
  have F_text_a1 := F_text_a1.other W2 (Or.inr (slot_ne (Or.inr (hw _ (List.mem_of_getElem? (i := 64) rfl))) (Or.inr (hw _ (List.mem_of_getElem? (i := 60) rfl))) (by decide) (t := (.object "java/lang/String")) (t' := .long) (by decide) (by decide)))
  have F_order_a1 := F_order_a1.other W2 (Or.inr (slot_ne (Or.inr (hw _ (List.mem_of_getElem? (i := 66) rfl))) (Or.inr (hw _ (List.mem_of_getElem? (i := 60) rfl))) (by decide) (t := (.object "com/example/sheaf/sheaf/engine/OrderState")) (t' := .long) (by decide) (by decide)))
  have F_fills_a1 := F_fills_a1.other W2 (Or.inr (slot_ne (Or.inr (hw _ (List.mem_of_getElem? (i := 68) rfl))) (Or.inr (hw _ (List.mem_of_getElem? (i := 60) rfl))) (by decide) (t := (.object "java/util/List")) (t' := .long) (by decide) (by decide)))
  have K0_2 := (Keep.refl h0 [a1]).wr W2 (Or.inl (List.mem_of_getElem? (i := 0) rfl))
  have N2 := Fr.snoc X2 N0 g_a1
  generalize hlc2 : ([] ++ [(⟨a1, Jvm.RoadKit.slotOf Z "com/example/sheaf/sheaf/engine/InstructionResult" "seq" "J"⟩ : Loc)] : List Loc) = lc2 at X2 N2
  have Z2 : n0 ≤ h2.size := Nat.le_trans Z0 (Keep.of_wr W2).1
  refine own_st (T' := T2) (g' := (mkF m 9 #[.val (.ref a1), .val (.long q2), .second, .val (.ref a4), .val (.ref a5), .val .null, .val (.ref a7)] [])) st2 ?_
  refine own_st (T' := T2) (g' := (mkF m 10 #[.val (.ref a1), .val (.long q2), .second, .val (.ref a4), .val (.ref a5), .val .null, .val (.ref a7)] [(.ref a1)])) (fun t k => XS.aloadN X2.here hx rfl (hb hby own_d10_9) rfl rfl k) ?_
  refine own_st (T' := T2) (g' := (mkF m 11 #[.val (.ref a1), .val (.long q2), .second, .val (.ref a4), .val (.ref a5), .val .null, .val (.ref a7)] [(.ref a4), (.ref a1)])) (fun t k => XS.aloadN X2.here hx rfl (hb hby own_d10_10) rfl rfl k) ?_
  obtain ⟨T3, h3, X3, e3, W3, st3⟩ := putF X2 hx hZ hown (host := "") (Or.inl (hw _ (List.mem_of_getElem? (i := 61) rfl))) Via.refl e2 F_failure_a1 E_a1 (Or.inr ⟨(hw _ (List.mem_of_getElem? (i := 62) rfl)), rfl, hnm⟩) (hw _ (List.mem_of_getElem? (i := 43) rfl)) (ty := (.object "com/example/sheaf/sheaf/engine/Failure")) (by decide) rfl rfl (g := (mkF m 11 #[.val (.ref a1), .val (.long q2), .second, .val (.ref a4), .val (.ref a5), .val .null, .val (.ref a7)] [(.ref a4), (.ref a1)])) rfl rfl (hb hby own_d10_11)
  have E_a1 := E_a1.wr W3
  have F_seq_a1 := F_seq_a1.other W3 (Or.inr (slot_ne (Or.inr (hw _ (List.mem_of_getElem? (i := 60) rfl))) (Or.inr (hw _ (List.mem_of_getElem? (i := 62) rfl))) (by decide) (t := .long) (t' := (.object "com/example/sheaf/sheaf/engine/Failure")) (by decide) (by decide)))
  have F_failure_a1 := F_failure_a1.same W3
  have F_text_a1 := F_text_a1.other W3 (Or.inr (slot_ne (Or.inr (hw _ (List.mem_of_getElem? (i := 64) rfl))) (Or.inr (hw _ (List.mem_of_getElem? (i := 62) rfl))) (by decide) (t := (.object "java/lang/String")) (t' := (.object "com/example/sheaf/sheaf/engine/Failure")) (by decide) (by decide)))
  have F_order_a1 := F_order_a1.other W3 (Or.inr (slot_ne (Or.inr (hw _ (List.mem_of_getElem? (i := 66) rfl))) (Or.inr (hw _ (List.mem_of_getElem? (i := 62) rfl))) (by decide) (t := (.object "com/example/sheaf/sheaf/engine/OrderState")) (t' := (.object "com/example/sheaf/sheaf/engine/Failure")) (by decide) (by decide)))
  have F_fills_a1 := F_fills_a1.other W3 (Or.inr (slot_ne (Or.inr (hw _ (List.mem_of_getElem? (i := 68) rfl))) (Or.inr (hw _ (List.mem_of_getElem? (i := 62) rfl))) (by decide) (t := (.object "java/util/List")) (t' := (.object "com/example/sheaf/sheaf/engine/Failure")) (by decide) (by decide)))
  have K0_3 := K0_2.wr W3 (Or.inl (List.mem_of_getElem? (i := 0) rfl))
  have N3 := Fr.snoc X3 N2 g_a1
  generalize hlc3 : (lc2 ++ [(⟨a1, Jvm.RoadKit.slotOf Z "com/example/sheaf/sheaf/engine/InstructionResult" "failure" "Lcom/example/sheaf/sheaf/engine/Failure;"⟩ : Loc)] : List Loc) = lc3 at X3 N3
  have Z3 : n0 ≤ h3.size := Nat.le_trans Z2 (Keep.of_wr W3).1
  refine own_st (T' := T3) (g' := (mkF m 14 #[.val (.ref a1), .val (.long q2), .second, .val (.ref a4), .val (.ref a5), .val .null, .val (.ref a7)] [])) st3 ?_
  refine own_st (T' := T3) (g' := (mkF m 15 #[.val (.ref a1), .val (.long q2), .second, .val (.ref a4), .val (.ref a5), .val .null, .val (.ref a7)] [(.ref a1)])) (fun t k => XS.aloadN X3.here hx rfl (hb hby own_d10_14) rfl rfl k) ?_
  refine own_st (T' := T3) (g' := (mkF m 17 #[.val (.ref a1), .val (.long q2), .second, .val (.ref a4), .val (.ref a5), .val .null, .val (.ref a7)] [(.ref a5), (.ref a1)])) (fun t k => XS.aload X3.here hx rfl (hb hby own_d10_15) rfl rfl k) ?_
  obtain ⟨T4, h4, X4, e4, W4, st4⟩ := putF X3 hx hZ hown (host := "") (Or.inl (hw _ (List.mem_of_getElem? (i := 63) rfl))) Via.refl e3 F_text_a1 E_a1 (Or.inr ⟨(hw _ (List.mem_of_getElem? (i := 64) rfl)), rfl, hnm⟩) (hw _ (List.mem_of_getElem? (i := 43) rfl)) (ty := (.object "java/lang/String")) (by decide) rfl rfl (g := (mkF m 17 #[.val (.ref a1), .val (.long q2), .second, .val (.ref a4), .val (.ref a5), .val .null, .val (.ref a7)] [(.ref a5), (.ref a1)])) rfl rfl (hb hby own_d10_17)
  have E_a1 := E_a1.wr W4
  have F_seq_a1 := F_seq_a1.other W4 (Or.inr (slot_ne (Or.inr (hw _ (List.mem_of_getElem? (i := 60) rfl))) (Or.inr (hw _ (List.mem_of_getElem? (i := 64) rfl))) (by decide) (t := .long) (t' := (.object "java/lang/String")) (by decide) (by decide)))
  have F_failure_a1 := F_failure_a1.other W4 (Or.inr (slot_ne (Or.inr (hw _ (List.mem_of_getElem? (i := 62) rfl))) (Or.inr (hw _ (List.mem_of_getElem? (i := 64) rfl))) (by decide) (t := (.object "com/example/sheaf/sheaf/engine/Failure")) (t' := (.object "java/lang/String")) (by decide) (by decide)))
  have F_text_a1 := F_text_a1.same W4
  have F_order_a1 := F_order_a1.other W4 (Or.inr (slot_ne (Or.inr (hw _ (List.mem_of_getElem? (i := 66) rfl))) (Or.inr (hw _ (List.mem_of_getElem? (i := 64) rfl))) (by decide) (t := (.object "com/example/sheaf/sheaf/engine/OrderState")) (t' := (.object "java/lang/String")) (by decide) (by decide)))
  have F_fills_a1 := F_fills_a1.other W4 (Or.inr (slot_ne (Or.inr (hw _ (List.mem_of_getElem? (i := 68) rfl))) (Or.inr (hw _ (List.mem_of_getElem? (i := 64) rfl))) (by decide) (t := (.object "java/util/List")) (t' := (.object "java/lang/String")) (by decide) (by decide)))
  have K0_4 := K0_3.wr W4 (Or.inl (List.mem_of_getElem? (i := 0) rfl))
  have N4 := Fr.snoc X4 N3 g_a1
  generalize hlc4 : (lc3 ++ [(⟨a1, Jvm.RoadKit.slotOf Z "com/example/sheaf/sheaf/engine/InstructionResult" "text" "Ljava/lang/String;"⟩ : Loc)] : List Loc) = lc4 at X4 N4
  have Z4 : n0 ≤ h4.size := Nat.le_trans Z3 (Keep.of_wr W4).1
  refine own_st (T' := T4) (g' := (mkF m 20 #[.val (.ref a1), .val (.long q2), .second, .val (.ref a4), .val (.ref a5), .val .null, .val (.ref a7)] [])) st4 ?_
  refine own_st (T' := T4) (g' := (mkF m 21 #[.val (.ref a1), .val (.long q2), .second, .val (.ref a4), .val (.ref a5), .val .null, .val (.ref a7)] [(.ref a1)])) (fun t k => XS.aloadN X4.here hx rfl (hb hby own_d10_20) rfl rfl k) ?_
  refine own_st (T' := T4) (g' := (mkF m 23 #[.val (.ref a1), .val (.long q2), .second, .val (.ref a4), .val (.ref a5), .val .null, .val (.ref a7)] [.null, (.ref a1)])) (fun t k => XS.aload X4.here hx rfl (hb hby own_d10_21) rfl rfl k) ?_
  obtain ⟨T5, h5, X5, e5, W5, st5⟩ := putF X4 hx hZ hown (host := "") (Or.inl (hw _ (List.mem_of_getElem? (i := 65) rfl))) Via.refl e4 F_order_a1 E_a1 (Or.inr ⟨(hw _ (List.mem_of_getElem? (i := 66) rfl)), rfl, hnm⟩) (hw _ (List.mem_of_getElem? (i := 43) rfl)) (ty := (.object "com/example/sheaf/sheaf/engine/OrderState")) (by decide) rfl rfl (g := (mkF m 23 #[.val (.ref a1), .val (.long q2), .second, .val (.ref a4), .val (.ref a5), .val .null, .val (.ref a7)] [.null, (.ref a1)])) rfl rfl (hb hby own_d10_23)
  have E_a1 := E_a1.wr W5
  have F_seq_a1 := F_seq_a1.other W5 (Or.inr (slot_ne (Or.inr (hw _ (List.mem_of_getElem? (i := 60) rfl))) (Or.inr (hw _ (List.mem_of_getElem? (i := 66) rfl))) (by decide) (t := .long) (t' := (.object "com/example/sheaf/sheaf/engine/OrderState")) (by decide) (by decide)))
  have F_failure_a1 := F_failure_a1.other W5 (Or.inr (slot_ne (Or.inr (hw _ (List.mem_of_getElem? (i := 62) rfl))) (Or.inr (hw _ (List.mem_of_getElem? (i := 66) rfl))) (by decide) (t := (.object "com/example/sheaf/sheaf/engine/Failure")) (t' := (.object "com/example/sheaf/sheaf/engine/OrderState")) (by decide) (by decide)))
  have F_text_a1 := F_text_a1.other W5 (Or.inr (slot_ne (Or.inr (hw _ (List.mem_of_getElem? (i := 64) rfl))) (Or.inr (hw _ (List.mem_of_getElem? (i := 66) rfl))) (by decide) (t := (.object "java/lang/String")) (t' := (.object "com/example/sheaf/sheaf/engine/OrderState")) (by decide) (by decide)))
  have F_order_a1 := F_order_a1.same W5
  have F_fills_a1 := F_fills_a1.other W5 (Or.inr (slot_ne (Or.inr (hw _ (List.mem_of_getElem? (i := 68) rfl))) (Or.inr (hw _ (List.mem_of_getElem? (i := 66) rfl))) (by decide) (t := (.object "java/util/List")) (t' := (.object "com/example/sheaf/sheaf/engine/OrderState")) (by decide) (by decide)))
  have K0_5 := K0_4.wr W5 (Or.inl (List.mem_of_getElem? (i := 0) rfl))
  have N5 := Fr.snoc X5 N4 g_a1
  generalize hlc5 : (lc4 ++ [(⟨a1, Jvm.RoadKit.slotOf Z "com/example/sheaf/sheaf/engine/InstructionResult" "order" "Lcom/example/sheaf/sheaf/engine/OrderState;"⟩ : Loc)] : List Loc) = lc5 at X5 N5
  have Z5 : n0 ≤ h5.size := Nat.le_trans Z4 (Keep.of_wr W5).1
  refine own_st (T' := T5) (g' := (mkF m 26 #[.val (.ref a1), .val (.long q2), .second, .val (.ref a4), .val (.ref a5), .val .null, .val (.ref a7)] [])) st5 ?_
  refine own_st (T' := T5) (g' := (mkF m 27 #[.val (.ref a1), .val (.long q2), .second, .val (.ref a4), .val (.ref a5), .val .null, .val (.ref a7)] [(.ref a1)])) (fun t k => XS.aloadN X5.here hx rfl (hb hby own_d10_26) rfl rfl k) ?_
  refine own_st (T' := T5) (g' := (mkF m 29 #[.val (.ref a1), .val (.long q2), .second, .val (.ref a4), .val (.ref a5), .val .null, .val (.ref a7)] [(.ref a7), (.ref a1)])) (fun t k => XS.aload X5.here hx rfl (hb hby own_d10_27) rfl rfl k) ?_
  obtain ⟨T6, h6, X6, e6, W6, st6⟩ := putF X5 hx hZ hown (host := "") (Or.inl (hw _ (List.mem_of_getElem? (i := 67) rfl))) Via.refl e5 F_fills_a1 E_a1 (Or.inr ⟨(hw _ (List.mem_of_getElem? (i := 68) rfl)), rfl, hnm⟩) (hw _ (List.mem_of_getElem? (i := 43) rfl)) (ty := (.object "java/util/List")) (by decide) rfl rfl (g := (mkF m 29 #[.val (.ref a1), .val (.long q2), .second, .val (.ref a4), .val (.ref a5), .val .null, .val (.ref a7)] [(.ref a7), (.ref a1)])) rfl rfl (hb hby own_d10_29)
  have E_a1 := E_a1.wr W6
  have F_seq_a1 := F_seq_a1.other W6 (Or.inr (slot_ne (Or.inr (hw _ (List.mem_of_getElem? (i := 60) rfl))) (Or.inr (hw _ (List.mem_of_getElem? (i := 68) rfl))) (by decide) (t := .long) (t' := (.object "java/util/List")) (by decide) (by decide)))
  have F_failure_a1 := F_failure_a1.other W6 (Or.inr (slot_ne (Or.inr (hw _ (List.mem_of_getElem? (i := 62) rfl))) (Or.inr (hw _ (List.mem_of_getElem? (i := 68) rfl))) (by decide) (t := (.object "com/example/sheaf/sheaf/engine/Failure")) (t' := (.object "java/util/List")) (by decide) (by decide)))
  have F_text_a1 := F_text_a1.other W6 (Or.inr (slot_ne (Or.inr (hw _ (List.mem_of_getElem? (i := 64) rfl))) (Or.inr (hw _ (List.mem_of_getElem? (i := 68) rfl))) (by decide) (t := (.object "java/lang/String")) (t' := (.object "java/util/List")) (by decide) (by decide)))
  have F_order_a1 := F_order_a1.other W6 (Or.inr (slot_ne (Or.inr (hw _ (List.mem_of_getElem? (i := 66) rfl))) (Or.inr (hw _ (List.mem_of_getElem? (i := 68) rfl))) (by decide) (t := (.object "com/example/sheaf/sheaf/engine/OrderState")) (t' := (.object "java/util/List")) (by decide) (by decide)))
  have F_fills_a1 := F_fills_a1.same W6
  have K0_6 := K0_5.wr W6 (Or.inl (List.mem_of_getElem? (i := 0) rfl))
  have N6 := Fr.snoc X6 N5 g_a1
  generalize hlc6 : (lc5 ++ [(⟨a1, Jvm.RoadKit.slotOf Z "com/example/sheaf/sheaf/engine/InstructionResult" "fills" "Ljava/util/List;"⟩ : Loc)] : List Loc) = lc6 at X6 N6
  have Z6 : n0 ≤ h6.size := Nat.le_trans Z5 (Keep.of_wr W6).1
  refine own_st (T' := T6) (g' := (mkF m 32 #[.val (.ref a1), .val (.long q2), .second, .val (.ref a4), .val (.ref a5), .val .null, .val (.ref a7)] [])) st6 ?_
  exact own_retV X6 hx hlk hret (hb hby own_d10_32) (by decide) (by decide) (by rw [e6]; exact ⟨rfl, N6, K0_6, E_a1, F_seq_a1, F_failure_a1, F_text_a1, F_order_a1, F_fills_a1⟩)
theorem own_d8_0 : decode prog_19_method_2_code 0 = .ok (.new 8, 3) := by decide +kernel
theorem own_d8_3 : decode prog_19_method_2_code 3 = .ok (.dup, 1) := by decide +kernel
theorem own_d8_4 : decode prog_19_method_2_code 4 = .ok (.lload_n 0, 1) := by decide +kernel
theorem own_d8_5 : decode prog_19_method_2_code 5 = .ok (.aload_n 2, 1) := by decide +kernel
theorem own_d8_6 : decode prog_19_method_2_code 6 = .ok (.aload_n 3, 1) := by decide +kernel
theorem own_d8_7 : decode prog_19_method_2_code 7 = .ok (.aconst_null, 1) := by decide +kernel
theorem own_d8_8 : decode prog_19_method_2_code 8 = .ok (.invokestatic 29, 3) := by decide +kernel
theorem own_d8_11 : decode prog_19_method_2_code 11 = .ok (.invokespecial 35, 3) := by decide +kernel
theorem own_d8_14 : decode prog_19_method_2_code 14 = .ok (.areturn, 1) := by decide +kernel
theorem own_pn8 : plainFor (⟨"com/example/sheaf/sheaf/engine/InstructionResult", "failed", "(JLcom/example/sheaf/sheaf/engine/Failure;Ljava/lang/String;)Lcom/example/sheaf/sheaf/engine/InstructionResult;"⟩ : MethodName) = true := plainFor_of_name (show plainName "com/example/sheaf/sheaf/engine/InstructionResult" = true by first | (simp [plainName, overriddenIn]; done) | decide +kernel)
theorem own_ef8t (m : MethodId) (q1 : Int64) (a3 : Addr) (a4 : Addr) : entryFrame m #[(.long q1), (.ref a3), (.ref a4)] 4 = (mkF m 0 #[.val (.long q1), .second, .val (.ref a3), .val (.ref a4)] []) := by first | (simp [entryFrame, mkF, argsToLocals, Value.category]; done) | rfl
set_option maxRecDepth 65536 in
set_option maxHeartbeats 40000000 in
theorem own_rm8t (l : Launch) (Z : State) (a0 : Array Value) (hw : ∀ d ∈ tables_1, d.before a0 Z = true) (h0 : Heap) (n0 : Nat) (Z0 : n0 ≤ h0.size) (q1 : Int64) (a3 : Addr) (a4 : Addr) (O : Old Z n0 h0) (s_EL : Addr) (S_EL : Sta Z Z.heap "java/util/ImmutableCollections" "EMPTY_LIST" "Ljava/util/ImmutableCollections$ListN;" (.ref s_EL)) :
    own_C l Z (⟨"com/example/sheaf/sheaf/engine/InstructionResult", "failed", "(JLcom/example/sheaf/sheaf/engine/Failure;Ljava/lang/String;)Lcom/example/sheaf/sheaf/engine/InstructionResult;"⟩ : MethodName) prog_19_method_2_code 4 (some (.object "com/example/sheaf/sheaf/engine/InstructionResult")) [] ({ frames := 3, cells := 1, slots := 5, locals := 60 } : Room) #[(.long q1), (.ref a3), (.ref a4)] h0 (own_qf Z q1 a3 (.ref a4) s_EL n0 h0) := by
  refine own_body own_pn8 (f0 := fun m => (mkF m 0 #[.val (.long q1), .second, .val (.ref a3), .val (.ref a4)] [])) (fun m => own_ef8t m q1 a3 a4) ?_
  intro p e s m below meth c s₁ hx hby hml hown hnm hret hlk hZ X0 e0
  change own_G p e below (own_F (own_qf Z q1 a3 (.ref a4) s_EL n0 h0) s 1 5) s₁ (mkF m 0 #[.val (.long q1), .second, .val (.ref a3), .val (.ref a4)] [])
  have N0 := Fr.nil n0
  obtain ⟨T1, h1, X1, e1, E1, A1, D1, -, st1⟩ := newO X0 hx hZ hown (hw _ (List.mem_of_getElem? (i := 42) rfl)) (hw _ (List.mem_of_getElem? (i := 43) rfl)) (hw _ (List.mem_of_getElem? (i := 40) rfl)) e0 (g := (mkF m 0 #[.val (.long q1), .second, .val (.ref a3), .val (.ref a4)] [])) rfl (hb hby own_d8_0) (by decide) (by decide)
  obtain ⟨b1, gb1⟩ : ∃ z, z = h0.size := ⟨_, rfl⟩
  rw [← gb1] at A1 D1 st1
  have g_b1 : n0 ≤ b1 := Nat.le_trans Z0 (Nat.le_of_eq gb1.symm)
  have Z1 : n0 ≤ h1.size := Nat.le_trans Z0 E1.1
  have sz_b1 : h0.size ≤ b1 := Nat.le_trans (Keep.refl h0 []).1 (Nat.le_of_eq gb1.symm)
  have K0_1 := (Keep.refl h0 []).ext E1
  have O := O.ext E1
  have E_b1 := A1
  have F_seq_b1 : Fld Z h1 b1 "com/example/sheaf/sheaf/engine/InstructionResult" "seq" "J" (.long (0 : Int64)) := D1 (Or.inr (hw _ (List.mem_of_getElem? (i := 60) rfl))) (ty := .long) (by decide)
  have F_failure_b1 : Fld Z h1 b1 "com/example/sheaf/sheaf/engine/InstructionResult" "failure" "Lcom/example/sheaf/sheaf/engine/Failure;" .null := D1 (Or.inr (hw _ (List.mem_of_getElem? (i := 62) rfl))) (ty := (.object "com/example/sheaf/sheaf/engine/Failure")) (by decide)
  have F_text_b1 : Fld Z h1 b1 "com/example/sheaf/sheaf/engine/InstructionResult" "text" "Ljava/lang/String;" .null := D1 (Or.inr (hw _ (List.mem_of_getElem? (i := 64) rfl))) (ty := (.object "java/lang/String")) (by decide)
  have F_order_b1 : Fld Z h1 b1 "com/example/sheaf/sheaf/engine/InstructionResult" "order" "Lcom/example/sheaf/sheaf/engine/OrderState;" .null := D1 (Or.inr (hw _ (List.mem_of_getElem? (i := 66) rfl))) (ty := (.object "com/example/sheaf/sheaf/engine/OrderState")) (by decide)
  have F_fills_b1 : Fld Z h1 b1 "com/example/sheaf/sheaf/engine/InstructionResult" "fills" "Ljava/util/List;" .null := D1 (Or.inr (hw _ (List.mem_of_getElem? (i := 68) rfl))) (ty := (.object "java/util/List")) (by decide)
  have X1 : Stand p l e ({ frames := 3, cells := 1, slots := 5, locals := 60 } : Room) s m #[(.long q1), (.ref a3), (.ref a4)] below meth c T1 [] 1 5 := X1
  refine own_st (T' := T1) (g' := (mkF m 3 #[.val (.long q1), .second, .val (.ref a3), .val (.ref a4)] [(.ref b1)])) st1 ?_
  refine own_st (T' := T1) (g' := (mkF m 4 #[.val (.long q1), .second, .val (.ref a3), .val (.ref a4)] [(.ref b1), (.ref b1)])) (fun t k => XS.dup X1.here hx rfl (hb hby own_d8_3) rfl rfl k) ?_
  refine own_st (T' := T1) (g' := (mkF m 5 #[.val (.long q1), .second, .val (.ref a3), .val (.ref a4)] [(.long q1), (.ref b1), (.ref b1)])) (fun t k => XS.lloadN X1.here hx rfl (hb hby own_d8_4) rfl k) ?_
  refine own_st (T' := T1) (g' := (mkF m 6 #[.val (.long q1), .second, .val (.ref a3), .val (.ref a4)] [(.ref a3), (.long q1), (.ref b1), (.ref b1)])) (fun t k => XS.aloadN X1.here hx rfl (hb hby own_d8_5) rfl rfl k) ?_
  refine own_st (T' := T1) (g' := (mkF m 7 #[.val (.long q1), .second, .val (.ref a3), .val (.ref a4)] [(.ref a4), (.ref a3), (.long q1), (.ref b1), (.ref b1)])) (fun t k => XS.aloadN X1.here hx rfl (hb hby own_d8_6) rfl rfl k) ?_
  refine own_st (T' := T1) (g' := (mkF m 8 #[.val (.long q1), .second, .val (.ref a3), .val (.ref a4)] [.null, (.ref a4), (.ref a3), (.long q1), (.ref b1), (.ref b1)])) (fun t k => XS.aconstNull X1.here hx rfl (hb hby own_d8_7) k) ?_
  obtain ⟨_, T2, L2, hQ2, X2, st2⟩ := own_callS (y := (⟨"java/util/List", "of", "()Ljava/util/List;"⟩ : MethodName)) (argsL := []) 7 [.null, (.ref a4), (.ref a3), (.long q1), (.ref b1), (.ref b1)] (own_rm9 l Z a0 hw h1 n0 Z1 O s_EL S_EL) X1 hx hZ hown (hw _ (List.mem_of_getElem? (i := 44) rfl)) (hw _ (List.mem_of_getElem? (i := 45) rfl)) (hw _ (List.mem_of_getElem? (i := 46) rfl)) (hw _ (List.mem_of_getElem? (i := 47) rfl)) (by decide) (by decide) (by decide) (by decide) (by decide) e1 (g := (mkF m 8 #[.val (.long q1), .second, .val (.ref a3), .val (.ref a4)] [.null, (.ref a4), (.ref a3), (.long q1), (.ref b1), (.ref b1)])) rfl (by rw [hml]; rfl) (lenOf own_pd8 rfl) rfl (by show 2 * 0 + _ ≤ _; exact Nat.le_of_eq rfl) (hb hby own_d8_8)
  obtain ⟨rfl, e2, rfl⟩ := hQ2
  have X2 : Stand p l e ({ frames := 3, cells := 1, slots := 5, locals := 60 } : Room) s m #[(.long q1), (.ref a3), (.ref a4)] below meth c T2 [] 1 5 := X2
  refine own_st (T' := T2) (g' := (mkF m 11 #[.val (.long q1), .second, .val (.ref a3), .val (.ref a4)] [(.ref s_EL), .null, (.ref a4), (.ref a3), (.long q1), (.ref b1), (.ref b1)])) st2 ?_
  obtain ⟨_, T3, L3, hQ3, X3, st3⟩ := own_callI (y := (⟨"com/example/sheaf/sheaf/engine/InstructionResult", "<init>", "(JLcom/example/sheaf/sheaf/engine/Failure;Ljava/lang/String;Lcom/example/sheaf/sheaf/engine/OrderState;Ljava/util/List;)V"⟩ : MethodName)) (argsL := [(.long q1), (.ref a3), (.ref a4), .null, (.ref s_EL)]) 1 [(.ref b1)] (own_rm10t l Z a0 hw h1 n0 Z1 b1 q1 a3 a4 s_EL E_b1 g_b1 _ F_seq_b1 _ F_failure_b1 _ F_text_b1 _ F_order_b1 _ F_fills_b1) X2 hx hZ hown rfl (hw _ (List.mem_of_getElem? (i := 50) rfl)) (hw _ (List.mem_of_getElem? (i := 51) rfl)) (hw _ (List.mem_of_getElem? (i := 52) rfl)) (hw _ (List.mem_of_getElem? (i := 40) rfl)) (by decide) (by decide) (by decide) (by decide) (by decide) e2 (g := (mkF m 11 #[.val (.long q1), .second, .val (.ref a3), .val (.ref a4)] [(.ref s_EL), .null, (.ref a4), (.ref a3), (.long q1), (.ref b1), (.ref b1)])) rfl (by rw [hml]; rfl) (lenOf own_pd9 rfl) rfl (by show 2 * 0 + _ ≤ _; exact Nat.le_of_eq rfl) (hb hby own_d8_11)
  obtain ⟨rfl, N3q, Kq3, E_b1, F_seq_b1, F_failure_b1, F_text_b1, F_order_b1, F_fills_b1⟩ := hQ3
  have K0_3 := K0_1.trans Kq3 (allS (Or.inr sz_b1) all0)
  have Z3 : n0 ≤ T3.heap.size := Nat.le_trans Z1 Kq3.1
  have O := O.keep Kq3 (allS g_b1 all0)
  have N3 := Fr.app N0 N3q
  generalize hlc3 : ([] ++ L3 : List Loc) = lc3 at X3 N3
  have X3 : Stand p l e ({ frames := 3, cells := 1, slots := 5, locals := 60 } : Room) s m #[(.long q1), (.ref a3), (.ref a4)] below meth c T3 lc3 1 5 := X3
  refine own_st (T' := T3) (g' := (mkF m 14 #[.val (.long q1), .second, .val (.ref a3), .val (.ref a4)] [(.ref b1)])) st3 ?_
  exact own_retR X3 hx hlk hret (hb hby own_d8_14) (by decide) (by decide) rfl ⟨b1, rfl, N3, own_ext K0_3, sz_b1, E_b1, F_seq_b1, F_failure_b1, F_text_b1, F_order_b1, F_fills_b1⟩
theorem own_ef10z (m : MethodId) (a1 : Addr) (q2 : Int64) (a4 : Addr) (a7 : Addr) : entryFrame m #[(.ref a1), (.long q2), (.ref a4), .null, .null, (.ref a7)] 7 = (mkF m 0 #[.val (.ref a1), .val (.long q2), .second, .val (.ref a4), .val .null, .val .null, .val (.ref a7)] []) := by first | (simp [entryFrame, mkF, argsToLocals, Value.category]; done) | rfl
set_option maxRecDepth 65536 in
set_option maxHeartbeats 40000000 in
theorem own_rm10z (l : Launch) (Z : State) (a0 : Array Value) (hw : ∀ d ∈ tables_1, d.before a0 Z = true) (h0 : Heap) (n0 : Nat) (Z0 : n0 ≤ h0.size) (a1 : Addr) (q2 : Int64) (a4 : Addr) (a7 : Addr) (E_a1 : Exa Z h0 a1 "com/example/sheaf/sheaf/engine/InstructionResult") (g_a1 : n0 ≤ a1) (u_seq : Value) (F_seq_a1 : Fld Z h0 a1 "com/example/sheaf/sheaf/engine/InstructionResult" "seq" "J" u_seq) (u_failure : Value) (F_failure_a1 : Fld Z h0 a1 "com/example/sheaf/sheaf/engine/InstructionResult" "failure" "Lcom/example/sheaf/sheaf/engine/Failure;" u_failure) (u_text : Value) (F_text_a1 : Fld Z h0 a1 "com/example/sheaf/sheaf/engine/InstructionResult" "text" "Ljava/lang/String;" u_text) (u_order : Value) (F_order_a1 : Fld Z h0 a1 "com/example/sheaf/sheaf/engine/InstructionResult" "order" "Lcom/example/sheaf/sheaf/engine/OrderState;" u_order) (u_fills : Value) (F_fills_a1 : Fld Z h0 a1 "com/example/sheaf/sheaf/engine/InstructionResult" "fills" "Ljava/util/List;" u_fills)  :
    own_C l Z (⟨"com/example/sheaf/sheaf/engine/InstructionResult", "<init>", "(JLcom/example/sheaf/sheaf/engine/Failure;Ljava/lang/String;Lcom/example/sheaf/sheaf/engine/OrderState;Ljava/util/List;)V"⟩ : MethodName) prog_19_method_1_code 7 none [] ({ frames := 2, cells := 0, slots := 0, locals := 30 } : Room) #[(.ref a1), (.long q2), (.ref a4), .null, .null, (.ref a7)] h0 (own_qi Z a1 q2 a4 .null a7 h0 n0) := by
  refine own_body own_pn10 (f0 := fun m => (mkF m 0 #[.val (.ref a1), .val (.long q2), .second, .val (.ref a4), .val .null, .val .null, .val (.ref a7)] [])) (fun m => own_ef10z m a1 q2 a4 a7) ?_
  intro p e s m below meth c s₁ hx hby hml hown hnm hret hlk hZ X0 e0
  change own_G p e below (own_F (own_qi Z a1 q2 a4 .null a7 h0 n0) s 0 0) s₁ (mkF m 0 #[.val (.ref a1), .val (.long q2), .second, .val (.ref a4), .val .null, .val .null, .val (.ref a7)] [])
  have N0 := Fr.nil n0
  refine own_st (T' := s₁) (g' := (mkF m 1 #[.val (.ref a1), .val (.long q2), .second, .val (.ref a4), .val .null, .val .null, .val (.ref a7)] [(.ref a1)])) (fun t k => XS.aloadN X0.here hx rfl (hb hby own_d10_0) rfl rfl k) ?_
  obtain ⟨_, T1, L1, hQ1, X1, st1⟩ := own_callI (y := (⟨"java/lang/Record", "<init>", "()V"⟩ : MethodName)) (argsL := []) 0 [] (own_rm11 l Z a0 hw h0 n0 Z0 a1) X0 hx hZ hown rfl (hw _ (List.mem_of_getElem? (i := 53) rfl)) (hw _ (List.mem_of_getElem? (i := 54) rfl)) (hw _ (List.mem_of_getElem? (i := 57) rfl)) (hw _ (List.mem_of_getElem? (i := 56) rfl)) (by decide) (by decide) (by decide) (by decide) (by decide) e0 (g := (mkF m 1 #[.val (.ref a1), .val (.long q2), .second, .val (.ref a4), .val .null, .val .null, .val (.ref a7)] [(.ref a1)])) rfl (by rw [hml]; rfl) (lenOf own_pd7 rfl) rfl (by show 2 * 0 + _ ≤ _; exact Nat.le_of_eq rfl) (hb hby own_d10_1)
  obtain ⟨rfl, e1, rfl⟩ := hQ1
  have X1 : Stand p l e ({ frames := 2, cells := 0, slots := 0, locals := 30 } : Room) s m #[(.ref a1), (.long q2), (.ref a4), .null, .null, (.ref a7)] below meth c T1 [] 0 0 := X1
  refine own_st (T' := T1) (g' := (mkF m 4 #[.val (.ref a1), .val (.long q2), .second, .val (.ref a4), .val .null, .val .null, .val (.ref a7)] [])) st1 ?_
  refine own_st (T' := T1) (g' := (mkF m 5 #[.val (.ref a1), .val (.long q2), .second, .val (.ref a4), .val .null, .val .null, .val (.ref a7)] [(.ref a1)])) (fun t k => XS.aloadN X1.here hx rfl (hb hby own_d10_4) rfl rfl k) ?_
  refine own_st (T' := T1) (g' := (mkF m 6 #[.val (.ref a1), .val (.long q2), .second, .val (.ref a4), .val .null, .val .null, .val (.ref a7)] [(.long q2), (.ref a1)])) (fun t k => XS.lloadN X1.here hx rfl (hb hby own_d10_5) rfl k) ?_
  obtain ⟨T2, h2, X2, e2, W2, st2⟩ := putF X1 hx hZ hown (host := "") (Or.inl (hw _ (List.mem_of_getElem? (i := 59) rfl))) Via.refl e1 F_seq_a1 E_a1 (Or.inr ⟨(hw _ (List.mem_of_getElem? (i := 60) rfl)), rfl, hnm⟩) (hw _ (List.mem_of_getElem? (i := 43) rfl)) (ty := .long) (by decide) rfl rfl (g := (mkF m 6 #[.val (.ref a1), .val (.long q2), .second, .val (.ref a4), .val .null, .val .null, .val (.ref a7)] [(.long q2), (.ref a1)])) rfl rfl (hb hby own_d10_6)
  have E_a1 := E_a1.wr W2
  have F_seq_a1 := F_seq_a1.same W2
  have F_failure_a1 := F_failure_a1.other W2 (Or.inr (slot_ne (Or.inr (hw _ (List.mem_of_getElem? (i := 62) rfl))) (Or.inr (hw _ (List.mem_of_getElem? (i := 60) rfl))) (by decide) (t := (.object "com/example/sheaf/sheaf/engine/Failure")) (t' := .long) (by decide) (by decide)))
  have F_text_a1 := F_text_a1.other W2 (Or.inr (slot_ne (Or.inr (hw _ (List.mem_of_getElem? (i := 64) rfl))) (Or.inr (hw _ (List.mem_of_getElem? (i := 60) rfl))) (by decide) (t := (.object "java/lang/String")) (t' := .long) (by decide) (by decide)))
  have F_order_a1 := F_order_a1.other W2 (Or.inr (slot_ne (Or.inr (hw _ (List.mem_of_getElem? (i := 66) rfl))) (Or.inr (hw _ (List.mem_of_getElem? (i := 60) rfl))) (by decide) (t := (.object "com/example/sheaf/sheaf/engine/OrderState")) (t' := .long) (by decide) (by decide)))
  have F_fills_a1 := F_fills_a1.other W2 (Or.inr (slot_ne (Or.inr (hw _ (List.mem_of_getElem? (i := 68) rfl))) (Or.inr (hw _ (List.mem_of_getElem? (i := 60) rfl))) (by decide) (t := (.object "java/util/List")) (t' := .long) (by decide) (by decide)))
  have K0_2 := (Keep.refl h0 [a1]).wr W2 (Or.inl (List.mem_of_getElem? (i := 0) rfl))
  have N2 := Fr.snoc X2 N0 g_a1
  generalize hlc2 : ([] ++ [(⟨a1, Jvm.RoadKit.slotOf Z "com/example/sheaf/sheaf/engine/InstructionResult" "seq" "J"⟩ : Loc)] : List Loc) = lc2 at X2 N2
  have Z2 : n0 ≤ h2.size := Nat.le_trans Z0 (Keep.of_wr W2).1
  refine own_st (T' := T2) (g' := (mkF m 9 #[.val (.ref a1), .val (.long q2), .second, .val (.ref a4), .val .null, .val .null, .val (.ref a7)] [])) st2 ?_
  refine own_st (T' := T2) (g' := (mkF m 10 #[.val (.ref a1), .val (.long q2), .second, .val (.ref a4), .val .null, .val .null, .val (.ref a7)] [(.ref a1)])) (fun t k => XS.aloadN X2.here hx rfl (hb hby own_d10_9) rfl rfl k) ?_
  refine own_st (T' := T2) (g' := (mkF m 11 #[.val (.ref a1), .val (.long q2), .second, .val (.ref a4), .val .null, .val .null, .val (.ref a7)] [(.ref a4), (.ref a1)])) (fun t k => XS.aloadN X2.here hx rfl (hb hby own_d10_10) rfl rfl k) ?_
  obtain ⟨T3, h3, X3, e3, W3, st3⟩ := putF X2 hx hZ hown (host := "") (Or.inl (hw _ (List.mem_of_getElem? (i := 61) rfl))) Via.refl e2 F_failure_a1 E_a1 (Or.inr ⟨(hw _ (List.mem_of_getElem? (i := 62) rfl)), rfl, hnm⟩) (hw _ (List.mem_of_getElem? (i := 43) rfl)) (ty := (.object "com/example/sheaf/sheaf/engine/Failure")) (by decide) rfl rfl (g := (mkF m 11 #[.val (.ref a1), .val (.long q2), .second, .val (.ref a4), .val .null, .val .null, .val (.ref a7)] [(.ref a4), (.ref a1)])) rfl rfl (hb hby own_d10_11)
  have E_a1 := E_a1.wr W3
  have F_seq_a1 := F_seq_a1.other W3 (Or.inr (slot_ne (Or.inr (hw _ (List.mem_of_getElem? (i := 60) rfl))) (Or.inr (hw _ (List.mem_of_getElem? (i := 62) rfl))) (by decide) (t := .long) (t' := (.object "com/example/sheaf/sheaf/engine/Failure")) (by decide) (by decide)))
  have F_failure_a1 := F_failure_a1.same W3
  have F_text_a1 := F_text_a1.other W3 (Or.inr (slot_ne (Or.inr (hw _ (List.mem_of_getElem? (i := 64) rfl))) (Or.inr (hw _ (List.mem_of_getElem? (i := 62) rfl))) (by decide) (t := (.object "java/lang/String")) (t' := (.object "com/example/sheaf/sheaf/engine/Failure")) (by decide) (by decide)))
  have F_order_a1 := F_order_a1.other W3 (Or.inr (slot_ne (Or.inr (hw _ (List.mem_of_getElem? (i := 66) rfl))) (Or.inr (hw _ (List.mem_of_getElem? (i := 62) rfl))) (by decide) (t := (.object "com/example/sheaf/sheaf/engine/OrderState")) (t' := (.object "com/example/sheaf/sheaf/engine/Failure")) (by decide) (by decide)))
  have F_fills_a1 := F_fills_a1.other W3 (Or.inr (slot_ne (Or.inr (hw _ (List.mem_of_getElem? (i := 68) rfl))) (Or.inr (hw _ (List.mem_of_getElem? (i := 62) rfl))) (by decide) (t := (.object "java/util/List")) (t' := (.object "com/example/sheaf/sheaf/engine/Failure")) (by decide) (by decide)))
  have K0_3 := K0_2.wr W3 (Or.inl (List.mem_of_getElem? (i := 0) rfl))
  have N3 := Fr.snoc X3 N2 g_a1
  generalize hlc3 : (lc2 ++ [(⟨a1, Jvm.RoadKit.slotOf Z "com/example/sheaf/sheaf/engine/InstructionResult" "failure" "Lcom/example/sheaf/sheaf/engine/Failure;"⟩ : Loc)] : List Loc) = lc3 at X3 N3
  have Z3 : n0 ≤ h3.size := Nat.le_trans Z2 (Keep.of_wr W3).1
  refine own_st (T' := T3) (g' := (mkF m 14 #[.val (.ref a1), .val (.long q2), .second, .val (.ref a4), .val .null, .val .null, .val (.ref a7)] [])) st3 ?_
  refine own_st (T' := T3) (g' := (mkF m 15 #[.val (.ref a1), .val (.long q2), .second, .val (.ref a4), .val .null, .val .null, .val (.ref a7)] [(.ref a1)])) (fun t k => XS.aloadN X3.here hx rfl (hb hby own_d10_14) rfl rfl k) ?_
  refine own_st (T' := T3) (g' := (mkF m 17 #[.val (.ref a1), .val (.long q2), .second, .val (.ref a4), .val .null, .val .null, .val (.ref a7)] [.null, (.ref a1)])) (fun t k => XS.aload X3.here hx rfl (hb hby own_d10_15) rfl rfl k) ?_
  obtain ⟨T4, h4, X4, e4, W4, st4⟩ := putF X3 hx hZ hown (host := "") (Or.inl (hw _ (List.mem_of_getElem? (i := 63) rfl))) Via.refl e3 F_text_a1 E_a1 (Or.inr ⟨(hw _ (List.mem_of_getElem? (i := 64) rfl)), rfl, hnm⟩) (hw _ (List.mem_of_getElem? (i := 43) rfl)) (ty := (.object "java/lang/String")) (by decide) rfl rfl (g := (mkF m 17 #[.val (.ref a1), .val (.long q2), .second, .val (.ref a4), .val .null, .val .null, .val (.ref a7)] [.null, (.ref a1)])) rfl rfl (hb hby own_d10_17)
  have E_a1 := E_a1.wr W4
  have F_seq_a1 := F_seq_a1.other W4 (Or.inr (slot_ne (Or.inr (hw _ (List.mem_of_getElem? (i := 60) rfl))) (Or.inr (hw _ (List.mem_of_getElem? (i := 64) rfl))) (by decide) (t := .long) (t' := (.object "java/lang/String")) (by decide) (by decide)))
  have F_failure_a1 := F_failure_a1.other W4 (Or.inr (slot_ne (Or.inr (hw _ (List.mem_of_getElem? (i := 62) rfl))) (Or.inr (hw _ (List.mem_of_getElem? (i := 64) rfl))) (by decide) (t := (.object "com/example/sheaf/sheaf/engine/Failure")) (t' := (.object "java/lang/String")) (by decide) (by decide)))
  have F_text_a1 := F_text_a1.same W4
  have F_order_a1 := F_order_a1.other W4 (Or.inr (slot_ne (Or.inr (hw _ (List.mem_of_getElem? (i := 66) rfl))) (Or.inr (hw _ (List.mem_of_getElem? (i := 64) rfl))) (by decide) (t := (.object "com/example/sheaf/sheaf/engine/OrderState")) (t' := (.object "java/lang/String")) (by decide) (by decide)))
  have F_fills_a1 := F_fills_a1.other W4 (Or.inr (slot_ne (Or.inr (hw _ (List.mem_of_getElem? (i := 68) rfl))) (Or.inr (hw _ (List.mem_of_getElem? (i := 64) rfl))) (by decide) (t := (.object "java/util/List")) (t' := (.object "java/lang/String")) (by decide) (by decide)))
  have K0_4 := K0_3.wr W4 (Or.inl (List.mem_of_getElem? (i := 0) rfl))
  have N4 := Fr.snoc X4 N3 g_a1
  generalize hlc4 : (lc3 ++ [(⟨a1, Jvm.RoadKit.slotOf Z "com/example/sheaf/sheaf/engine/InstructionResult" "text" "Ljava/lang/String;"⟩ : Loc)] : List Loc) = lc4 at X4 N4
  have Z4 : n0 ≤ h4.size := Nat.le_trans Z3 (Keep.of_wr W4).1
  refine own_st (T' := T4) (g' := (mkF m 20 #[.val (.ref a1), .val (.long q2), .second, .val (.ref a4), .val .null, .val .null, .val (.ref a7)] [])) st4 ?_
  refine own_st (T' := T4) (g' := (mkF m 21 #[.val (.ref a1), .val (.long q2), .second, .val (.ref a4), .val .null, .val .null, .val (.ref a7)] [(.ref a1)])) (fun t k => XS.aloadN X4.here hx rfl (hb hby own_d10_20) rfl rfl k) ?_
  refine own_st (T' := T4) (g' := (mkF m 23 #[.val (.ref a1), .val (.long q2), .second, .val (.ref a4), .val .null, .val .null, .val (.ref a7)] [.null, (.ref a1)])) (fun t k => XS.aload X4.here hx rfl (hb hby own_d10_21) rfl rfl k) ?_
  obtain ⟨T5, h5, X5, e5, W5, st5⟩ := putF X4 hx hZ hown (host := "") (Or.inl (hw _ (List.mem_of_getElem? (i := 65) rfl))) Via.refl e4 F_order_a1 E_a1 (Or.inr ⟨(hw _ (List.mem_of_getElem? (i := 66) rfl)), rfl, hnm⟩) (hw _ (List.mem_of_getElem? (i := 43) rfl)) (ty := (.object "com/example/sheaf/sheaf/engine/OrderState")) (by decide) rfl rfl (g := (mkF m 23 #[.val (.ref a1), .val (.long q2), .second, .val (.ref a4), .val .null, .val .null, .val (.ref a7)] [.null, (.ref a1)])) rfl rfl (hb hby own_d10_23)
  have E_a1 := E_a1.wr W5
  have F_seq_a1 := F_seq_a1.other W5 (Or.inr (slot_ne (Or.inr (hw _ (List.mem_of_getElem? (i := 60) rfl))) (Or.inr (hw _ (List.mem_of_getElem? (i := 66) rfl))) (by decide) (t := .long) (t' := (.object "com/example/sheaf/sheaf/engine/OrderState")) (by decide) (by decide)))
  have F_failure_a1 := F_failure_a1.other W5 (Or.inr (slot_ne (Or.inr (hw _ (List.mem_of_getElem? (i := 62) rfl))) (Or.inr (hw _ (List.mem_of_getElem? (i := 66) rfl))) (by decide) (t := (.object "com/example/sheaf/sheaf/engine/Failure")) (t' := (.object "com/example/sheaf/sheaf/engine/OrderState")) (by decide) (by decide)))
  have F_text_a1 := F_text_a1.other W5 (Or.inr (slot_ne (Or.inr (hw _ (List.mem_of_getElem? (i := 64) rfl))) (Or.inr (hw _ (List.mem_of_getElem? (i := 66) rfl))) (by decide) (t := (.object "java/lang/String")) (t' := (.object "com/example/sheaf/sheaf/engine/OrderState")) (by decide) (by decide)))
  have F_order_a1 := F_order_a1.same W5
  have F_fills_a1 := F_fills_a1.other W5 (Or.inr (slot_ne (Or.inr (hw _ (List.mem_of_getElem? (i := 68) rfl))) (Or.inr (hw _ (List.mem_of_getElem? (i := 66) rfl))) (by decide) (t := (.object "java/util/List")) (t' := (.object "com/example/sheaf/sheaf/engine/OrderState")) (by decide) (by decide)))
  have K0_5 := K0_4.wr W5 (Or.inl (List.mem_of_getElem? (i := 0) rfl))
  have N5 := Fr.snoc X5 N4 g_a1
  generalize hlc5 : (lc4 ++ [(⟨a1, Jvm.RoadKit.slotOf Z "com/example/sheaf/sheaf/engine/InstructionResult" "order" "Lcom/example/sheaf/sheaf/engine/OrderState;"⟩ : Loc)] : List Loc) = lc5 at X5 N5
  have Z5 : n0 ≤ h5.size := Nat.le_trans Z4 (Keep.of_wr W5).1
  refine own_st (T' := T5) (g' := (mkF m 26 #[.val (.ref a1), .val (.long q2), .second, .val (.ref a4), .val .null, .val .null, .val (.ref a7)] [])) st5 ?_
  refine own_st (T' := T5) (g' := (mkF m 27 #[.val (.ref a1), .val (.long q2), .second, .val (.ref a4), .val .null, .val .null, .val (.ref a7)] [(.ref a1)])) (fun t k => XS.aloadN X5.here hx rfl (hb hby own_d10_26) rfl rfl k) ?_
  refine own_st (T' := T5) (g' := (mkF m 29 #[.val (.ref a1), .val (.long q2), .second, .val (.ref a4), .val .null, .val .null, .val (.ref a7)] [(.ref a7), (.ref a1)])) (fun t k => XS.aload X5.here hx rfl (hb hby own_d10_27) rfl rfl k) ?_
  obtain ⟨T6, h6, X6, e6, W6, st6⟩ := putF X5 hx hZ hown (host := "") (Or.inl (hw _ (List.mem_of_getElem? (i := 67) rfl))) Via.refl e5 F_fills_a1 E_a1 (Or.inr ⟨(hw _ (List.mem_of_getElem? (i := 68) rfl)), rfl, hnm⟩) (hw _ (List.mem_of_getElem? (i := 43) rfl)) (ty := (.object "java/util/List")) (by decide) rfl rfl (g := (mkF m 29 #[.val (.ref a1), .val (.long q2), .second, .val (.ref a4), .val .null, .val .null, .val (.ref a7)] [(.ref a7), (.ref a1)])) rfl rfl (hb hby own_d10_29)
  have E_a1 := E_a1.wr W6
  have F_seq_a1 := F_seq_a1.other W6 (Or.inr (slot_ne (Or.inr (hw _ (List.mem_of_getElem? (i := 60) rfl))) (Or.inr (hw _ (List.mem_of_getElem? (i := 68) rfl))) (by decide) (t := .long) (t' := (.object "java/util/List")) (by decide) (by decide)))
  have F_failure_a1 := F_failure_a1.other W6 (Or.inr (slot_ne (Or.inr (hw _ (List.mem_of_getElem? (i := 62) rfl))) (Or.inr (hw _ (List.mem_of_getElem? (i := 68) rfl))) (by decide) (t := (.object "com/example/sheaf/sheaf/engine/Failure")) (t' := (.object "java/util/List")) (by decide) (by decide)))
  have F_text_a1 := F_text_a1.other W6 (Or.inr (slot_ne (Or.inr (hw _ (List.mem_of_getElem? (i := 64) rfl))) (Or.inr (hw _ (List.mem_of_getElem? (i := 68) rfl))) (by decide) (t := (.object "java/lang/String")) (t' := (.object "java/util/List")) (by decide) (by decide)))
  have F_order_a1 := F_order_a1.other W6 (Or.inr (slot_ne (Or.inr (hw _ (List.mem_of_getElem? (i := 66) rfl))) (Or.inr (hw _ (List.mem_of_getElem? (i := 68) rfl))) (by decide) (t := (.object "com/example/sheaf/sheaf/engine/OrderState")) (t' := (.object "java/util/List")) (by decide) (by decide)))
  have F_fills_a1 := F_fills_a1.same W6
  have K0_6 := K0_5.wr W6 (Or.inl (List.mem_of_getElem? (i := 0) rfl))
  have N6 := Fr.snoc X6 N5 g_a1
  generalize hlc6 : (lc5 ++ [(⟨a1, Jvm.RoadKit.slotOf Z "com/example/sheaf/sheaf/engine/InstructionResult" "fills" "Ljava/util/List;"⟩ : Loc)] : List Loc) = lc6 at X6 N6
  have Z6 : n0 ≤ h6.size := Nat.le_trans Z5 (Keep.of_wr W6).1
  refine own_st (T' := T6) (g' := (mkF m 32 #[.val (.ref a1), .val (.long q2), .second, .val (.ref a4), .val .null, .val .null, .val (.ref a7)] [])) st6 ?_
  exact own_retV X6 hx hlk hret (hb hby own_d10_32) (by decide) (by decide) (by rw [e6]; exact ⟨rfl, N6, K0_6, E_a1, F_seq_a1, F_failure_a1, F_text_a1, F_order_a1, F_fills_a1⟩)
theorem own_ef8z (m : MethodId) (q1 : Int64) (a3 : Addr) : entryFrame m #[(.long q1), (.ref a3), .null] 4 = (mkF m 0 #[.val (.long q1), .second, .val (.ref a3), .val .null] []) := by first | (simp [entryFrame, mkF, argsToLocals, Value.category]; done) | rfl
set_option maxRecDepth 65536 in
set_option maxHeartbeats 40000000 in
theorem own_rm8z (l : Launch) (Z : State) (a0 : Array Value) (hw : ∀ d ∈ tables_1, d.before a0 Z = true) (h0 : Heap) (n0 : Nat) (Z0 : n0 ≤ h0.size) (q1 : Int64) (a3 : Addr) (O : Old Z n0 h0) (s_EL : Addr) (S_EL : Sta Z Z.heap "java/util/ImmutableCollections" "EMPTY_LIST" "Ljava/util/ImmutableCollections$ListN;" (.ref s_EL)) :
    own_C l Z (⟨"com/example/sheaf/sheaf/engine/InstructionResult", "failed", "(JLcom/example/sheaf/sheaf/engine/Failure;Ljava/lang/String;)Lcom/example/sheaf/sheaf/engine/InstructionResult;"⟩ : MethodName) prog_19_method_2_code 4 (some (.object "com/example/sheaf/sheaf/engine/InstructionResult")) [] ({ frames := 3, cells := 1, slots := 5, locals := 60 } : Room) #[(.long q1), (.ref a3), .null] h0 (own_qf Z q1 a3 .null s_EL n0 h0) := by
  refine own_body own_pn8 (f0 := fun m => (mkF m 0 #[.val (.long q1), .second, .val (.ref a3), .val .null] [])) (fun m => own_ef8z m q1 a3) ?_
  intro p e s m below meth c s₁ hx hby hml hown hnm hret hlk hZ X0 e0
  change own_G p e below (own_F (own_qf Z q1 a3 .null s_EL n0 h0) s 1 5) s₁ (mkF m 0 #[.val (.long q1), .second, .val (.ref a3), .val .null] [])
  have N0 := Fr.nil n0
  obtain ⟨T1, h1, X1, e1, E1, A1, D1, -, st1⟩ := newO X0 hx hZ hown (hw _ (List.mem_of_getElem? (i := 42) rfl)) (hw _ (List.mem_of_getElem? (i := 43) rfl)) (hw _ (List.mem_of_getElem? (i := 40) rfl)) e0 (g := (mkF m 0 #[.val (.long q1), .second, .val (.ref a3), .val .null] [])) rfl (hb hby own_d8_0) (by decide) (by decide)
  obtain ⟨b1, gb1⟩ : ∃ z, z = h0.size := ⟨_, rfl⟩
  rw [← gb1] at A1 D1 st1
  have g_b1 : n0 ≤ b1 := Nat.le_trans Z0 (Nat.le_of_eq gb1.symm)
  have Z1 : n0 ≤ h1.size := Nat.le_trans Z0 E1.1
  have sz_b1 : h0.size ≤ b1 := Nat.le_trans (Keep.refl h0 []).1 (Nat.le_of_eq gb1.symm)
  have K0_1 := (Keep.refl h0 []).ext E1
  have O := O.ext E1
  have E_b1 := A1
  have F_seq_b1 : Fld Z h1 b1 "com/example/sheaf/sheaf/engine/InstructionResult" "seq" "J" (.long (0 : Int64)) := D1 (Or.inr (hw _ (List.mem_of_getElem? (i := 60) rfl))) (ty := .long) (by decide)
  have F_failure_b1 : Fld Z h1 b1 "com/example/sheaf/sheaf/engine/InstructionResult" "failure" "Lcom/example/sheaf/sheaf/engine/Failure;" .null := D1 (Or.inr (hw _ (List.mem_of_getElem? (i := 62) rfl))) (ty := (.object "com/example/sheaf/sheaf/engine/Failure")) (by decide)
  have F_text_b1 : Fld Z h1 b1 "com/example/sheaf/sheaf/engine/InstructionResult" "text" "Ljava/lang/String;" .null := D1 (Or.inr (hw _ (List.mem_of_getElem? (i := 64) rfl))) (ty := (.object "java/lang/String")) (by decide)
  have F_order_b1 : Fld Z h1 b1 "com/example/sheaf/sheaf/engine/InstructionResult" "order" "Lcom/example/sheaf/sheaf/engine/OrderState;" .null := D1 (Or.inr (hw _ (List.mem_of_getElem? (i := 66) rfl))) (ty := (.object "com/example/sheaf/sheaf/engine/OrderState")) (by decide)
  have F_fills_b1 : Fld Z h1 b1 "com/example/sheaf/sheaf/engine/InstructionResult" "fills" "Ljava/util/List;" .null := D1 (Or.inr (hw _ (List.mem_of_getElem? (i := 68) rfl))) (ty := (.object "java/util/List")) (by decide)
  have X1 : Stand p l e ({ frames := 3, cells := 1, slots := 5, locals := 60 } : Room) s m #[(.long q1), (.ref a3), .null] below meth c T1 [] 1 5 := X1
  refine own_st (T' := T1) (g' := (mkF m 3 #[.val (.long q1), .second, .val (.ref a3), .val .null] [(.ref b1)])) st1 ?_
  refine own_st (T' := T1) (g' := (mkF m 4 #[.val (.long q1), .second, .val (.ref a3), .val .null] [(.ref b1), (.ref b1)])) (fun t k => XS.dup X1.here hx rfl (hb hby own_d8_3) rfl rfl k) ?_
  refine own_st (T' := T1) (g' := (mkF m 5 #[.val (.long q1), .second, .val (.ref a3), .val .null] [(.long q1), (.ref b1), (.ref b1)])) (fun t k => XS.lloadN X1.here hx rfl (hb hby own_d8_4) rfl k) ?_
  refine own_st (T' := T1) (g' := (mkF m 6 #[.val (.long q1), .second, .val (.ref a3), .val .null] [(.ref a3), (.long q1), (.ref b1), (.ref b1)])) (fun t k => XS.aloadN X1.here hx rfl (hb hby own_d8_5) rfl rfl k) ?_
  refine own_st (T' := T1) (g' := (mkF m 7 #[.val (.long q1), .second, .val (.ref a3), .val .null] [.null, (.ref a3), (.long q1), (.ref b1), (.ref b1)])) (fun t k => XS.aloadN X1.here hx rfl (hb hby own_d8_6) rfl rfl k) ?_
  refine own_st (T' := T1) (g' := (mkF m 8 #[.val (.long q1), .second, .val (.ref a3), .val .null] [.null, .null, (.ref a3), (.long q1), (.ref b1), (.ref b1)])) (fun t k => XS.aconstNull X1.here hx rfl (hb hby own_d8_7) k) ?_
  obtain ⟨_, T2, L2, hQ2, X2, st2⟩ := own_callS (y := (⟨"java/util/List", "of", "()Ljava/util/List;"⟩ : MethodName)) (argsL := []) 7 [.null, .null, (.ref a3), (.long q1), (.ref b1), (.ref b1)] (own_rm9 l Z a0 hw h1 n0 Z1 O s_EL S_EL) X1 hx hZ hown (hw _ (List.mem_of_getElem? (i := 44) rfl)) (hw _ (List.mem_of_getElem? (i := 45) rfl)) (hw _ (List.mem_of_getElem? (i := 46) rfl)) (hw _ (List.mem_of_getElem? (i := 47) rfl)) (by decide) (by decide) (by decide) (by decide) (by decide) e1 (g := (mkF m 8 #[.val (.long q1), .second, .val (.ref a3), .val .null] [.null, .null, (.ref a3), (.long q1), (.ref b1), (.ref b1)])) rfl (by rw [hml]; rfl) (lenOf own_pd8 rfl) rfl (by show 2 * 0 + _ ≤ _; exact Nat.le_of_eq rfl) (hb hby own_d8_8)
  obtain ⟨rfl, e2, rfl⟩ := hQ2
  have X2 : Stand p l e ({ frames := 3, cells := 1, slots := 5, locals := 60 } : Room) s m #[(.long q1), (.ref a3), .null] below meth c T2 [] 1 5 := X2
  refine own_st (T' := T2) (g' := (mkF m 11 #[.val (.long q1), .second, .val (.ref a3), .val .null] [(.ref s_EL), .null, .null, (.ref a3), (.long q1), (.ref b1), (.ref b1)])) st2 ?_
  obtain ⟨_, T3, L3, hQ3, X3, st3⟩ := own_callI (y := (⟨"com/example/sheaf/sheaf/engine/InstructionResult", "<init>", "(JLcom/example/sheaf/sheaf/engine/Failure;Ljava/lang/String;Lcom/example/sheaf/sheaf/engine/OrderState;Ljava/util/List;)V"⟩ : MethodName)) (argsL := [(.long q1), (.ref a3), .null, .null, (.ref s_EL)]) 1 [(.ref b1)] (own_rm10z l Z a0 hw h1 n0 Z1 b1 q1 a3 s_EL E_b1 g_b1 _ F_seq_b1 _ F_failure_b1 _ F_text_b1 _ F_order_b1 _ F_fills_b1) X2 hx hZ hown rfl (hw _ (List.mem_of_getElem? (i := 50) rfl)) (hw _ (List.mem_of_getElem? (i := 51) rfl)) (hw _ (List.mem_of_getElem? (i := 52) rfl)) (hw _ (List.mem_of_getElem? (i := 40) rfl)) (by decide) (by decide) (by decide) (by decide) (by decide) e2 (g := (mkF m 11 #[.val (.long q1), .second, .val (.ref a3), .val .null] [(.ref s_EL), .null, .null, (.ref a3), (.long q1), (.ref b1), (.ref b1)])) rfl (by rw [hml]; rfl) (lenOf own_pd9 rfl) rfl (by show 2 * 0 + _ ≤ _; exact Nat.le_of_eq rfl) (hb hby own_d8_11)
  obtain ⟨rfl, N3q, Kq3, E_b1, F_seq_b1, F_failure_b1, F_text_b1, F_order_b1, F_fills_b1⟩ := hQ3
  have K0_3 := K0_1.trans Kq3 (allS (Or.inr sz_b1) all0)
  have Z3 : n0 ≤ T3.heap.size := Nat.le_trans Z1 Kq3.1
  have O := O.keep Kq3 (allS g_b1 all0)
  have N3 := Fr.app N0 N3q
  generalize hlc3 : ([] ++ L3 : List Loc) = lc3 at X3 N3
  have X3 : Stand p l e ({ frames := 3, cells := 1, slots := 5, locals := 60 } : Room) s m #[(.long q1), (.ref a3), .null] below meth c T3 lc3 1 5 := X3
  refine own_st (T' := T3) (g' := (mkF m 14 #[.val (.long q1), .second, .val (.ref a3), .val .null] [(.ref b1)])) st3 ?_
  exact own_retR X3 hx hlk hret (hb hby own_d8_14) (by decide) (by decide) rfl ⟨b1, rfl, N3, own_ext K0_3, sz_b1, E_b1, F_seq_b1, F_failure_b1, F_text_b1, F_order_b1, F_fills_b1⟩
theorem own_d14_0 : decode prog_19_method_6_code 0 = .ok (.aload_n 0, 1) := by decide +kernel
theorem own_d14_1 : decode prog_19_method_6_code 1 = .ok (.getfield 7, 3) := by decide +kernel
theorem own_d14_4 : decode prog_19_method_6_code 4 = .ok (.lreturn, 1) := by decide +kernel
theorem own_pn14 : plainFor (⟨"com/example/sheaf/sheaf/engine/InstructionResult", "seq", "()J"⟩ : MethodName) = true := plainFor_of_name (show plainName "com/example/sheaf/sheaf/engine/InstructionResult" = true by first | (simp [plainName, overriddenIn]; done) | decide +kernel)
theorem own_ef14 (m : MethodId) (a1 : Addr) : entryFrame m #[(.ref a1)] 1 = (mkF m 0 #[.val (.ref a1)] []) := by first | (simp [entryFrame, mkF, argsToLocals, Value.category]; done) | rfl
set_option maxRecDepth 65536 in
set_option maxHeartbeats 40000000 in
theorem own_rm14 (l : Launch) (Z : State) (a0 : Array Value) (hw : ∀ d ∈ tables_1, d.before a0 Z = true) (h0 : Heap) (n0 : Nat) (Z0 : n0 ≤ h0.size) (a1 : Addr) (z : Int64) (F_seq_a1 : Fld Z h0 a1 "com/example/sheaf/sheaf/engine/InstructionResult" "seq" "J" (.long z)) :
    own_C l Z (⟨"com/example/sheaf/sheaf/engine/InstructionResult", "seq", "()J"⟩ : MethodName) prog_19_method_6_code 1 (some .long) [] ({ frames := 0, cells := 0, slots := 0, locals := 0 } : Room) #[(.ref a1)] h0 (own_P (.long z) h0) := by
  refine own_body own_pn14 (f0 := fun m => (mkF m 0 #[.val (.ref a1)] [])) (fun m => own_ef14 m a1) ?_
  intro p e s m below meth c s₁ hx hby hml hown hnm hret hlk hZ X0 e0
  change own_G p e below (own_F (own_P (.long z) h0) s 0 0) s₁ (mkF m 0 #[.val (.ref a1)] [])
  have N0 := Fr.nil n0
  refine own_st (T' := s₁) (g' := (mkF m 1 #[.val (.ref a1)] [(.ref a1)])) (fun t k => XS.aloadN X0.here hx rfl (hb hby own_d14_0) rfl rfl k) ?_
  obtain ⟨T1, X1, e1, st1⟩ := getF X0 hx hZ hown (host := "") (Or.inl (hw _ (List.mem_of_getElem? (i := 59) rfl))) Via.refl e0 F_seq_a1 (g := (mkF m 1 #[.val (.ref a1)] [(.ref a1)])) rfl rfl (hb hby own_d14_1)
  refine own_st (T' := T1) (g' := (mkF m 4 #[.val (.ref a1)] [(.long z)])) st1 ?_
  exact own_retJ X1 hx hlk hret (hb hby own_d14_4) (by decide) (by decide) ⟨rfl, e1, rfl⟩
theorem own_d15_0 : decode prog_19_method_7_code 0 = .ok (.aload_n 0, 1) := by decide +kernel
theorem own_d15_1 : decode prog_19_method_7_code 1 = .ok (.getfield 13, 3) := by decide +kernel
theorem own_d15_4 : decode prog_19_method_7_code 4 = .ok (.areturn, 1) := by decide +kernel
theorem own_pn15 : plainFor (⟨"com/example/sheaf/sheaf/engine/InstructionResult", "failure", "()Lcom/example/sheaf/sheaf/engine/Failure;"⟩ : MethodName) = true := plainFor_of_name (show plainName "com/example/sheaf/sheaf/engine/InstructionResult" = true by first | (simp [plainName, overriddenIn]; done) | decide +kernel)
theorem own_ef15 (m : MethodId) (a1 : Addr) : entryFrame m #[(.ref a1)] 1 = (mkF m 0 #[.val (.ref a1)] []) := by first | (simp [entryFrame, mkF, argsToLocals, Value.category]; done) | rfl
set_option maxRecDepth 65536 in
set_option maxHeartbeats 40000000 in
theorem own_rm15 (l : Launch) (Z : State) (a0 : Array Value) (hw : ∀ d ∈ tables_1, d.before a0 Z = true) (h0 : Heap) (n0 : Nat) (Z0 : n0 ≤ h0.size) (a1 : Addr) (z : Addr) (F_failure_a1 : Fld Z h0 a1 "com/example/sheaf/sheaf/engine/InstructionResult" "failure" "Lcom/example/sheaf/sheaf/engine/Failure;" (.ref z)) :
    own_C l Z (⟨"com/example/sheaf/sheaf/engine/InstructionResult", "failure", "()Lcom/example/sheaf/sheaf/engine/Failure;"⟩ : MethodName) prog_19_method_7_code 1 (some (.object "com/example/sheaf/sheaf/engine/Failure")) [] ({ frames := 0, cells := 0, slots := 0, locals := 0 } : Room) #[(.ref a1)] h0 (own_P (.ref z) h0) := by
  refine own_body own_pn15 (f0 := fun m => (mkF m 0 #[.val (.ref a1)] [])) (fun m => own_ef15 m a1) ?_
  intro p e s m below meth c s₁ hx hby hml hown hnm hret hlk hZ X0 e0
  change own_G p e below (own_F (own_P (.ref z) h0) s 0 0) s₁ (mkF m 0 #[.val (.ref a1)] [])
  have N0 := Fr.nil n0
  refine own_st (T' := s₁) (g' := (mkF m 1 #[.val (.ref a1)] [(.ref a1)])) (fun t k => XS.aloadN X0.here hx rfl (hb hby own_d15_0) rfl rfl k) ?_
  obtain ⟨T1, X1, e1, st1⟩ := getF X0 hx hZ hown (host := "") (Or.inl (hw _ (List.mem_of_getElem? (i := 61) rfl))) Via.refl e0 F_failure_a1 (g := (mkF m 1 #[.val (.ref a1)] [(.ref a1)])) rfl rfl (hb hby own_d15_1)
  refine own_st (T' := T1) (g' := (mkF m 4 #[.val (.ref a1)] [(.ref z)])) st1 ?_
  exact own_retR X1 hx hlk hret (hb hby own_d15_4) (by decide) (by decide) rfl ⟨rfl, e1, rfl⟩
theorem own_d12_0 : decode prog_19_method_8_code 0 = .ok (.aload_n 0, 1) := by decide +kernel
theorem own_d12_1 : decode prog_19_method_8_code 1 = .ok (.getfield 17, 3) := by decide +kernel
theorem own_d12_4 : decode prog_19_method_8_code 4 = .ok (.areturn, 1) := by decide +kernel
theorem own_pn12 : plainFor (⟨"com/example/sheaf/sheaf/engine/InstructionResult", "text", "()Ljava/lang/String;"⟩ : MethodName) = true := plainFor_of_name (show plainName "com/example/sheaf/sheaf/engine/InstructionResult" = true by first | (simp [plainName, overriddenIn]; done) | decide +kernel)
theorem own_ef12t (m : MethodId) (a1 : Addr) : entryFrame m #[(.ref a1)] 1 = (mkF m 0 #[.val (.ref a1)] []) := by first | (simp [entryFrame, mkF, argsToLocals, Value.category]; done) | rfl
set_option maxRecDepth 65536 in
set_option maxHeartbeats 40000000 in
theorem own_rm12t (l : Launch) (Z : State) (a0 : Array Value) (hw : ∀ d ∈ tables_1, d.before a0 Z = true) (h0 : Heap) (n0 : Nat) (Z0 : n0 ≤ h0.size) (a1 : Addr) (z : Addr) (F_text_a1 : Fld Z h0 a1 "com/example/sheaf/sheaf/engine/InstructionResult" "text" "Ljava/lang/String;" (.ref z)) :
    own_C l Z (⟨"com/example/sheaf/sheaf/engine/InstructionResult", "text", "()Ljava/lang/String;"⟩ : MethodName) prog_19_method_8_code 1 (some (.object "java/lang/String")) [] ({ frames := 0, cells := 0, slots := 0, locals := 0 } : Room) #[(.ref a1)] h0 (own_P (.ref z) h0) := by
  refine own_body own_pn12 (f0 := fun m => (mkF m 0 #[.val (.ref a1)] [])) (fun m => own_ef12t m a1) ?_
  intro p e s m below meth c s₁ hx hby hml hown hnm hret hlk hZ X0 e0
  change own_G p e below (own_F (own_P (.ref z) h0) s 0 0) s₁ (mkF m 0 #[.val (.ref a1)] [])
  have N0 := Fr.nil n0
  refine own_st (T' := s₁) (g' := (mkF m 1 #[.val (.ref a1)] [(.ref a1)])) (fun t k => XS.aloadN X0.here hx rfl (hb hby own_d12_0) rfl rfl k) ?_
  obtain ⟨T1, X1, e1, st1⟩ := getF X0 hx hZ hown (host := "") (Or.inl (hw _ (List.mem_of_getElem? (i := 63) rfl))) Via.refl e0 F_text_a1 (g := (mkF m 1 #[.val (.ref a1)] [(.ref a1)])) rfl rfl (hb hby own_d12_1)
  refine own_st (T' := T1) (g' := (mkF m 4 #[.val (.ref a1)] [(.ref z)])) st1 ?_
  exact own_retR X1 hx hlk hret (hb hby own_d12_4) (by decide) (by decide) rfl ⟨rfl, e1, rfl⟩
theorem own_ef12z (m : MethodId) (a1 : Addr) : entryFrame m #[(.ref a1)] 1 = (mkF m 0 #[.val (.ref a1)] []) := by first | (simp [entryFrame, mkF, argsToLocals, Value.category]; done) | rfl
set_option maxRecDepth 65536 in
set_option maxHeartbeats 40000000 in
theorem own_rm12z (l : Launch) (Z : State) (a0 : Array Value) (hw : ∀ d ∈ tables_1, d.before a0 Z = true) (h0 : Heap) (n0 : Nat) (Z0 : n0 ≤ h0.size) (a1 : Addr) (F_text_a1 : Fld Z h0 a1 "com/example/sheaf/sheaf/engine/InstructionResult" "text" "Ljava/lang/String;" .null) :
    own_C l Z (⟨"com/example/sheaf/sheaf/engine/InstructionResult", "text", "()Ljava/lang/String;"⟩ : MethodName) prog_19_method_8_code 1 (some (.object "java/lang/String")) [] ({ frames := 0, cells := 0, slots := 0, locals := 0 } : Room) #[(.ref a1)] h0 (own_P .null h0) := by
  refine own_body own_pn12 (f0 := fun m => (mkF m 0 #[.val (.ref a1)] [])) (fun m => own_ef12z m a1) ?_
  intro p e s m below meth c s₁ hx hby hml hown hnm hret hlk hZ X0 e0
  change own_G p e below (own_F (own_P .null h0) s 0 0) s₁ (mkF m 0 #[.val (.ref a1)] [])
  have N0 := Fr.nil n0
  refine own_st (T' := s₁) (g' := (mkF m 1 #[.val (.ref a1)] [(.ref a1)])) (fun t k => XS.aloadN X0.here hx rfl (hb hby own_d12_0) rfl rfl k) ?_
  obtain ⟨T1, X1, e1, st1⟩ := getF X0 hx hZ hown (host := "") (Or.inl (hw _ (List.mem_of_getElem? (i := 63) rfl))) Via.refl e0 F_text_a1 (g := (mkF m 1 #[.val (.ref a1)] [(.ref a1)])) rfl rfl (hb hby own_d12_1)
  refine own_st (T' := T1) (g' := (mkF m 4 #[.val (.ref a1)] [.null])) st1 ?_
  exact own_retR X1 hx hlk hret (hb hby own_d12_4) (by decide) (by decide) rfl ⟨rfl, e1, rfl⟩
theorem own_d16_0 : decode prog_19_method_9_code 0 = .ok (.aload_n 0, 1) := by decide +kernel
theorem own_d16_1 : decode prog_19_method_9_code 1 = .ok (.getfield 21, 3) := by decide +kernel
theorem own_d16_4 : decode prog_19_method_9_code 4 = .ok (.areturn, 1) := by decide +kernel
theorem own_pn16 : plainFor (⟨"com/example/sheaf/sheaf/engine/InstructionResult", "order", "()Lcom/example/sheaf/sheaf/engine/OrderState;"⟩ : MethodName) = true := plainFor_of_name (show plainName "com/example/sheaf/sheaf/engine/InstructionResult" = true by first | (simp [plainName, overriddenIn]; done) | decide +kernel)
theorem own_ef16 (m : MethodId) (a1 : Addr) : entryFrame m #[(.ref a1)] 1 = (mkF m 0 #[.val (.ref a1)] []) := by first | (simp [entryFrame, mkF, argsToLocals, Value.category]; done) | rfl
set_option maxRecDepth 65536 in
set_option maxHeartbeats 40000000 in
theorem own_rm16 (l : Launch) (Z : State) (a0 : Array Value) (hw : ∀ d ∈ tables_1, d.before a0 Z = true) (h0 : Heap) (n0 : Nat) (Z0 : n0 ≤ h0.size) (a1 : Addr) (F_order_a1 : Fld Z h0 a1 "com/example/sheaf/sheaf/engine/InstructionResult" "order" "Lcom/example/sheaf/sheaf/engine/OrderState;" .null) :
    own_C l Z (⟨"com/example/sheaf/sheaf/engine/InstructionResult", "order", "()Lcom/example/sheaf/sheaf/engine/OrderState;"⟩ : MethodName) prog_19_method_9_code 1 (some (.object "com/example/sheaf/sheaf/engine/OrderState")) [] ({ frames := 0, cells := 0, slots := 0, locals := 0 } : Room) #[(.ref a1)] h0 (own_P .null h0) := by
  refine own_body own_pn16 (f0 := fun m => (mkF m 0 #[.val (.ref a1)] [])) (fun m => own_ef16 m a1) ?_
  intro p e s m below meth c s₁ hx hby hml hown hnm hret hlk hZ X0 e0
  change own_G p e below (own_F (own_P .null h0) s 0 0) s₁ (mkF m 0 #[.val (.ref a1)] [])
  have N0 := Fr.nil n0
  refine own_st (T' := s₁) (g' := (mkF m 1 #[.val (.ref a1)] [(.ref a1)])) (fun t k => XS.aloadN X0.here hx rfl (hb hby own_d16_0) rfl rfl k) ?_
  obtain ⟨T1, X1, e1, st1⟩ := getF X0 hx hZ hown (host := "") (Or.inl (hw _ (List.mem_of_getElem? (i := 65) rfl))) Via.refl e0 F_order_a1 (g := (mkF m 1 #[.val (.ref a1)] [(.ref a1)])) rfl rfl (hb hby own_d16_1)
  refine own_st (T' := T1) (g' := (mkF m 4 #[.val (.ref a1)] [.null])) st1 ?_
  exact own_retR X1 hx hlk hret (hb hby own_d16_4) (by decide) (by decide) rfl ⟨rfl, e1, rfl⟩
theorem own_d17_0 : decode prog_19_method_10_code 0 = .ok (.aload_n 0, 1) := by decide +kernel
theorem own_d17_1 : decode prog_19_method_10_code 1 = .ok (.getfield 25, 3) := by decide +kernel
theorem own_d17_4 : decode prog_19_method_10_code 4 = .ok (.areturn, 1) := by decide +kernel
theorem own_pn17 : plainFor (⟨"com/example/sheaf/sheaf/engine/InstructionResult", "fills", "()Ljava/util/List;"⟩ : MethodName) = true := plainFor_of_name (show plainName "com/example/sheaf/sheaf/engine/InstructionResult" = true by first | (simp [plainName, overriddenIn]; done) | decide +kernel)
theorem own_ef17 (m : MethodId) (a1 : Addr) : entryFrame m #[(.ref a1)] 1 = (mkF m 0 #[.val (.ref a1)] []) := by first | (simp [entryFrame, mkF, argsToLocals, Value.category]; done) | rfl
set_option maxRecDepth 65536 in
set_option maxHeartbeats 40000000 in
theorem own_rm17 (l : Launch) (Z : State) (a0 : Array Value) (hw : ∀ d ∈ tables_1, d.before a0 Z = true) (h0 : Heap) (n0 : Nat) (Z0 : n0 ≤ h0.size) (a1 : Addr) (z : Addr) (F_fills_a1 : Fld Z h0 a1 "com/example/sheaf/sheaf/engine/InstructionResult" "fills" "Ljava/util/List;" (.ref z)) :
    own_C l Z (⟨"com/example/sheaf/sheaf/engine/InstructionResult", "fills", "()Ljava/util/List;"⟩ : MethodName) prog_19_method_10_code 1 (some (.object "java/util/List")) [] ({ frames := 0, cells := 0, slots := 0, locals := 0 } : Room) #[(.ref a1)] h0 (own_P (.ref z) h0) := by
  refine own_body own_pn17 (f0 := fun m => (mkF m 0 #[.val (.ref a1)] [])) (fun m => own_ef17 m a1) ?_
  intro p e s m below meth c s₁ hx hby hml hown hnm hret hlk hZ X0 e0
  change own_G p e below (own_F (own_P (.ref z) h0) s 0 0) s₁ (mkF m 0 #[.val (.ref a1)] [])
  have N0 := Fr.nil n0
  refine own_st (T' := s₁) (g' := (mkF m 1 #[.val (.ref a1)] [(.ref a1)])) (fun t k => XS.aloadN X0.here hx rfl (hb hby own_d17_0) rfl rfl k) ?_
  obtain ⟨T1, X1, e1, st1⟩ := getF X0 hx hZ hown (host := "") (Or.inl (hw _ (List.mem_of_getElem? (i := 67) rfl))) Via.refl e0 F_fills_a1 (g := (mkF m 1 #[.val (.ref a1)] [(.ref a1)])) rfl rfl (hb hby own_d17_1)
  refine own_st (T' := T1) (g' := (mkF m 4 #[.val (.ref a1)] [(.ref z)])) st1 ?_
  exact own_retR X1 hx hlk hret (hb hby own_d17_4) (by decide) (by decide) rfl ⟨rfl, e1, rfl⟩
theorem own_d13_0 : decode jdk_42_method_66_code 0 = .ok (.aload_n 0, 1) := by decide +kernel
theorem own_d13_1 : decode jdk_42_method_66_code 1 = .ok (.aload_n 1, 1) := by decide +kernel
theorem own_d13_2 : decode jdk_42_method_66_code 2 = .ok (.if_acmp .ne 5, 3) := by decide +kernel
theorem own_d13_5 : decode jdk_42_method_66_code 5 = .ok (.iconst 1, 1) := by decide +kernel
theorem own_d13_6 : decode jdk_42_method_66_code 6 = .ok (.ireturn, 1) := by decide +kernel
theorem own_pn13 : plainFor (⟨"java/lang/String", "equals", "(Ljava/lang/Object;)Z"⟩ : MethodName) = true := plainFor_of_name (show plainName "java/lang/String" = true by first | (simp [plainName, overriddenIn]; done) | decide +kernel)
theorem own_ef13 (m : MethodId) (a1 : Addr) : entryFrame m #[(.ref a1), (.ref a1)] 3 = (mkF m 0 #[.val (.ref a1), .val (.ref a1), .unset] []) := by first | (simp [entryFrame, mkF, argsToLocals, Value.category]; done) | rfl
set_option maxRecDepth 65536 in
set_option maxHeartbeats 40000000 in
theorem own_rm13 (l : Launch) (Z : State) (a0 : Array Value) (hw : ∀ d ∈ tables_1, d.before a0 Z = true) (h0 : Heap) (n0 : Nat) (Z0 : n0 ≤ h0.size) (a1 : Addr)  :
    own_C l Z (⟨"java/lang/String", "equals", "(Ljava/lang/Object;)Z"⟩ : MethodName) jdk_42_method_66_code 3 (some .boolean) [] ({ frames := 0, cells := 0, slots := 0, locals := 0 } : Room) #[(.ref a1), (.ref a1)] h0 (own_P (.int 1) h0) := by
  refine own_body own_pn13 (f0 := fun m => (mkF m 0 #[.val (.ref a1), .val (.ref a1), .unset] [])) (fun m => own_ef13 m a1) ?_
  intro p e s m below meth c s₁ hx hby hml hown hnm hret hlk hZ X0 e0
  change own_G p e below (own_F (own_P (.int 1) h0) s 0 0) s₁ (mkF m 0 #[.val (.ref a1), .val (.ref a1), .unset] [])
  have N0 := Fr.nil n0
  refine own_st (T' := s₁) (g' := (mkF m 1 #[.val (.ref a1), .val (.ref a1), .unset] [(.ref a1)])) (fun t k => XS.aloadN X0.here hx rfl (hb hby own_d13_0) rfl rfl k) ?_
  refine own_st (T' := s₁) (g' := (mkF m 2 #[.val (.ref a1), .val (.ref a1), .unset] [(.ref a1), (.ref a1)])) (fun t k => XS.aloadN X0.here hx rfl (hb hby own_d13_1) rfl rfl k) ?_
  have hk1 : a1 = a1 := rfl
  refine own_st (T' := s₁) (g' := (mkF m 5 #[.val (.ref a1), .val (.ref a1), .unset] [])) (fun t k => Jvm.RoadKit.acmp (g := (mkF m 2 #[.val (.ref a1), .val (.ref a1), .unset] [(.ref a1), (.ref a1)])) X0 hx rfl rfl rfl (pc0 := 2) (pc' := 5) (same := true) rfl (hb hby own_d13_2) rfl (decide_eq_true (congrArg Value.ref hk1)) (by decide) (by decide) k) ?_
  refine own_st (T' := s₁) (g' := (mkF m 6 #[.val (.ref a1), .val (.ref a1), .unset] [(.int (1 : Int32))])) (fun t k => XS.iconst X0.here hx rfl (hb hby own_d13_5) k) ?_
  exact own_retB X0 hx hlk hret (hb hby own_d13_6) (by decide) (by decide) rfl ⟨rfl, e0, rfl⟩
theorem own_pn0 : plainFor x = true := plainFor_of_name (show plainName "com/example/sheaf/sheaf/engine/InstructionResultFailedPinLaw" = true by first | (simp [plainName, overriddenIn]; done) | decide +kernel)
theorem own_ef0 (m : MethodId) (q1 : Int64) (p2 : Int32) (p3 : Int32) (p4 : Int32) (p5 : Int32) : entryFrame m #[(.long q1), (.int p2), (.int p3), (.int p4), (.int p5)] maxLocals = (mkF m 0 #[.val (.long q1), .second, .val (.int p2), .val (.int p3), .val (.int p4), .val (.int p5), .unset, .unset, .unset, .unset, .unset] []) := by first | (simp [entryFrame, mkF, argsToLocals, Value.category, maxLocals]; done) | rfl
set_option maxRecDepth 65536 in
set_option maxHeartbeats 40000000 in
theorem own_rm0 (l : Launch) (Z : State) (a0 : Array Value) (hw : ∀ d ∈ tables_1, d.before a0 Z = true) (h0 : Heap) (n0 : Nat) (Z0 : n0 ≤ h0.size) (q1 : Int64) (p2 : Int32) (p3 : Int32) (p4 : Int32) (p5 : Int32) (O : Old Z n0 h0) (s_UnknownSymbol : Addr) (S_UnknownSymbol : Sta Z Z.heap "com/example/sheaf/sheaf/engine/Failure" "UnknownSymbol" "Lcom/example/sheaf/sheaf/engine/Failure;" (.ref s_UnknownSymbol)) (s_PriorFailure : Addr) (S_PriorFailure : Sta Z Z.heap "com/example/sheaf/sheaf/engine/Failure" "PriorFailure" "Lcom/example/sheaf/sheaf/engine/Failure;" (.ref s_PriorFailure)) (s_OrderClosed : Addr) (S_OrderClosed : Sta Z Z.heap "com/example/sheaf/sheaf/engine/Failure" "OrderClosed" "Lcom/example/sheaf/sheaf/engine/Failure;" (.ref s_OrderClosed)) (s_InvalidField : Addr) (S_InvalidField : Sta Z Z.heap "com/example/sheaf/sheaf/engine/Failure" "InvalidField" "Lcom/example/sheaf/sheaf/engine/Failure;" (.ref s_InvalidField)) (s_UnknownOrder : Addr) (S_UnknownOrder : Sta Z Z.heap "com/example/sheaf/sheaf/engine/Failure" "UnknownOrder" "Lcom/example/sheaf/sheaf/engine/Failure;" (.ref s_UnknownOrder)) (s_None : Addr) (S_None : Sta Z Z.heap "com/example/sheaf/sheaf/engine/Failure" "None" "Lcom/example/sheaf/sheaf/engine/Failure;" (.ref s_None)) (s_DuplicateClOrdID : Addr) (S_DuplicateClOrdID : Sta Z Z.heap "com/example/sheaf/sheaf/engine/Failure" "DuplicateClOrdID" "Lcom/example/sheaf/sheaf/engine/Failure;" (.ref s_DuplicateClOrdID)) (zc : Int32) (hzc : ¬ zc = 0) (S_CS : Sta Z Z.heap "java/lang/String" "COMPACT_STRINGS" "Z" (.int zc)) (s_EL : Addr) (S_EL : Sta Z Z.heap "java/util/ImmutableCollections" "EMPTY_LIST" "Ljava/util/ImmutableCollections$ListN;" (.ref s_EL)) (E_s_EL : Exa Z h0 s_EL "java/util/ImmutableCollections$ListN") (k : ClassId) (s_EA : Addr) (F_elements_s_EL : Fld Z h0 s_EL "java/util/ImmutableCollections$ListN" "elements" "[Ljava/lang/Object;" (.ref s_EA)) (V_s_EA : Arv Z h0 s_EA k (.object "java/lang/Object") 0 [] .null) :
    MetFree l x (head1 (Jvm.Cond.code x code maxLocals ret :: tables_1) room_1) (fun a U => a = #[(.long q1), (.int p2), (.int p3), (.int p4), (.int p5)] ∧ Z.Warmed39 U.vm ∧ U.heap = h0 ∧ CHv Z consts_1 U.vm h0) (fun _ _ _ _ _ => True) (fun _ U o U' => ∃ v L, o = .returned v ∧ (own_qr (.int 1) n0) v U'.heap L ∧ ReturnedEndW U o U' L room_1.cells room_1.slots) := by
  refine own_bodyWH own_pn0 (f0 := fun m => (mkF m 0 #[.val (.long q1), .second, .val (.int p2), .val (.int p3), .val (.int p4), .val (.int p5), .unset, .unset, .unset, .unset, .unset] [])) (fun m => own_ef0 m q1 p2 p3 p4 p5) ?_
  intro p e s m below meth c s₁ hx hby hml hown hnm hret hlk hZ X0 e0 hS hCH
  change own_G p e below (own_FW (own_qr (.int 1) n0) s room_1.cells room_1.slots) s₁ (mkF m 0 #[.val (.long q1), .second, .val (.int p2), .val (.int p3), .val (.int p4), .val (.int p5), .unset, .unset, .unset, .unset, .unset] [])
  have hkS : 0 ≤ h0.size := Nat.zero_le _
  have N0 := Fr.nil n0
  refine own_st (T' := s₁) (g' := (mkF m 1 #[.val (.long q1), .second, .val (.int p2), .val (.int p3), .val (.int p4), .val (.int p5), .unset, .unset, .unset, .unset, .unset] [(.int p2)])) (fun t k => XS.iloadN X0.here hx rfl (hb hby at_0) rfl k) ?_
  obtain ⟨_, T1, L1, hQ1, X1, st1⟩ := own_callS (y := (⟨"com/example/sheaf/sheaf/engine/InstructionResultFailedPinLaw", "pick", "(I)Lcom/example/sheaf/sheaf/engine/Failure;"⟩ : MethodName)) (argsL := [(.int p2)]) 0 [] (own_rm1 l Z a0 hw h0 n0 Z0 p2 O s_UnknownSymbol S_UnknownSymbol s_PriorFailure S_PriorFailure s_OrderClosed S_OrderClosed s_InvalidField S_InvalidField s_UnknownOrder S_UnknownOrder s_None S_None s_DuplicateClOrdID S_DuplicateClOrdID) X0 hx hZ hown (hw _ (List.mem_of_getElem? (i := 0) rfl)) (hw _ (List.mem_of_getElem? (i := 1) rfl)) (hw _ (List.mem_of_getElem? (i := 2) rfl)) (hw _ (List.mem_of_getElem? (i := 3) rfl)) (by decide) (by decide) (by decide) (by decide) (by decide) e0 (g := (mkF m 1 #[.val (.long q1), .second, .val (.int p2), .val (.int p3), .val (.int p4), .val (.int p5), .unset, .unset, .unset, .unset, .unset] [(.int p2)])) rfl (by rw [hml]; rfl) (lenOf own_pd10 rfl) rfl (by show 2 * 0 + _ ≤ _; exact Nat.le_of_eq rfl) (hb hby at_1)
  obtain ⟨r1, rfl, e1, rfl⟩ := hQ1
  have X1 : Stand p l e room_1 (s.setVm s.vm) m #[(.long q1), (.int p2), (.int p3), (.int p4), (.int p5)] below meth c T1 [] 0 0 := X1
  refine own_st (T' := T1) (g' := (mkF m 4 #[.val (.long q1), .second, .val (.int p2), .val (.int p3), .val (.int p4), .val (.int p5), .unset, .unset, .unset, .unset, .unset] [(.ref r1)])) st1 ?_
  refine own_st (T' := T1) (g' := (mkF m 6 #[.val (.long q1), .second, .val (.int p2), .val (.int p3), .val (.int p4), .val (.int p5), .val (.ref r1), .unset, .unset, .unset, .unset] [])) (fun t k => XS.astore X1.here hx rfl (hb hby at_4) rfl rfl (l' := #[.val (.long q1), .second, .val (.int p2), .val (.int p3), .val (.int p4), .val (.int p5), .val (.ref r1), .unset, .unset, .unset, .unset]) rfl k) ?_
  refine own_st (T' := T1) (g' := (mkF m 8 #[.val (.long q1), .second, .val (.int p2), .val (.int p3), .val (.int p4), .val (.int p5), .val (.ref r1), .unset, .unset, .unset, .unset] [(.int p5)])) (fun t k => XS.iload X1.here hx rfl (hb hby at_6) rfl k) ?_
  refine own_st (T' := T1) (g' := (mkF m 9 #[.val (.long q1), .second, .val (.int p2), .val (.int p3), .val (.int p4), .val (.int p5), .val (.ref r1), .unset, .unset, .unset, .unset] [(.int (3 : Int32)), (.int p5)])) (fun t k => XS.iconst X1.here hx rfl (hb hby at_8) k) ?_
  refine own_st (T' := T1) (g' := (mkF m 10 #[.val (.long q1), .second, .val (.int p2), .val (.int p3), .val (.int p4), .val (.int p5), .val (.ref r1), .unset, .unset, .unset, .unset] [(.int (p5 &&& (3 : Int32)))])) (fun t k => XS.iand X1.here hx rfl (hb hby at_9) rfl k) ?_
  refine own_st (T' := T1) (g' := (mkF m 12 #[.val (.long q1), .second, .val (.int p2), .val (.int p3), .val (.int p4), .val (.int p5), .val (.ref r1), .val (.int (p5 &&& (3 : Int32))), .unset, .unset, .unset] [])) (fun t k => XS.istore X1.here hx rfl (hb hby at_10) rfl (l' := #[.val (.long q1), .second, .val (.int p2), .val (.int p3), .val (.int p4), .val (.int p5), .val (.ref r1), .val (.int (p5 &&& (3 : Int32))), .unset, .unset, .unset]) rfl k) ?_
  refine own_st (T' := T1) (g' := (mkF m 14 #[.val (.long q1), .second, .val (.int p2), .val (.int p3), .val (.int p4), .val (.int p5), .val (.ref r1), .val (.int (p5 &&& (3 : Int32))), .unset, .unset, .unset] [(.int (p5 &&& (3 : Int32)))])) (fun t k => XS.iload X1.here hx rfl (hb hby at_12) rfl k) ?_
  by_cases hc14_2 : (p5 &&& (3 : Int32)) = (0 : Int32)
  ·
    refine own_st (T' := T1) (g' := (mkF m 17 #[.val (.long q1), .second, .val (.int p2), .val (.int p3), .val (.int p4), .val (.int p5), .val (.ref r1), .val (.int (p5 &&& (3 : Int32))), .unset, .unset, .unset] [])) (fun t k => XS.ifNo X1.here hx rfl (hb hby at_14) rfl ((if0 _ _).trans (teq hc14_2).2) k) ?_
    refine own_st (T' := T1) (g' := (mkF m 18 #[.val (.long q1), .second, .val (.int p2), .val (.int p3), .val (.int p4), .val (.int p5), .val (.ref r1), .val (.int (p5 &&& (3 : Int32))), .unset, .unset, .unset] [.null])) (fun t k => XS.aconstNull X1.here hx rfl (hb hby at_17) k) ?_
    refine own_st (T' := T1) (g' := (mkF m 20 #[.val (.long q1), .second, .val (.int p2), .val (.int p3), .val (.int p4), .val (.int p5), .val (.ref r1), .val (.int (p5 &&& (3 : Int32))), .val .null, .unset, .unset] [])) (fun t k => XS.astore X1.here hx rfl (hb hby at_18) rfl rfl (l' := #[.val (.long q1), .second, .val (.int p2), .val (.int p3), .val (.int p4), .val (.int p5), .val (.ref r1), .val (.int (p5 &&& (3 : Int32))), .val .null, .unset, .unset]) rfl k) ?_
    refine own_st (T' := T1) (g' := (mkF m 101 #[.val (.long q1), .second, .val (.int p2), .val (.int p3), .val (.int p4), .val (.int p5), .val (.ref r1), .val (.int (p5 &&& (3 : Int32))), .val .null, .unset, .unset] [])) (fun t k => XS.goto X1.here hx rfl (pc0 := 20) (pc' := 101) rfl (hb hby at_20) (by decide) (by decide) k) ?_
    refine own_st (T' := T1) (g' := (mkF m 102 #[.val (.long q1), .second, .val (.int p2), .val (.int p3), .val (.int p4), .val (.int p5), .val (.ref r1), .val (.int (p5 &&& (3 : Int32))), .val .null, .unset, .unset] [(.long q1)])) (fun t k => XS.lloadN X1.here hx rfl (hb hby at_101) rfl k) ?_
    refine own_st (T' := T1) (g' := (mkF m 104 #[.val (.long q1), .second, .val (.int p2), .val (.int p3), .val (.int p4), .val (.int p5), .val (.ref r1), .val (.int (p5 &&& (3 : Int32))), .val .null, .unset, .unset] [(.ref r1), (.long q1)])) (fun t k => XS.aload X1.here hx rfl (hb hby at_102) rfl rfl k) ?_
    refine own_st (T' := T1) (g' := (mkF m 106 #[.val (.long q1), .second, .val (.int p2), .val (.int p3), .val (.int p4), .val (.int p5), .val (.ref r1), .val (.int (p5 &&& (3 : Int32))), .val .null, .unset, .unset] [.null, (.ref r1), (.long q1)])) (fun t k => XS.aload X1.here hx rfl (hb hby at_104) rfl rfl k) ?_
    have lt3_s_EL := E_s_EL.lt
    have lt3_s_EA := V_s_EA.lt
    obtain ⟨_, T3, L3, hQ3, X3, st3⟩ := own_callS (y := (⟨"com/example/sheaf/sheaf/engine/InstructionResult", "failed", "(JLcom/example/sheaf/sheaf/engine/Failure;Ljava/lang/String;)Lcom/example/sheaf/sheaf/engine/InstructionResult;"⟩ : MethodName)) (argsL := [(.long q1), (.ref r1), .null]) 0 [] (own_rm8z l Z a0 hw h0 n0 Z0 q1 r1 O s_EL S_EL) X1 hx hZ hown (hw _ (List.mem_of_getElem? (i := 38) rfl)) (hw _ (List.mem_of_getElem? (i := 39) rfl)) (hw _ (List.mem_of_getElem? (i := 40) rfl)) (hw _ (List.mem_of_getElem? (i := 41) rfl)) (by decide) (by decide) (by decide) (by decide) (by decide) e1 (g := (mkF m 106 #[.val (.long q1), .second, .val (.int p2), .val (.int p3), .val (.int p4), .val (.int p5), .val (.ref r1), .val (.int (p5 &&& (3 : Int32))), .val .null, .unset, .unset] [.null, (.ref r1), (.long q1)])) rfl (by rw [hml]; rfl) (lenOf own_pd11 rfl) rfl (by show 2 * 0 + _ ≤ _; exact Nat.le_of_eq rfl) (hb hby at_106)
    obtain ⟨o3, rfl, N3q, Eq3, sz_o3, E_o3, F_seq_o3, F_failure_o3, F_text_o3, F_order_o3, F_fills_o3⟩ := hQ3
    have Z3 : n0 ≤ T3.heap.size := Nat.le_trans Z0 Eq3.1
    have hkS := Nat.le_trans hkS Eq3.1
    have O := O.ext Eq3
    have E_s_EL := E_s_EL.ext Eq3
    have F_elements_s_EL := F_elements_s_EL.ext Eq3
    have V_s_EA := V_s_EA.ext Eq3
    have hCH := hCH.ext Eq3
    have N3 := Fr.app N0 N3q
    generalize hlc3 : ([] ++ L3 : List Loc) = lc3 at X3 N3
    have X3 : Stand p l e room_1 (s.setVm s.vm) m #[(.long q1), (.int p2), (.int p3), (.int p4), (.int p5)] below meth c T3 lc3 1 5 := X3
    have g_o3 : n0 ≤ o3 := Nat.le_trans Z0 sz_o3
    have ne_s_EL_o3 : s_EL ≠ o3 := Nat.ne_of_lt (Nat.lt_of_lt_of_le lt3_s_EL sz_o3)
    have ne_s_EA_o3 : s_EA ≠ o3 := Nat.ne_of_lt (Nat.lt_of_lt_of_le lt3_s_EA sz_o3)
    refine own_st (T' := T3) (g' := (mkF m 109 #[.val (.long q1), .second, .val (.int p2), .val (.int p3), .val (.int p4), .val (.int p5), .val (.ref r1), .val (.int (p5 &&& (3 : Int32))), .val .null, .unset, .unset] [(.ref o3)])) st3 ?_
    refine own_st (T' := T3) (g' := (mkF m 111 #[.val (.long q1), .second, .val (.int p2), .val (.int p3), .val (.int p4), .val (.int p5), .val (.ref r1), .val (.int (p5 &&& (3 : Int32))), .val .null, .val (.ref o3), .unset] [])) (fun t k => XS.astore X3.here hx rfl (hb hby at_109) rfl rfl (l' := #[.val (.long q1), .second, .val (.int p2), .val (.int p3), .val (.int p4), .val (.int p5), .val (.ref r1), .val (.int (p5 &&& (3 : Int32))), .val .null, .val (.ref o3), .unset]) rfl k) ?_
    refine own_st (T' := T3) (g' := (mkF m 113 #[.val (.long q1), .second, .val (.int p2), .val (.int p3), .val (.int p4), .val (.int p5), .val (.ref r1), .val (.int (p5 &&& (3 : Int32))), .val .null, .val (.ref o3), .unset] [(.ref o3)])) (fun t k => XS.aload X3.here hx rfl (hb hby at_111) rfl rfl k) ?_
    refine own_st (T' := T3) (g' := (mkF m 118 #[.val (.long q1), .second, .val (.int p2), .val (.int p3), .val (.int p4), .val (.int p5), .val (.ref r1), .val (.int (p5 &&& (3 : Int32))), .val .null, .val (.ref o3), .unset] [])) (fun t k => XS.ifnonnullYes X3.here hx rfl (pc0 := 113) (pc' := 118) rfl (hb hby at_113) rfl (by decide) (by decide) k) ?_
    refine own_st (T' := T3) (g' := (mkF m 120 #[.val (.long q1), .second, .val (.int p2), .val (.int p3), .val (.int p4), .val (.int p5), .val (.ref r1), .val (.int (p5 &&& (3 : Int32))), .val .null, .val (.ref o3), .unset] [.null])) (fun t k => XS.aload X3.here hx rfl (hb hby at_118) rfl rfl k) ?_
    refine own_st (T' := T3) (g' := (mkF m 123 #[.val (.long q1), .second, .val (.int p2), .val (.int p3), .val (.int p4), .val (.int p5), .val (.ref r1), .val (.int (p5 &&& (3 : Int32))), .val .null, .val (.ref o3), .unset] [])) (fun t k => XS.ifnonnullNo X3.here hx rfl (hb hby at_120) rfl k) ?_
    refine own_st (T' := T3) (g' := (mkF m 125 #[.val (.long q1), .second, .val (.int p2), .val (.int p3), .val (.int p4), .val (.int p5), .val (.ref r1), .val (.int (p5 &&& (3 : Int32))), .val .null, .val (.ref o3), .unset] [(.ref o3)])) (fun t k => XS.aload X3.here hx rfl (hb hby at_123) rfl rfl k) ?_
    obtain ⟨_, T4, L4, hQ4, X4, st4⟩ := own_callV (y := (⟨"com/example/sheaf/sheaf/engine/InstructionResult", "text", "()Ljava/lang/String;"⟩ : MethodName)) (z := (⟨"com/example/sheaf/sheaf/engine/InstructionResult", "text", "()Ljava/lang/String;"⟩ : MethodName)) (argsL := []) 0 [] (K := "com/example/sheaf/sheaf/engine/InstructionResult") (own_rm12z l Z a0 hw T3.heap n0 Z3 o3 F_text_o3) X3 hx hZ hown (hw _ (List.mem_of_getElem? (i := 69) rfl)) (hw _ (List.mem_of_getElem? (i := 70) rfl)) (notFace_of_selects (args := #[]) (mvT hZ (hw _ (List.mem_of_getElem? (i := 72) rfl)))) (hw _ (List.mem_of_getElem? (i := 72) rfl)) (hw _ (List.mem_of_getElem? (i := 71) rfl)) (hw _ (List.mem_of_getElem? (i := 73) rfl)) (hw _ (List.mem_of_getElem? (i := 40) rfl)) (by decide) (by decide) (by decide) (by decide) (by decide) rfl E_o3 (g := (mkF m 125 #[.val (.long q1), .second, .val (.int p2), .val (.int p3), .val (.int p4), .val (.int p5), .val (.ref r1), .val (.int (p5 &&& (3 : Int32))), .val .null, .val (.ref o3), .unset] [(.ref o3)])) rfl (by rw [hml]; rfl) (lenOf own_pd12 rfl) rfl (by show 2 * 0 + _ ≤ _; exact Nat.le_of_eq rfl) (hb hby at_125)
    obtain ⟨rfl, e4, rfl⟩ := hQ4
    have X4 : Stand p l e room_1 (s.setVm s.vm) m #[(.long q1), (.int p2), (.int p3), (.int p4), (.int p5)] below meth c T4 lc3 1 5 := by have := X4; rwa [List.append_nil] at this
    refine own_st (T' := T4) (g' := (mkF m 128 #[.val (.long q1), .second, .val (.int p2), .val (.int p3), .val (.int p4), .val (.int p5), .val (.ref r1), .val (.int (p5 &&& (3 : Int32))), .val .null, .val (.ref o3), .unset] [.null])) st4 ?_
    refine own_st (T' := T4) (g' := (mkF m 131 #[.val (.long q1), .second, .val (.int p2), .val (.int p3), .val (.int p4), .val (.int p5), .val (.ref r1), .val (.int (p5 &&& (3 : Int32))), .val .null, .val (.ref o3), .unset] [])) (fun t k => XS.ifnonnullNo X4.here hx rfl (hb hby at_128) rfl k) ?_
    refine own_st (T' := T4) (g' := (mkF m 132 #[.val (.long q1), .second, .val (.int p2), .val (.int p3), .val (.int p4), .val (.int p5), .val (.ref r1), .val (.int (p5 &&& (3 : Int32))), .val .null, .val (.ref o3), .unset] [(.int (1 : Int32))])) (fun t k => XS.iconst X4.here hx rfl (hb hby at_131) k) ?_
    refine own_st (T' := T4) (g' := (mkF m 149 #[.val (.long q1), .second, .val (.int p2), .val (.int p3), .val (.int p4), .val (.int p5), .val (.ref r1), .val (.int (p5 &&& (3 : Int32))), .val .null, .val (.ref o3), .unset] [(.int (1 : Int32))])) (fun t k => XS.goto X4.here hx rfl (pc0 := 132) (pc' := 149) rfl (hb hby at_132) (by decide) (by decide) k) ?_
    refine own_st (T' := T4) (g' := (mkF m 151 #[.val (.long q1), .second, .val (.int p2), .val (.int p3), .val (.int p4), .val (.int p5), .val (.ref r1), .val (.int (p5 &&& (3 : Int32))), .val .null, .val (.ref o3), .val (.int (1 : Int32))] [])) (fun t k => XS.istore X4.here hx rfl (hb hby at_149) rfl (l' := #[.val (.long q1), .second, .val (.int p2), .val (.int p3), .val (.int p4), .val (.int p5), .val (.ref r1), .val (.int (p5 &&& (3 : Int32))), .val .null, .val (.ref o3), .val (.int (1 : Int32))]) rfl k) ?_
    refine own_st (T' := T4) (g' := (mkF m 153 #[.val (.long q1), .second, .val (.int p2), .val (.int p3), .val (.int p4), .val (.int p5), .val (.ref r1), .val (.int (p5 &&& (3 : Int32))), .val .null, .val (.ref o3), .val (.int (1 : Int32))] [(.ref o3)])) (fun t k => XS.aload X4.here hx rfl (hb hby at_151) rfl rfl k) ?_
    obtain ⟨_, T5, L5, hQ5, X5, st5⟩ := own_callV (y := (⟨"com/example/sheaf/sheaf/engine/InstructionResult", "seq", "()J"⟩ : MethodName)) (z := (⟨"com/example/sheaf/sheaf/engine/InstructionResult", "seq", "()J"⟩ : MethodName)) (argsL := []) 0 [] (K := "com/example/sheaf/sheaf/engine/InstructionResult") (own_rm14 l Z a0 hw T3.heap n0 Z3 o3 q1 F_seq_o3) X4 hx hZ hown (hw _ (List.mem_of_getElem? (i := 79) rfl)) (hw _ (List.mem_of_getElem? (i := 80) rfl)) (notFace_of_selects (args := #[]) (mvT hZ (hw _ (List.mem_of_getElem? (i := 82) rfl)))) (hw _ (List.mem_of_getElem? (i := 82) rfl)) (hw _ (List.mem_of_getElem? (i := 81) rfl)) (hw _ (List.mem_of_getElem? (i := 83) rfl)) (hw _ (List.mem_of_getElem? (i := 40) rfl)) (by decide) (by decide) (by decide) (by decide) (by decide) e4 E_o3 (g := (mkF m 153 #[.val (.long q1), .second, .val (.int p2), .val (.int p3), .val (.int p4), .val (.int p5), .val (.ref r1), .val (.int (p5 &&& (3 : Int32))), .val .null, .val (.ref o3), .val (.int (1 : Int32))] [(.ref o3)])) rfl (by rw [hml]; rfl) (lenOf own_pd13 rfl) rfl (by show 2 * 0 + _ ≤ _; exact Nat.le_of_eq rfl) (hb hby at_153)
    obtain ⟨rfl, e5, rfl⟩ := hQ5
    have X5 : Stand p l e room_1 (s.setVm s.vm) m #[(.long q1), (.int p2), (.int p3), (.int p4), (.int p5)] below meth c T5 lc3 1 5 := by have := X5; rwa [List.append_nil] at this
    refine own_st (T' := T5) (g' := (mkF m 156 #[.val (.long q1), .second, .val (.int p2), .val (.int p3), .val (.int p4), .val (.int p5), .val (.ref r1), .val (.int (p5 &&& (3 : Int32))), .val .null, .val (.ref o3), .val (.int (1 : Int32))] [(.long q1)])) st5 ?_
    refine own_st (T' := T5) (g' := (mkF m 157 #[.val (.long q1), .second, .val (.int p2), .val (.int p3), .val (.int p4), .val (.int p5), .val (.ref r1), .val (.int (p5 &&& (3 : Int32))), .val .null, .val (.ref o3), .val (.int (1 : Int32))] [(.long q1), (.long q1)])) (fun t k => XS.lloadN X5.here hx rfl (hb hby at_156) rfl k) ?_
    refine own_st (T' := T5) (g' := (mkF m 158 #[.val (.long q1), .second, .val (.int p2), .val (.int p3), .val (.int p4), .val (.int p5), .val (.ref r1), .val (.int (p5 &&& (3 : Int32))), .val .null, .val (.ref o3), .val (.int (1 : Int32))] [(.int (lcmpW q1 q1))])) (fun t k => XS.lcmp X5.here hx rfl (hb hby at_157) rfl k) ?_
    have hk6 : (lcmpW q1 q1) = (0 : Int32) := (lw_eq _ _).mpr rfl
    refine own_st (T' := T5) (g' := (mkF m 161 #[.val (.long q1), .second, .val (.int p2), .val (.int p3), .val (.int p4), .val (.int p5), .val (.ref r1), .val (.int (p5 &&& (3 : Int32))), .val .null, .val (.ref o3), .val (.int (1 : Int32))] [])) (fun t k => XS.ifNo X5.here hx rfl (hb hby at_158) rfl ((if0 _ _).trans (teq hk6).2) k) ?_
    refine own_st (T' := T5) (g' := (mkF m 163 #[.val (.long q1), .second, .val (.int p2), .val (.int p3), .val (.int p4), .val (.int p5), .val (.ref r1), .val (.int (p5 &&& (3 : Int32))), .val .null, .val (.ref o3), .val (.int (1 : Int32))] [(.ref o3)])) (fun t k => XS.aload X5.here hx rfl (hb hby at_161) rfl rfl k) ?_
    obtain ⟨_, T7, L7, hQ7, X7, st7⟩ := own_callV (y := (⟨"com/example/sheaf/sheaf/engine/InstructionResult", "failure", "()Lcom/example/sheaf/sheaf/engine/Failure;"⟩ : MethodName)) (z := (⟨"com/example/sheaf/sheaf/engine/InstructionResult", "failure", "()Lcom/example/sheaf/sheaf/engine/Failure;"⟩ : MethodName)) (argsL := []) 0 [] (K := "com/example/sheaf/sheaf/engine/InstructionResult") (own_rm15 l Z a0 hw T3.heap n0 Z3 o3 r1 F_failure_o3) X5 hx hZ hown (hw _ (List.mem_of_getElem? (i := 84) rfl)) (hw _ (List.mem_of_getElem? (i := 85) rfl)) (notFace_of_selects (args := #[]) (mvT hZ (hw _ (List.mem_of_getElem? (i := 87) rfl)))) (hw _ (List.mem_of_getElem? (i := 87) rfl)) (hw _ (List.mem_of_getElem? (i := 86) rfl)) (hw _ (List.mem_of_getElem? (i := 88) rfl)) (hw _ (List.mem_of_getElem? (i := 40) rfl)) (by decide) (by decide) (by decide) (by decide) (by decide) e5 E_o3 (g := (mkF m 163 #[.val (.long q1), .second, .val (.int p2), .val (.int p3), .val (.int p4), .val (.int p5), .val (.ref r1), .val (.int (p5 &&& (3 : Int32))), .val .null, .val (.ref o3), .val (.int (1 : Int32))] [(.ref o3)])) rfl (by rw [hml]; rfl) (lenOf own_pd14 rfl) rfl (by show 2 * 0 + _ ≤ _; exact Nat.le_of_eq rfl) (hb hby at_163)
    obtain ⟨rfl, e7, rfl⟩ := hQ7
    have X7 : Stand p l e room_1 (s.setVm s.vm) m #[(.long q1), (.int p2), (.int p3), (.int p4), (.int p5)] below meth c T7 lc3 1 5 := by have := X7; rwa [List.append_nil] at this
    refine own_st (T' := T7) (g' := (mkF m 166 #[.val (.long q1), .second, .val (.int p2), .val (.int p3), .val (.int p4), .val (.int p5), .val (.ref r1), .val (.int (p5 &&& (3 : Int32))), .val .null, .val (.ref o3), .val (.int (1 : Int32))] [(.ref r1)])) st7 ?_
    refine own_st (T' := T7) (g' := (mkF m 168 #[.val (.long q1), .second, .val (.int p2), .val (.int p3), .val (.int p4), .val (.int p5), .val (.ref r1), .val (.int (p5 &&& (3 : Int32))), .val .null, .val (.ref o3), .val (.int (1 : Int32))] [(.ref r1), (.ref r1)])) (fun t k => XS.aload X7.here hx rfl (hb hby at_166) rfl rfl k) ?_
    have hk8 : r1 = r1 := rfl
    refine own_st (T' := T7) (g' := (mkF m 171 #[.val (.long q1), .second, .val (.int p2), .val (.int p3), .val (.int p4), .val (.int p5), .val (.ref r1), .val (.int (p5 &&& (3 : Int32))), .val .null, .val (.ref o3), .val (.int (1 : Int32))] [])) (fun t k => Jvm.RoadKit.acmp (g := (mkF m 168 #[.val (.long q1), .second, .val (.int p2), .val (.int p3), .val (.int p4), .val (.int p5), .val (.ref r1), .val (.int (p5 &&& (3 : Int32))), .val .null, .val (.ref o3), .val (.int (1 : Int32))] [(.ref r1), (.ref r1)])) X7 hx rfl rfl rfl (pc0 := 168) (pc' := 171) (same := true) rfl (hb hby at_168) rfl (decide_eq_true (congrArg Value.ref hk8)) (by decide) (by decide) k) ?_
    refine own_st (T' := T7) (g' := (mkF m 173 #[.val (.long q1), .second, .val (.int p2), .val (.int p3), .val (.int p4), .val (.int p5), .val (.ref r1), .val (.int (p5 &&& (3 : Int32))), .val .null, .val (.ref o3), .val (.int (1 : Int32))] [(.int (1 : Int32))])) (fun t k => XS.iload X7.here hx rfl (hb hby at_171) rfl k) ?_
    refine own_st (T' := T7) (g' := (mkF m 176 #[.val (.long q1), .second, .val (.int p2), .val (.int p3), .val (.int p4), .val (.int p5), .val (.ref r1), .val (.int (p5 &&& (3 : Int32))), .val .null, .val (.ref o3), .val (.int (1 : Int32))] [])) (fun t k => XS.ifNo X7.here hx rfl (hb hby at_173) rfl ((if0 _ _).trans (feq (by decide)).1) k) ?_
    refine own_st (T' := T7) (g' := (mkF m 178 #[.val (.long q1), .second, .val (.int p2), .val (.int p3), .val (.int p4), .val (.int p5), .val (.ref r1), .val (.int (p5 &&& (3 : Int32))), .val .null, .val (.ref o3), .val (.int (1 : Int32))] [(.ref o3)])) (fun t k => XS.aload X7.here hx rfl (hb hby at_176) rfl rfl k) ?_
    obtain ⟨_, T9, L9, hQ9, X9, st9⟩ := own_callV (y := (⟨"com/example/sheaf/sheaf/engine/InstructionResult", "order", "()Lcom/example/sheaf/sheaf/engine/OrderState;"⟩ : MethodName)) (z := (⟨"com/example/sheaf/sheaf/engine/InstructionResult", "order", "()Lcom/example/sheaf/sheaf/engine/OrderState;"⟩ : MethodName)) (argsL := []) 0 [] (K := "com/example/sheaf/sheaf/engine/InstructionResult") (own_rm16 l Z a0 hw T3.heap n0 Z3 o3 F_order_o3) X7 hx hZ hown (hw _ (List.mem_of_getElem? (i := 89) rfl)) (hw _ (List.mem_of_getElem? (i := 90) rfl)) (notFace_of_selects (args := #[]) (mvT hZ (hw _ (List.mem_of_getElem? (i := 92) rfl)))) (hw _ (List.mem_of_getElem? (i := 92) rfl)) (hw _ (List.mem_of_getElem? (i := 91) rfl)) (hw _ (List.mem_of_getElem? (i := 93) rfl)) (hw _ (List.mem_of_getElem? (i := 40) rfl)) (by decide) (by decide) (by decide) (by decide) (by decide) e7 E_o3 (g := (mkF m 178 #[.val (.long q1), .second, .val (.int p2), .val (.int p3), .val (.int p4), .val (.int p5), .val (.ref r1), .val (.int (p5 &&& (3 : Int32))), .val .null, .val (.ref o3), .val (.int (1 : Int32))] [(.ref o3)])) rfl (by rw [hml]; rfl) (lenOf own_pd15 rfl) rfl (by show 2 * 0 + _ ≤ _; exact Nat.le_of_eq rfl) (hb hby at_178)
    obtain ⟨rfl, e9, rfl⟩ := hQ9
    have X9 : Stand p l e room_1 (s.setVm s.vm) m #[(.long q1), (.int p2), (.int p3), (.int p4), (.int p5)] below meth c T9 lc3 1 5 := by have := X9; rwa [List.append_nil] at this
    refine own_st (T' := T9) (g' := (mkF m 181 #[.val (.long q1), .second, .val (.int p2), .val (.int p3), .val (.int p4), .val (.int p5), .val (.ref r1), .val (.int (p5 &&& (3 : Int32))), .val .null, .val (.ref o3), .val (.int (1 : Int32))] [.null])) st9 ?_
    refine own_st (T' := T9) (g' := (mkF m 184 #[.val (.long q1), .second, .val (.int p2), .val (.int p3), .val (.int p4), .val (.int p5), .val (.ref r1), .val (.int (p5 &&& (3 : Int32))), .val .null, .val (.ref o3), .val (.int (1 : Int32))] [])) (fun t k => XS.ifnonnullNo X9.here hx rfl (hb hby at_181) rfl k) ?_
    refine own_st (T' := T9) (g' := (mkF m 186 #[.val (.long q1), .second, .val (.int p2), .val (.int p3), .val (.int p4), .val (.int p5), .val (.ref r1), .val (.int (p5 &&& (3 : Int32))), .val .null, .val (.ref o3), .val (.int (1 : Int32))] [(.ref o3)])) (fun t k => XS.aload X9.here hx rfl (hb hby at_184) rfl rfl k) ?_
    obtain ⟨_, T10, L10, hQ10, X10, st10⟩ := own_callV (y := (⟨"com/example/sheaf/sheaf/engine/InstructionResult", "fills", "()Ljava/util/List;"⟩ : MethodName)) (z := (⟨"com/example/sheaf/sheaf/engine/InstructionResult", "fills", "()Ljava/util/List;"⟩ : MethodName)) (argsL := []) 0 [] (K := "com/example/sheaf/sheaf/engine/InstructionResult") (own_rm17 l Z a0 hw T3.heap n0 Z3 o3 s_EL F_fills_o3) X9 hx hZ hown (hw _ (List.mem_of_getElem? (i := 94) rfl)) (hw _ (List.mem_of_getElem? (i := 95) rfl)) (notFace_of_selects (args := #[]) (mvT hZ (hw _ (List.mem_of_getElem? (i := 97) rfl)))) (hw _ (List.mem_of_getElem? (i := 97) rfl)) (hw _ (List.mem_of_getElem? (i := 96) rfl)) (hw _ (List.mem_of_getElem? (i := 98) rfl)) (hw _ (List.mem_of_getElem? (i := 40) rfl)) (by decide) (by decide) (by decide) (by decide) (by decide) e9 E_o3 (g := (mkF m 186 #[.val (.long q1), .second, .val (.int p2), .val (.int p3), .val (.int p4), .val (.int p5), .val (.ref r1), .val (.int (p5 &&& (3 : Int32))), .val .null, .val (.ref o3), .val (.int (1 : Int32))] [(.ref o3)])) rfl (by rw [hml]; rfl) (lenOf own_pd8 rfl) rfl (by show 2 * 0 + _ ≤ _; exact Nat.le_of_eq rfl) (hb hby at_186)
    obtain ⟨rfl, e10, rfl⟩ := hQ10
    have X10 : Stand p l e room_1 (s.setVm s.vm) m #[(.long q1), (.int p2), (.int p3), (.int p4), (.int p5)] below meth c T10 lc3 1 5 := by have := X10; rwa [List.append_nil] at this
    refine own_st (T' := T10) (g' := (mkF m 189 #[.val (.long q1), .second, .val (.int p2), .val (.int p3), .val (.int p4), .val (.int p5), .val (.ref r1), .val (.int (p5 &&& (3 : Int32))), .val .null, .val (.ref o3), .val (.int (1 : Int32))] [(.ref s_EL)])) st10 ?_
    refine own_st (T' := T10) (g' := (mkF m 192 #[.val (.long q1), .second, .val (.int p2), .val (.int p3), .val (.int p4), .val (.int p5), .val (.ref r1), .val (.int (p5 &&& (3 : Int32))), .val .null, .val (.ref o3), .val (.int (1 : Int32))] [])) (fun t k => XS.ifnullNo X10.here hx rfl (hb hby at_189) rfl k) ?_
    refine own_st (T' := T10) (g' := (mkF m 194 #[.val (.long q1), .second, .val (.int p2), .val (.int p3), .val (.int p4), .val (.int p5), .val (.ref r1), .val (.int (p5 &&& (3 : Int32))), .val .null, .val (.ref o3), .val (.int (1 : Int32))] [(.ref o3)])) (fun t k => XS.aload X10.here hx rfl (hb hby at_192) rfl rfl k) ?_
    obtain ⟨_, T11, L11, hQ11, X11, st11⟩ := own_callV (y := (⟨"com/example/sheaf/sheaf/engine/InstructionResult", "fills", "()Ljava/util/List;"⟩ : MethodName)) (z := (⟨"com/example/sheaf/sheaf/engine/InstructionResult", "fills", "()Ljava/util/List;"⟩ : MethodName)) (argsL := []) 0 [] (K := "com/example/sheaf/sheaf/engine/InstructionResult") (own_rm17 l Z a0 hw T3.heap n0 Z3 o3 s_EL F_fills_o3) X10 hx hZ hown (hw _ (List.mem_of_getElem? (i := 94) rfl)) (hw _ (List.mem_of_getElem? (i := 95) rfl)) (notFace_of_selects (args := #[]) (mvT hZ (hw _ (List.mem_of_getElem? (i := 97) rfl)))) (hw _ (List.mem_of_getElem? (i := 97) rfl)) (hw _ (List.mem_of_getElem? (i := 96) rfl)) (hw _ (List.mem_of_getElem? (i := 98) rfl)) (hw _ (List.mem_of_getElem? (i := 40) rfl)) (by decide) (by decide) (by decide) (by decide) (by decide) e10 E_o3 (g := (mkF m 194 #[.val (.long q1), .second, .val (.int p2), .val (.int p3), .val (.int p4), .val (.int p5), .val (.ref r1), .val (.int (p5 &&& (3 : Int32))), .val .null, .val (.ref o3), .val (.int (1 : Int32))] [(.ref o3)])) rfl (by rw [hml]; rfl) (lenOf own_pd8 rfl) rfl (by show 2 * 0 + _ ≤ _; exact Nat.le_of_eq rfl) (hb hby at_194)
    obtain ⟨rfl, e11, rfl⟩ := hQ11
    have X11 : Stand p l e room_1 (s.setVm s.vm) m #[(.long q1), (.int p2), (.int p3), (.int p4), (.int p5)] below meth c T11 lc3 1 5 := by have := X11; rwa [List.append_nil] at this
    refine own_st (T' := T11) (g' := (mkF m 197 #[.val (.long q1), .second, .val (.int p2), .val (.int p3), .val (.int p4), .val (.int p5), .val (.ref r1), .val (.int (p5 &&& (3 : Int32))), .val .null, .val (.ref o3), .val (.int (1 : Int32))] [(.ref s_EL)])) st11 ?_
    obtain ⟨_, T12, L12, hQ12, X12, st12⟩ := own_callF (y := (⟨"java/util/List", "size", "()I"⟩ : MethodName)) (z := (⟨"java/util/ImmutableCollections$ListN", "size", "()I"⟩ : MethodName)) (argsL := []) 0 [] (K := "java/util/ImmutableCollections$ListN") (own_rm18 l Z a0 hw T3.heap n0 Z3 s_EL _ _ F_elements_s_EL V_s_EA) X11 hx hZ hown (hw _ (List.mem_of_getElem? (i := 99) rfl)) (hw _ (List.mem_of_getElem? (i := 100) rfl)) (mvT hZ (hw _ (List.mem_of_getElem? (i := 101) rfl))) (hw _ (List.mem_of_getElem? (i := 102) rfl)) (hw _ (List.mem_of_getElem? (i := 103) rfl)) (hw _ (List.mem_of_getElem? (i := 104) rfl)) (hw _ (List.mem_of_getElem? (i := 105) rfl)) (hw _ (List.mem_of_getElem? (i := 106) rfl)) (hw _ (List.mem_of_getElem? (i := 108) rfl)) (hw _ (List.mem_of_getElem? (i := 107) rfl)) (by decide) (by decide) (by decide) (by decide) (by decide) e11 E_s_EL (g := (mkF m 197 #[.val (.long q1), .second, .val (.int p2), .val (.int p3), .val (.int p4), .val (.int p5), .val (.ref r1), .val (.int (p5 &&& (3 : Int32))), .val .null, .val (.ref o3), .val (.int (1 : Int32))] [(.ref s_EL)])) rfl (by rw [hml]; rfl) (lenOf own_pd16 rfl) rfl (by show 2 * 0 + _ ≤ _; exact Nat.le_of_eq rfl) (hb hby at_197)
    obtain ⟨rfl, e12, rfl⟩ := hQ12
    have X12 : Stand p l e room_1 (s.setVm s.vm) m #[(.long q1), (.int p2), (.int p3), (.int p4), (.int p5)] below meth c T12 lc3 1 5 := by have := X12; rwa [List.append_nil] at this
    refine own_st (T' := T12) (g' := (mkF m 202 #[.val (.long q1), .second, .val (.int p2), .val (.int p3), .val (.int p4), .val (.int p5), .val (.ref r1), .val (.int (p5 &&& (3 : Int32))), .val .null, .val (.ref o3), .val (.int (1 : Int32))] [(.int (0 : Int32))])) st12 ?_
    refine own_st (T' := T12) (g' := (mkF m 205 #[.val (.long q1), .second, .val (.int p2), .val (.int p3), .val (.int p4), .val (.int p5), .val (.ref r1), .val (.int (p5 &&& (3 : Int32))), .val .null, .val (.ref o3), .val (.int (1 : Int32))] [])) (fun t k => XS.ifNo X12.here hx rfl (hb hby at_202) rfl ((if0 _ _).trans (teq (by decide)).2) k) ?_
    refine own_st (T' := T12) (g' := (mkF m 206 #[.val (.long q1), .second, .val (.int p2), .val (.int p3), .val (.int p4), .val (.int p5), .val (.ref r1), .val (.int (p5 &&& (3 : Int32))), .val .null, .val (.ref o3), .val (.int (1 : Int32))] [(.int (1 : Int32))])) (fun t k => XS.iconst X12.here hx rfl (hb hby at_205) k) ?_
    refine own_st (T' := T12) (g' := (mkF m 210 #[.val (.long q1), .second, .val (.int p2), .val (.int p3), .val (.int p4), .val (.int p5), .val (.ref r1), .val (.int (p5 &&& (3 : Int32))), .val .null, .val (.ref o3), .val (.int (1 : Int32))] [(.int (1 : Int32))])) (fun t k => XS.goto X12.here hx rfl (pc0 := 206) (pc' := 210) rfl (hb hby at_206) (by decide) (by decide) k) ?_
    exact own_retBW X12 hS (by rw [e12]; exact hkS) hx hlk hret (hb hby at_210) (by decide) (by decide) rfl ⟨rfl, N3⟩
  ·
    refine own_st (T' := T1) (g' := (mkF m 23 #[.val (.long q1), .second, .val (.int p2), .val (.int p3), .val (.int p4), .val (.int p5), .val (.ref r1), .val (.int (p5 &&& (3 : Int32))), .unset, .unset, .unset] [])) (fun t k => XS.ifYes X1.here hx rfl (pc0 := 14) (pc' := 23) rfl (hb hby at_14) rfl ((if0 _ _).trans (feq hc14_2).2) (by decide) (by decide) k) ?_
    refine own_st (T' := T1) (g' := (mkF m 25 #[.val (.long q1), .second, .val (.int p2), .val (.int p3), .val (.int p4), .val (.int p5), .val (.ref r1), .val (.int (p5 &&& (3 : Int32))), .unset, .unset, .unset] [(.int (p5 &&& (3 : Int32)))])) (fun t k => XS.iload X1.here hx rfl (hb hby at_23) rfl k) ?_
    refine own_st (T' := T1) (g' := (mkF m 26 #[.val (.long q1), .second, .val (.int p2), .val (.int p3), .val (.int p4), .val (.int p5), .val (.ref r1), .val (.int (p5 &&& (3 : Int32))), .unset, .unset, .unset] [(.int (1 : Int32)), (.int (p5 &&& (3 : Int32)))])) (fun t k => XS.iconst X1.here hx rfl (hb hby at_25) k) ?_
    by_cases hc26_13 : (p5 &&& (3 : Int32)) = (1 : Int32)
    ·
      refine own_st (T' := T1) (g' := (mkF m 29 #[.val (.long q1), .second, .val (.int p2), .val (.int p3), .val (.int p4), .val (.int p5), .val (.ref r1), .val (.int (p5 &&& (3 : Int32))), .unset, .unset, .unset] [])) (fun t k => XS.icmpNo X1.here hx rfl (hb hby at_26) rfl (teq hc26_13).2 k) ?_
      obtain ⟨T14, h14, X14, e14, E14, A14, D14, -, st14⟩ := newO X1 hx hZ hown (hw _ (List.mem_of_getElem? (i := 9) rfl)) (hw _ (List.mem_of_getElem? (i := 10) rfl)) (hw _ (List.mem_of_getElem? (i := 11) rfl)) e1 (g := (mkF m 29 #[.val (.long q1), .second, .val (.int p2), .val (.int p3), .val (.int p4), .val (.int p5), .val (.ref r1), .val (.int (p5 &&& (3 : Int32))), .unset, .unset, .unset] [])) rfl (hb hby at_29) (by decide) (by decide)
      obtain ⟨b14, gb14⟩ : ∃ z, z = h0.size := ⟨_, rfl⟩
      rw [← gb14] at A14 D14 st14
      have ne_s_EL_b14 : s_EL ≠ b14 := by rw [gb14]; exact Nat.ne_of_lt E_s_EL.lt
      have ne_s_EA_b14 : s_EA ≠ b14 := by rw [gb14]; exact Nat.ne_of_lt V_s_EA.lt
      have g_b14 : n0 ≤ b14 := Nat.le_trans Z0 (Nat.le_of_eq gb14.symm)
      have Z14 : n0 ≤ h14.size := Nat.le_trans Z0 E14.1
      have hkS := Nat.le_trans hkS E14.1
      have O := O.ext E14
      have E_s_EL := E_s_EL.ext E14
      have F_elements_s_EL := F_elements_s_EL.ext E14
      have V_s_EA := V_s_EA.ext E14
      have hCH := hCH.ext E14
      have E_b14 := A14
      have F_coder_b14 : Fld Z h14 b14 "java/lang/String" "coder" "B" (.int (0 : Int32)) := D14 (Or.inr (hw _ (List.mem_of_getElem? (i := 35) rfl))) (ty := .byte) (by decide)
      have F_value_b14 : Fld Z h14 b14 "java/lang/String" "value" "[B" .null := D14 (Or.inr (hw _ (List.mem_of_getElem? (i := 37) rfl))) (ty := (.array .byte)) (by decide)
      have X14 : Stand p l e room_1 (s.setVm s.vm) m #[(.long q1), (.int p2), (.int p3), (.int p4), (.int p5)] below meth c T14 [] 1 4 := X14
      refine own_st (T' := T14) (g' := (mkF m 32 #[.val (.long q1), .second, .val (.int p2), .val (.int p3), .val (.int p4), .val (.int p5), .val (.ref r1), .val (.int (p5 &&& (3 : Int32))), .unset, .unset, .unset] [(.ref b14)])) st14 ?_
      refine own_st (T' := T14) (g' := (mkF m 33 #[.val (.long q1), .second, .val (.int p2), .val (.int p3), .val (.int p4), .val (.int p5), .val (.ref r1), .val (.int (p5 &&& (3 : Int32))), .unset, .unset, .unset] [(.ref b14), (.ref b14)])) (fun t k => XS.dup X14.here hx rfl (hb hby at_32) rfl rfl k) ?_
      refine own_st (T' := T14) (g' := (mkF m 34 #[.val (.long q1), .second, .val (.int p2), .val (.int p3), .val (.int p4), .val (.int p5), .val (.ref r1), .val (.int (p5 &&& (3 : Int32))), .unset, .unset, .unset] [(.int (0 : Int32)), (.ref b14), (.ref b14)])) (fun t k => XS.iconst X14.here hx rfl (hb hby at_33) k) ?_
      obtain ⟨T15, h15, k15, X15, e15, E15, A15, Ex15, st15⟩ := newPE X14 hx hZ (aty := .char) (hw _ (List.mem_of_getElem? (i := 8) rfl)) e14 (g := (mkF m 34 #[.val (.long q1), .second, .val (.int p2), .val (.int p3), .val (.int p4), .val (.int p5), .val (.ref r1), .val (.int (p5 &&& (3 : Int32))), .unset, .unset, .unset] [(.int (0 : Int32)), (.ref b14), (.ref b14)])) rfl (hb hby at_34) rfl (by decide) (cap := 0) (by decide) (by decide) (by decide) (by decide) (ad := "[C") (by decide)
      obtain ⟨b15, gb15⟩ : ∃ z, z = h14.size := ⟨_, rfl⟩
      rw [← gb15] at A15 Ex15 st15
      have ne_s_EL_b15 : s_EL ≠ b15 := by rw [gb15]; exact Nat.ne_of_lt E_s_EL.lt
      have ne_s_EA_b15 : s_EA ≠ b15 := by rw [gb15]; exact Nat.ne_of_lt V_s_EA.lt
      have ne_b14_b15 : b14 ≠ b15 := by rw [gb15]; exact Nat.ne_of_lt E_b14.lt
      have g_b15 : n0 ≤ b15 := Nat.le_trans Z14 (Nat.le_of_eq gb15.symm)
      have Z15 : n0 ≤ h15.size := Nat.le_trans Z14 E15.1
      have hkS := Nat.le_trans hkS E15.1
      have O := O.ext E15
      have E_s_EL := E_s_EL.ext E15
      have F_elements_s_EL := F_elements_s_EL.ext E15
      have V_s_EA := V_s_EA.ext E15
      have hCH := hCH.ext E15
      have E_b14 := E_b14.ext E15
      have F_coder_b14 := F_coder_b14.ext E15
      have F_value_b14 := F_value_b14.ext E15
      have V_b15 : Arv Z h15 b15 k15 .char (0 : Int32) [] (.int (0 : Int32)) := (Arv.new A15 (by decide)).pad (pad_rep [] (.int (0 : Int32)) 0)
      have E_b15 := Ex15
      have X15 : Stand p l e room_1 (s.setVm s.vm) m #[(.long q1), (.int p2), (.int p3), (.int p4), (.int p5)] below meth c T15 [] 2 4 := X15
      refine own_st (T' := T15) (g' := (mkF m 36 #[.val (.long q1), .second, .val (.int p2), .val (.int p3), .val (.int p4), .val (.int p5), .val (.ref r1), .val (.int (p5 &&& (3 : Int32))), .unset, .unset, .unset] [(.ref b15), (.ref b14), (.ref b14)])) st15 ?_
      obtain ⟨_, T16, L16, hQ16, X16, hS, hZ, hown, -, st16⟩ := own_callIH (y := (⟨"java/lang/String", "<init>", "([C)V"⟩ : MethodName)) (argsL := [(.ref b15)]) 1 [(.ref b14)] (own_rm2n0 l Z a0 hw h15 n0 Z15 b14 b15 E_b14 g_b14 _ F_coder_b14 F_value_b14 k15 V_b15 (Ne.symm ne_b14_b15)) X15 hx hZ hown hS hkS (own_EL hw) hCH rfl (hw _ (List.mem_of_getElem? (i := 12) rfl)) (hw _ (List.mem_of_getElem? (i := 13) rfl)) (hw _ (List.mem_of_getElem? (i := 14) rfl)) (hw _ (List.mem_of_getElem? (i := 11) rfl)) (by decide) (by decide) (by decide) (by decide) (by decide) e15 (g := (mkF m 36 #[.val (.long q1), .second, .val (.int p2), .val (.int p3), .val (.int p4), .val (.int p5), .val (.ref r1), .val (.int (p5 &&& (3 : Int32))), .unset, .unset, .unset] [(.ref b15), (.ref b14), (.ref b14)])) rfl (by rw [hml]; rfl) (lenOf own_pd17 rfl) rfl (by show 2 * 0 + _ ≤ _; exact Nat.le_of_eq rfl) (hb hby at_36)
      obtain ⟨rfl, N16q, Kq16, E_b14⟩ := hQ16
      have Z16 : n0 ≤ T16.heap.size := Nat.le_trans Z15 Kq16.1
      have hkS := Nat.le_trans hkS Kq16.1
      have O := O.keep Kq16 (allS g_b14 all0)
      have E_s_EL := E_s_EL.keep Kq16
      have F_elements_s_EL := F_elements_s_EL.keep Kq16 (ninS ne_s_EL_b14 nin0)
      have V_s_EA := V_s_EA.keep Kq16 (ninS ne_s_EA_b14 nin0)
      have V_b15 := V_b15.keep Kq16 (ninS (Ne.symm ne_b14_b15) nin0)
      have E_b15 := E_b15.keep Kq16
      have N16 := Fr.app N0 N16q
      generalize hlc16 : ([] ++ L16 : List Loc) = lc16 at X16 N16
      have X16 : Stand p l e room_1 (s.setVm T16.vm) m #[(.long q1), (.int p2), (.int p3), (.int p4), (.int p5)] below meth c T16 lc16 6 12 := X16
      refine own_st (T' := T16) (g' := (mkF m 39 #[.val (.long q1), .second, .val (.int p2), .val (.int p3), .val (.int p4), .val (.int p5), .val (.ref r1), .val (.int (p5 &&& (3 : Int32))), .unset, .unset, .unset] [(.ref b14)])) st16 ?_
      have hkS := Nat.le_refl T16.heap.size
      refine own_st (T' := T16) (g' := (mkF m 41 #[.val (.long q1), .second, .val (.int p2), .val (.int p3), .val (.int p4), .val (.int p5), .val (.ref r1), .val (.int (p5 &&& (3 : Int32))), .val (.ref b14), .unset, .unset] [])) (fun t k => XS.astore X16.here hx rfl (hb hby at_39) rfl rfl (l' := #[.val (.long q1), .second, .val (.int p2), .val (.int p3), .val (.int p4), .val (.int p5), .val (.ref r1), .val (.int (p5 &&& (3 : Int32))), .val (.ref b14), .unset, .unset]) rfl k) ?_
      refine own_st (T' := T16) (g' := (mkF m 101 #[.val (.long q1), .second, .val (.int p2), .val (.int p3), .val (.int p4), .val (.int p5), .val (.ref r1), .val (.int (p5 &&& (3 : Int32))), .val (.ref b14), .unset, .unset] [])) (fun t k => XS.goto X16.here hx rfl (pc0 := 41) (pc' := 101) rfl (hb hby at_41) (by decide) (by decide) k) ?_
      refine own_st (T' := T16) (g' := (mkF m 102 #[.val (.long q1), .second, .val (.int p2), .val (.int p3), .val (.int p4), .val (.int p5), .val (.ref r1), .val (.int (p5 &&& (3 : Int32))), .val (.ref b14), .unset, .unset] [(.long q1)])) (fun t k => XS.lloadN X16.here hx rfl (hb hby at_101) rfl k) ?_
      refine own_st (T' := T16) (g' := (mkF m 104 #[.val (.long q1), .second, .val (.int p2), .val (.int p3), .val (.int p4), .val (.int p5), .val (.ref r1), .val (.int (p5 &&& (3 : Int32))), .val (.ref b14), .unset, .unset] [(.ref r1), (.long q1)])) (fun t k => XS.aload X16.here hx rfl (hb hby at_102) rfl rfl k) ?_
      refine own_st (T' := T16) (g' := (mkF m 106 #[.val (.long q1), .second, .val (.int p2), .val (.int p3), .val (.int p4), .val (.int p5), .val (.ref r1), .val (.int (p5 &&& (3 : Int32))), .val (.ref b14), .unset, .unset] [(.ref b14), (.ref r1), (.long q1)])) (fun t k => XS.aload X16.here hx rfl (hb hby at_104) rfl rfl k) ?_
      have lt17_s_EL := E_s_EL.lt
      have lt17_s_EA := V_s_EA.lt
      have lt17_b14 := E_b14.lt
      have lt17_b15 := V_b15.lt
      obtain ⟨_, T17, L17, hQ17, X17, st17⟩ := own_callS (y := (⟨"com/example/sheaf/sheaf/engine/InstructionResult", "failed", "(JLcom/example/sheaf/sheaf/engine/Failure;Ljava/lang/String;)Lcom/example/sheaf/sheaf/engine/InstructionResult;"⟩ : MethodName)) (argsL := [(.long q1), (.ref r1), (.ref b14)]) 0 [] (own_rm8t l Z a0 hw T16.heap n0 Z16 q1 r1 b14 O s_EL S_EL) X16 hx hZ hown (hw _ (List.mem_of_getElem? (i := 38) rfl)) (hw _ (List.mem_of_getElem? (i := 39) rfl)) (hw _ (List.mem_of_getElem? (i := 40) rfl)) (hw _ (List.mem_of_getElem? (i := 41) rfl)) (by decide) (by decide) (by decide) (by decide) (by decide) rfl (g := (mkF m 106 #[.val (.long q1), .second, .val (.int p2), .val (.int p3), .val (.int p4), .val (.int p5), .val (.ref r1), .val (.int (p5 &&& (3 : Int32))), .val (.ref b14), .unset, .unset] [(.ref b14), (.ref r1), (.long q1)])) rfl (by rw [hml]; rfl) (lenOf own_pd11 rfl) rfl (by show 2 * 0 + _ ≤ _; exact Nat.le_of_eq rfl) (hb hby at_106)
      obtain ⟨o17, rfl, N17q, Eq17, sz_o17, E_o17, F_seq_o17, F_failure_o17, F_text_o17, F_order_o17, F_fills_o17⟩ := hQ17
      have Z17 : n0 ≤ T17.heap.size := Nat.le_trans Z16 Eq17.1
      have hkS := Nat.le_trans hkS Eq17.1
      have O := O.ext Eq17
      have E_s_EL := E_s_EL.ext Eq17
      have F_elements_s_EL := F_elements_s_EL.ext Eq17
      have V_s_EA := V_s_EA.ext Eq17
      have E_b14 := E_b14.ext Eq17
      have V_b15 := V_b15.ext Eq17
      have E_b15 := E_b15.ext Eq17
      have N17 := Fr.app N16 N17q
      generalize hlc17 : (lc16 ++ L17 : List Loc) = lc17 at X17 N17
      have X17 : Stand p l e room_1 (s.setVm T16.vm) m #[(.long q1), (.int p2), (.int p3), (.int p4), (.int p5)] below meth c T17 lc17 7 17 := X17
      have g_o17 : n0 ≤ o17 := Nat.le_trans Z16 sz_o17
      have ne_s_EL_o17 : s_EL ≠ o17 := Nat.ne_of_lt (Nat.lt_of_lt_of_le lt17_s_EL sz_o17)
      have ne_s_EA_o17 : s_EA ≠ o17 := Nat.ne_of_lt (Nat.lt_of_lt_of_le lt17_s_EA sz_o17)
      have ne_b14_o17 : b14 ≠ o17 := Nat.ne_of_lt (Nat.lt_of_lt_of_le lt17_b14 sz_o17)
      have ne_b15_o17 : b15 ≠ o17 := Nat.ne_of_lt (Nat.lt_of_lt_of_le lt17_b15 sz_o17)
      refine own_st (T' := T17) (g' := (mkF m 109 #[.val (.long q1), .second, .val (.int p2), .val (.int p3), .val (.int p4), .val (.int p5), .val (.ref r1), .val (.int (p5 &&& (3 : Int32))), .val (.ref b14), .unset, .unset] [(.ref o17)])) st17 ?_
      refine own_st (T' := T17) (g' := (mkF m 111 #[.val (.long q1), .second, .val (.int p2), .val (.int p3), .val (.int p4), .val (.int p5), .val (.ref r1), .val (.int (p5 &&& (3 : Int32))), .val (.ref b14), .val (.ref o17), .unset] [])) (fun t k => XS.astore X17.here hx rfl (hb hby at_109) rfl rfl (l' := #[.val (.long q1), .second, .val (.int p2), .val (.int p3), .val (.int p4), .val (.int p5), .val (.ref r1), .val (.int (p5 &&& (3 : Int32))), .val (.ref b14), .val (.ref o17), .unset]) rfl k) ?_
      refine own_st (T' := T17) (g' := (mkF m 113 #[.val (.long q1), .second, .val (.int p2), .val (.int p3), .val (.int p4), .val (.int p5), .val (.ref r1), .val (.int (p5 &&& (3 : Int32))), .val (.ref b14), .val (.ref o17), .unset] [(.ref o17)])) (fun t k => XS.aload X17.here hx rfl (hb hby at_111) rfl rfl k) ?_
      refine own_st (T' := T17) (g' := (mkF m 118 #[.val (.long q1), .second, .val (.int p2), .val (.int p3), .val (.int p4), .val (.int p5), .val (.ref r1), .val (.int (p5 &&& (3 : Int32))), .val (.ref b14), .val (.ref o17), .unset] [])) (fun t k => XS.ifnonnullYes X17.here hx rfl (pc0 := 113) (pc' := 118) rfl (hb hby at_113) rfl (by decide) (by decide) k) ?_
      refine own_st (T' := T17) (g' := (mkF m 120 #[.val (.long q1), .second, .val (.int p2), .val (.int p3), .val (.int p4), .val (.int p5), .val (.ref r1), .val (.int (p5 &&& (3 : Int32))), .val (.ref b14), .val (.ref o17), .unset] [(.ref b14)])) (fun t k => XS.aload X17.here hx rfl (hb hby at_118) rfl rfl k) ?_
      refine own_st (T' := T17) (g' := (mkF m 139 #[.val (.long q1), .second, .val (.int p2), .val (.int p3), .val (.int p4), .val (.int p5), .val (.ref r1), .val (.int (p5 &&& (3 : Int32))), .val (.ref b14), .val (.ref o17), .unset] [])) (fun t k => XS.ifnonnullYes X17.here hx rfl (pc0 := 120) (pc' := 139) rfl (hb hby at_120) rfl (by decide) (by decide) k) ?_
      refine own_st (T' := T17) (g' := (mkF m 141 #[.val (.long q1), .second, .val (.int p2), .val (.int p3), .val (.int p4), .val (.int p5), .val (.ref r1), .val (.int (p5 &&& (3 : Int32))), .val (.ref b14), .val (.ref o17), .unset] [(.ref b14)])) (fun t k => XS.aload X17.here hx rfl (hb hby at_139) rfl rfl k) ?_
      refine own_st (T' := T17) (g' := (mkF m 143 #[.val (.long q1), .second, .val (.int p2), .val (.int p3), .val (.int p4), .val (.int p5), .val (.ref r1), .val (.int (p5 &&& (3 : Int32))), .val (.ref b14), .val (.ref o17), .unset] [(.ref o17), (.ref b14)])) (fun t k => XS.aload X17.here hx rfl (hb hby at_141) rfl rfl k) ?_
      obtain ⟨_, T18, L18, hQ18, X18, st18⟩ := own_callV (y := (⟨"com/example/sheaf/sheaf/engine/InstructionResult", "text", "()Ljava/lang/String;"⟩ : MethodName)) (z := (⟨"com/example/sheaf/sheaf/engine/InstructionResult", "text", "()Ljava/lang/String;"⟩ : MethodName)) (argsL := []) 1 [(.ref b14)] (K := "com/example/sheaf/sheaf/engine/InstructionResult") (own_rm12t l Z a0 hw T17.heap n0 Z17 o17 b14 F_text_o17) X17 hx hZ hown (hw _ (List.mem_of_getElem? (i := 69) rfl)) (hw _ (List.mem_of_getElem? (i := 70) rfl)) (notFace_of_selects (args := #[]) (mvT hZ (hw _ (List.mem_of_getElem? (i := 72) rfl)))) (hw _ (List.mem_of_getElem? (i := 72) rfl)) (hw _ (List.mem_of_getElem? (i := 71) rfl)) (hw _ (List.mem_of_getElem? (i := 73) rfl)) (hw _ (List.mem_of_getElem? (i := 40) rfl)) (by decide) (by decide) (by decide) (by decide) (by decide) rfl E_o17 (g := (mkF m 143 #[.val (.long q1), .second, .val (.int p2), .val (.int p3), .val (.int p4), .val (.int p5), .val (.ref r1), .val (.int (p5 &&& (3 : Int32))), .val (.ref b14), .val (.ref o17), .unset] [(.ref o17), (.ref b14)])) rfl (by rw [hml]; rfl) (lenOf own_pd12 rfl) rfl (by show 2 * 0 + _ ≤ _; exact Nat.le_of_eq rfl) (hb hby at_143)
      obtain ⟨rfl, e18, rfl⟩ := hQ18
      have X18 : Stand p l e room_1 (s.setVm T16.vm) m #[(.long q1), (.int p2), (.int p3), (.int p4), (.int p5)] below meth c T18 lc17 7 17 := by have := X18; rwa [List.append_nil] at this
      refine own_st (T' := T18) (g' := (mkF m 146 #[.val (.long q1), .second, .val (.int p2), .val (.int p3), .val (.int p4), .val (.int p5), .val (.ref r1), .val (.int (p5 &&& (3 : Int32))), .val (.ref b14), .val (.ref o17), .unset] [(.ref b14), (.ref b14)])) st18 ?_
      obtain ⟨_, T19, L19, hQ19, X19, st19⟩ := own_callV (y := (⟨"java/lang/String", "equals", "(Ljava/lang/Object;)Z"⟩ : MethodName)) (z := (⟨"java/lang/String", "equals", "(Ljava/lang/Object;)Z"⟩ : MethodName)) (argsL := [(.ref b14)]) 0 [] (K := "java/lang/String") (own_rm13 l Z a0 hw T17.heap n0 Z17 b14) X18 hx hZ hown (hw _ (List.mem_of_getElem? (i := 74) rfl)) (hw _ (List.mem_of_getElem? (i := 75) rfl)) (notFace_of_selects (args := #[]) (mvT hZ (hw _ (List.mem_of_getElem? (i := 77) rfl)))) (hw _ (List.mem_of_getElem? (i := 77) rfl)) (hw _ (List.mem_of_getElem? (i := 76) rfl)) (hw _ (List.mem_of_getElem? (i := 78) rfl)) (hw _ (List.mem_of_getElem? (i := 11) rfl)) (by decide) (by decide) (by decide) (by decide) (by decide) e18 E_b14 (g := (mkF m 146 #[.val (.long q1), .second, .val (.int p2), .val (.int p3), .val (.int p4), .val (.int p5), .val (.ref r1), .val (.int (p5 &&& (3 : Int32))), .val (.ref b14), .val (.ref o17), .unset] [(.ref b14), (.ref b14)])) rfl (by rw [hml]; rfl) (lenOf own_pd18 rfl) rfl (by show 2 * 0 + _ ≤ _; exact Nat.le_of_eq rfl) (hb hby at_146)
      obtain ⟨rfl, e19, rfl⟩ := hQ19
      have X19 : Stand p l e room_1 (s.setVm T16.vm) m #[(.long q1), (.int p2), (.int p3), (.int p4), (.int p5)] below meth c T19 lc17 7 17 := by have := X19; rwa [List.append_nil] at this
      refine own_st (T' := T19) (g' := (mkF m 149 #[.val (.long q1), .second, .val (.int p2), .val (.int p3), .val (.int p4), .val (.int p5), .val (.ref r1), .val (.int (p5 &&& (3 : Int32))), .val (.ref b14), .val (.ref o17), .unset] [(.int (1 : Int32))])) st19 ?_
      refine own_st (T' := T19) (g' := (mkF m 151 #[.val (.long q1), .second, .val (.int p2), .val (.int p3), .val (.int p4), .val (.int p5), .val (.ref r1), .val (.int (p5 &&& (3 : Int32))), .val (.ref b14), .val (.ref o17), .val (.int (1 : Int32))] [])) (fun t k => XS.istore X19.here hx rfl (hb hby at_149) rfl (l' := #[.val (.long q1), .second, .val (.int p2), .val (.int p3), .val (.int p4), .val (.int p5), .val (.ref r1), .val (.int (p5 &&& (3 : Int32))), .val (.ref b14), .val (.ref o17), .val (.int (1 : Int32))]) rfl k) ?_
      refine own_st (T' := T19) (g' := (mkF m 153 #[.val (.long q1), .second, .val (.int p2), .val (.int p3), .val (.int p4), .val (.int p5), .val (.ref r1), .val (.int (p5 &&& (3 : Int32))), .val (.ref b14), .val (.ref o17), .val (.int (1 : Int32))] [(.ref o17)])) (fun t k => XS.aload X19.here hx rfl (hb hby at_151) rfl rfl k) ?_
      obtain ⟨_, T20, L20, hQ20, X20, st20⟩ := own_callV (y := (⟨"com/example/sheaf/sheaf/engine/InstructionResult", "seq", "()J"⟩ : MethodName)) (z := (⟨"com/example/sheaf/sheaf/engine/InstructionResult", "seq", "()J"⟩ : MethodName)) (argsL := []) 0 [] (K := "com/example/sheaf/sheaf/engine/InstructionResult") (own_rm14 l Z a0 hw T17.heap n0 Z17 o17 q1 F_seq_o17) X19 hx hZ hown (hw _ (List.mem_of_getElem? (i := 79) rfl)) (hw _ (List.mem_of_getElem? (i := 80) rfl)) (notFace_of_selects (args := #[]) (mvT hZ (hw _ (List.mem_of_getElem? (i := 82) rfl)))) (hw _ (List.mem_of_getElem? (i := 82) rfl)) (hw _ (List.mem_of_getElem? (i := 81) rfl)) (hw _ (List.mem_of_getElem? (i := 83) rfl)) (hw _ (List.mem_of_getElem? (i := 40) rfl)) (by decide) (by decide) (by decide) (by decide) (by decide) e19 E_o17 (g := (mkF m 153 #[.val (.long q1), .second, .val (.int p2), .val (.int p3), .val (.int p4), .val (.int p5), .val (.ref r1), .val (.int (p5 &&& (3 : Int32))), .val (.ref b14), .val (.ref o17), .val (.int (1 : Int32))] [(.ref o17)])) rfl (by rw [hml]; rfl) (lenOf own_pd13 rfl) rfl (by show 2 * 0 + _ ≤ _; exact Nat.le_of_eq rfl) (hb hby at_153)
      obtain ⟨rfl, e20, rfl⟩ := hQ20
      have X20 : Stand p l e room_1 (s.setVm T16.vm) m #[(.long q1), (.int p2), (.int p3), (.int p4), (.int p5)] below meth c T20 lc17 7 17 := by have := X20; rwa [List.append_nil] at this
      refine own_st (T' := T20) (g' := (mkF m 156 #[.val (.long q1), .second, .val (.int p2), .val (.int p3), .val (.int p4), .val (.int p5), .val (.ref r1), .val (.int (p5 &&& (3 : Int32))), .val (.ref b14), .val (.ref o17), .val (.int (1 : Int32))] [(.long q1)])) st20 ?_
      refine own_st (T' := T20) (g' := (mkF m 157 #[.val (.long q1), .second, .val (.int p2), .val (.int p3), .val (.int p4), .val (.int p5), .val (.ref r1), .val (.int (p5 &&& (3 : Int32))), .val (.ref b14), .val (.ref o17), .val (.int (1 : Int32))] [(.long q1), (.long q1)])) (fun t k => XS.lloadN X20.here hx rfl (hb hby at_156) rfl k) ?_
      refine own_st (T' := T20) (g' := (mkF m 158 #[.val (.long q1), .second, .val (.int p2), .val (.int p3), .val (.int p4), .val (.int p5), .val (.ref r1), .val (.int (p5 &&& (3 : Int32))), .val (.ref b14), .val (.ref o17), .val (.int (1 : Int32))] [(.int (lcmpW q1 q1))])) (fun t k => XS.lcmp X20.here hx rfl (hb hby at_157) rfl k) ?_
      have hk21 : (lcmpW q1 q1) = (0 : Int32) := (lw_eq _ _).mpr rfl
      refine own_st (T' := T20) (g' := (mkF m 161 #[.val (.long q1), .second, .val (.int p2), .val (.int p3), .val (.int p4), .val (.int p5), .val (.ref r1), .val (.int (p5 &&& (3 : Int32))), .val (.ref b14), .val (.ref o17), .val (.int (1 : Int32))] [])) (fun t k => XS.ifNo X20.here hx rfl (hb hby at_158) rfl ((if0 _ _).trans (teq hk21).2) k) ?_
      refine own_st (T' := T20) (g' := (mkF m 163 #[.val (.long q1), .second, .val (.int p2), .val (.int p3), .val (.int p4), .val (.int p5), .val (.ref r1), .val (.int (p5 &&& (3 : Int32))), .val (.ref b14), .val (.ref o17), .val (.int (1 : Int32))] [(.ref o17)])) (fun t k => XS.aload X20.here hx rfl (hb hby at_161) rfl rfl k) ?_
      obtain ⟨_, T22, L22, hQ22, X22, st22⟩ := own_callV (y := (⟨"com/example/sheaf/sheaf/engine/InstructionResult", "failure", "()Lcom/example/sheaf/sheaf/engine/Failure;"⟩ : MethodName)) (z := (⟨"com/example/sheaf/sheaf/engine/InstructionResult", "failure", "()Lcom/example/sheaf/sheaf/engine/Failure;"⟩ : MethodName)) (argsL := []) 0 [] (K := "com/example/sheaf/sheaf/engine/InstructionResult") (own_rm15 l Z a0 hw T17.heap n0 Z17 o17 r1 F_failure_o17) X20 hx hZ hown (hw _ (List.mem_of_getElem? (i := 84) rfl)) (hw _ (List.mem_of_getElem? (i := 85) rfl)) (notFace_of_selects (args := #[]) (mvT hZ (hw _ (List.mem_of_getElem? (i := 87) rfl)))) (hw _ (List.mem_of_getElem? (i := 87) rfl)) (hw _ (List.mem_of_getElem? (i := 86) rfl)) (hw _ (List.mem_of_getElem? (i := 88) rfl)) (hw _ (List.mem_of_getElem? (i := 40) rfl)) (by decide) (by decide) (by decide) (by decide) (by decide) e20 E_o17 (g := (mkF m 163 #[.val (.long q1), .second, .val (.int p2), .val (.int p3), .val (.int p4), .val (.int p5), .val (.ref r1), .val (.int (p5 &&& (3 : Int32))), .val (.ref b14), .val (.ref o17), .val (.int (1 : Int32))] [(.ref o17)])) rfl (by rw [hml]; rfl) (lenOf own_pd14 rfl) rfl (by show 2 * 0 + _ ≤ _; exact Nat.le_of_eq rfl) (hb hby at_163)
      obtain ⟨rfl, e22, rfl⟩ := hQ22
      have X22 : Stand p l e room_1 (s.setVm T16.vm) m #[(.long q1), (.int p2), (.int p3), (.int p4), (.int p5)] below meth c T22 lc17 7 17 := by have := X22; rwa [List.append_nil] at this
      refine own_st (T' := T22) (g' := (mkF m 166 #[.val (.long q1), .second, .val (.int p2), .val (.int p3), .val (.int p4), .val (.int p5), .val (.ref r1), .val (.int (p5 &&& (3 : Int32))), .val (.ref b14), .val (.ref o17), .val (.int (1 : Int32))] [(.ref r1)])) st22 ?_
      refine own_st (T' := T22) (g' := (mkF m 168 #[.val (.long q1), .second, .val (.int p2), .val (.int p3), .val (.int p4), .val (.int p5), .val (.ref r1), .val (.int (p5 &&& (3 : Int32))), .val (.ref b14), .val (.ref o17), .val (.int (1 : Int32))] [(.ref r1), (.ref r1)])) (fun t k => XS.aload X22.here hx rfl (hb hby at_166) rfl rfl k) ?_
      have hk23 : r1 = r1 := rfl
      refine own_st (T' := T22) (g' := (mkF m 171 #[.val (.long q1), .second, .val (.int p2), .val (.int p3), .val (.int p4), .val (.int p5), .val (.ref r1), .val (.int (p5 &&& (3 : Int32))), .val (.ref b14), .val (.ref o17), .val (.int (1 : Int32))] [])) (fun t k => Jvm.RoadKit.acmp (g := (mkF m 168 #[.val (.long q1), .second, .val (.int p2), .val (.int p3), .val (.int p4), .val (.int p5), .val (.ref r1), .val (.int (p5 &&& (3 : Int32))), .val (.ref b14), .val (.ref o17), .val (.int (1 : Int32))] [(.ref r1), (.ref r1)])) X22 hx rfl rfl rfl (pc0 := 168) (pc' := 171) (same := true) rfl (hb hby at_168) rfl (decide_eq_true (congrArg Value.ref hk23)) (by decide) (by decide) k) ?_
      refine own_st (T' := T22) (g' := (mkF m 173 #[.val (.long q1), .second, .val (.int p2), .val (.int p3), .val (.int p4), .val (.int p5), .val (.ref r1), .val (.int (p5 &&& (3 : Int32))), .val (.ref b14), .val (.ref o17), .val (.int (1 : Int32))] [(.int (1 : Int32))])) (fun t k => XS.iload X22.here hx rfl (hb hby at_171) rfl k) ?_
      refine own_st (T' := T22) (g' := (mkF m 176 #[.val (.long q1), .second, .val (.int p2), .val (.int p3), .val (.int p4), .val (.int p5), .val (.ref r1), .val (.int (p5 &&& (3 : Int32))), .val (.ref b14), .val (.ref o17), .val (.int (1 : Int32))] [])) (fun t k => XS.ifNo X22.here hx rfl (hb hby at_173) rfl ((if0 _ _).trans (feq (by decide)).1) k) ?_
      refine own_st (T' := T22) (g' := (mkF m 178 #[.val (.long q1), .second, .val (.int p2), .val (.int p3), .val (.int p4), .val (.int p5), .val (.ref r1), .val (.int (p5 &&& (3 : Int32))), .val (.ref b14), .val (.ref o17), .val (.int (1 : Int32))] [(.ref o17)])) (fun t k => XS.aload X22.here hx rfl (hb hby at_176) rfl rfl k) ?_
      obtain ⟨_, T24, L24, hQ24, X24, st24⟩ := own_callV (y := (⟨"com/example/sheaf/sheaf/engine/InstructionResult", "order", "()Lcom/example/sheaf/sheaf/engine/OrderState;"⟩ : MethodName)) (z := (⟨"com/example/sheaf/sheaf/engine/InstructionResult", "order", "()Lcom/example/sheaf/sheaf/engine/OrderState;"⟩ : MethodName)) (argsL := []) 0 [] (K := "com/example/sheaf/sheaf/engine/InstructionResult") (own_rm16 l Z a0 hw T17.heap n0 Z17 o17 F_order_o17) X22 hx hZ hown (hw _ (List.mem_of_getElem? (i := 89) rfl)) (hw _ (List.mem_of_getElem? (i := 90) rfl)) (notFace_of_selects (args := #[]) (mvT hZ (hw _ (List.mem_of_getElem? (i := 92) rfl)))) (hw _ (List.mem_of_getElem? (i := 92) rfl)) (hw _ (List.mem_of_getElem? (i := 91) rfl)) (hw _ (List.mem_of_getElem? (i := 93) rfl)) (hw _ (List.mem_of_getElem? (i := 40) rfl)) (by decide) (by decide) (by decide) (by decide) (by decide) e22 E_o17 (g := (mkF m 178 #[.val (.long q1), .second, .val (.int p2), .val (.int p3), .val (.int p4), .val (.int p5), .val (.ref r1), .val (.int (p5 &&& (3 : Int32))), .val (.ref b14), .val (.ref o17), .val (.int (1 : Int32))] [(.ref o17)])) rfl (by rw [hml]; rfl) (lenOf own_pd15 rfl) rfl (by show 2 * 0 + _ ≤ _; exact Nat.le_of_eq rfl) (hb hby at_178)
      obtain ⟨rfl, e24, rfl⟩ := hQ24
      have X24 : Stand p l e room_1 (s.setVm T16.vm) m #[(.long q1), (.int p2), (.int p3), (.int p4), (.int p5)] below meth c T24 lc17 7 17 := by have := X24; rwa [List.append_nil] at this
      refine own_st (T' := T24) (g' := (mkF m 181 #[.val (.long q1), .second, .val (.int p2), .val (.int p3), .val (.int p4), .val (.int p5), .val (.ref r1), .val (.int (p5 &&& (3 : Int32))), .val (.ref b14), .val (.ref o17), .val (.int (1 : Int32))] [.null])) st24 ?_
      refine own_st (T' := T24) (g' := (mkF m 184 #[.val (.long q1), .second, .val (.int p2), .val (.int p3), .val (.int p4), .val (.int p5), .val (.ref r1), .val (.int (p5 &&& (3 : Int32))), .val (.ref b14), .val (.ref o17), .val (.int (1 : Int32))] [])) (fun t k => XS.ifnonnullNo X24.here hx rfl (hb hby at_181) rfl k) ?_
      refine own_st (T' := T24) (g' := (mkF m 186 #[.val (.long q1), .second, .val (.int p2), .val (.int p3), .val (.int p4), .val (.int p5), .val (.ref r1), .val (.int (p5 &&& (3 : Int32))), .val (.ref b14), .val (.ref o17), .val (.int (1 : Int32))] [(.ref o17)])) (fun t k => XS.aload X24.here hx rfl (hb hby at_184) rfl rfl k) ?_
      obtain ⟨_, T25, L25, hQ25, X25, st25⟩ := own_callV (y := (⟨"com/example/sheaf/sheaf/engine/InstructionResult", "fills", "()Ljava/util/List;"⟩ : MethodName)) (z := (⟨"com/example/sheaf/sheaf/engine/InstructionResult", "fills", "()Ljava/util/List;"⟩ : MethodName)) (argsL := []) 0 [] (K := "com/example/sheaf/sheaf/engine/InstructionResult") (own_rm17 l Z a0 hw T17.heap n0 Z17 o17 s_EL F_fills_o17) X24 hx hZ hown (hw _ (List.mem_of_getElem? (i := 94) rfl)) (hw _ (List.mem_of_getElem? (i := 95) rfl)) (notFace_of_selects (args := #[]) (mvT hZ (hw _ (List.mem_of_getElem? (i := 97) rfl)))) (hw _ (List.mem_of_getElem? (i := 97) rfl)) (hw _ (List.mem_of_getElem? (i := 96) rfl)) (hw _ (List.mem_of_getElem? (i := 98) rfl)) (hw _ (List.mem_of_getElem? (i := 40) rfl)) (by decide) (by decide) (by decide) (by decide) (by decide) e24 E_o17 (g := (mkF m 186 #[.val (.long q1), .second, .val (.int p2), .val (.int p3), .val (.int p4), .val (.int p5), .val (.ref r1), .val (.int (p5 &&& (3 : Int32))), .val (.ref b14), .val (.ref o17), .val (.int (1 : Int32))] [(.ref o17)])) rfl (by rw [hml]; rfl) (lenOf own_pd8 rfl) rfl (by show 2 * 0 + _ ≤ _; exact Nat.le_of_eq rfl) (hb hby at_186)
      obtain ⟨rfl, e25, rfl⟩ := hQ25
      have X25 : Stand p l e room_1 (s.setVm T16.vm) m #[(.long q1), (.int p2), (.int p3), (.int p4), (.int p5)] below meth c T25 lc17 7 17 := by have := X25; rwa [List.append_nil] at this
      refine own_st (T' := T25) (g' := (mkF m 189 #[.val (.long q1), .second, .val (.int p2), .val (.int p3), .val (.int p4), .val (.int p5), .val (.ref r1), .val (.int (p5 &&& (3 : Int32))), .val (.ref b14), .val (.ref o17), .val (.int (1 : Int32))] [(.ref s_EL)])) st25 ?_
      refine own_st (T' := T25) (g' := (mkF m 192 #[.val (.long q1), .second, .val (.int p2), .val (.int p3), .val (.int p4), .val (.int p5), .val (.ref r1), .val (.int (p5 &&& (3 : Int32))), .val (.ref b14), .val (.ref o17), .val (.int (1 : Int32))] [])) (fun t k => XS.ifnullNo X25.here hx rfl (hb hby at_189) rfl k) ?_
      refine own_st (T' := T25) (g' := (mkF m 194 #[.val (.long q1), .second, .val (.int p2), .val (.int p3), .val (.int p4), .val (.int p5), .val (.ref r1), .val (.int (p5 &&& (3 : Int32))), .val (.ref b14), .val (.ref o17), .val (.int (1 : Int32))] [(.ref o17)])) (fun t k => XS.aload X25.here hx rfl (hb hby at_192) rfl rfl k) ?_
      obtain ⟨_, T26, L26, hQ26, X26, st26⟩ := own_callV (y := (⟨"com/example/sheaf/sheaf/engine/InstructionResult", "fills", "()Ljava/util/List;"⟩ : MethodName)) (z := (⟨"com/example/sheaf/sheaf/engine/InstructionResult", "fills", "()Ljava/util/List;"⟩ : MethodName)) (argsL := []) 0 [] (K := "com/example/sheaf/sheaf/engine/InstructionResult") (own_rm17 l Z a0 hw T17.heap n0 Z17 o17 s_EL F_fills_o17) X25 hx hZ hown (hw _ (List.mem_of_getElem? (i := 94) rfl)) (hw _ (List.mem_of_getElem? (i := 95) rfl)) (notFace_of_selects (args := #[]) (mvT hZ (hw _ (List.mem_of_getElem? (i := 97) rfl)))) (hw _ (List.mem_of_getElem? (i := 97) rfl)) (hw _ (List.mem_of_getElem? (i := 96) rfl)) (hw _ (List.mem_of_getElem? (i := 98) rfl)) (hw _ (List.mem_of_getElem? (i := 40) rfl)) (by decide) (by decide) (by decide) (by decide) (by decide) e25 E_o17 (g := (mkF m 194 #[.val (.long q1), .second, .val (.int p2), .val (.int p3), .val (.int p4), .val (.int p5), .val (.ref r1), .val (.int (p5 &&& (3 : Int32))), .val (.ref b14), .val (.ref o17), .val (.int (1 : Int32))] [(.ref o17)])) rfl (by rw [hml]; rfl) (lenOf own_pd8 rfl) rfl (by show 2 * 0 + _ ≤ _; exact Nat.le_of_eq rfl) (hb hby at_194)
      obtain ⟨rfl, e26, rfl⟩ := hQ26
      have X26 : Stand p l e room_1 (s.setVm T16.vm) m #[(.long q1), (.int p2), (.int p3), (.int p4), (.int p5)] below meth c T26 lc17 7 17 := by have := X26; rwa [List.append_nil] at this
      refine own_st (T' := T26) (g' := (mkF m 197 #[.val (.long q1), .second, .val (.int p2), .val (.int p3), .val (.int p4), .val (.int p5), .val (.ref r1), .val (.int (p5 &&& (3 : Int32))), .val (.ref b14), .val (.ref o17), .val (.int (1 : Int32))] [(.ref s_EL)])) st26 ?_
      obtain ⟨_, T27, L27, hQ27, X27, st27⟩ := own_callF (y := (⟨"java/util/List", "size", "()I"⟩ : MethodName)) (z := (⟨"java/util/ImmutableCollections$ListN", "size", "()I"⟩ : MethodName)) (argsL := []) 0 [] (K := "java/util/ImmutableCollections$ListN") (own_rm18 l Z a0 hw T17.heap n0 Z17 s_EL _ _ F_elements_s_EL V_s_EA) X26 hx hZ hown (hw _ (List.mem_of_getElem? (i := 99) rfl)) (hw _ (List.mem_of_getElem? (i := 100) rfl)) (mvT hZ (hw _ (List.mem_of_getElem? (i := 101) rfl))) (hw _ (List.mem_of_getElem? (i := 102) rfl)) (hw _ (List.mem_of_getElem? (i := 103) rfl)) (hw _ (List.mem_of_getElem? (i := 104) rfl)) (hw _ (List.mem_of_getElem? (i := 105) rfl)) (hw _ (List.mem_of_getElem? (i := 106) rfl)) (hw _ (List.mem_of_getElem? (i := 108) rfl)) (hw _ (List.mem_of_getElem? (i := 107) rfl)) (by decide) (by decide) (by decide) (by decide) (by decide) e26 E_s_EL (g := (mkF m 197 #[.val (.long q1), .second, .val (.int p2), .val (.int p3), .val (.int p4), .val (.int p5), .val (.ref r1), .val (.int (p5 &&& (3 : Int32))), .val (.ref b14), .val (.ref o17), .val (.int (1 : Int32))] [(.ref s_EL)])) rfl (by rw [hml]; rfl) (lenOf own_pd16 rfl) rfl (by show 2 * 0 + _ ≤ _; exact Nat.le_of_eq rfl) (hb hby at_197)
      obtain ⟨rfl, e27, rfl⟩ := hQ27
      have X27 : Stand p l e room_1 (s.setVm T16.vm) m #[(.long q1), (.int p2), (.int p3), (.int p4), (.int p5)] below meth c T27 lc17 7 17 := by have := X27; rwa [List.append_nil] at this
      refine own_st (T' := T27) (g' := (mkF m 202 #[.val (.long q1), .second, .val (.int p2), .val (.int p3), .val (.int p4), .val (.int p5), .val (.ref r1), .val (.int (p5 &&& (3 : Int32))), .val (.ref b14), .val (.ref o17), .val (.int (1 : Int32))] [(.int (0 : Int32))])) st27 ?_
      refine own_st (T' := T27) (g' := (mkF m 205 #[.val (.long q1), .second, .val (.int p2), .val (.int p3), .val (.int p4), .val (.int p5), .val (.ref r1), .val (.int (p5 &&& (3 : Int32))), .val (.ref b14), .val (.ref o17), .val (.int (1 : Int32))] [])) (fun t k => XS.ifNo X27.here hx rfl (hb hby at_202) rfl ((if0 _ _).trans (teq (by decide)).2) k) ?_
      refine own_st (T' := T27) (g' := (mkF m 206 #[.val (.long q1), .second, .val (.int p2), .val (.int p3), .val (.int p4), .val (.int p5), .val (.ref r1), .val (.int (p5 &&& (3 : Int32))), .val (.ref b14), .val (.ref o17), .val (.int (1 : Int32))] [(.int (1 : Int32))])) (fun t k => XS.iconst X27.here hx rfl (hb hby at_205) k) ?_
      refine own_st (T' := T27) (g' := (mkF m 210 #[.val (.long q1), .second, .val (.int p2), .val (.int p3), .val (.int p4), .val (.int p5), .val (.ref r1), .val (.int (p5 &&& (3 : Int32))), .val (.ref b14), .val (.ref o17), .val (.int (1 : Int32))] [(.int (1 : Int32))])) (fun t k => XS.goto X27.here hx rfl (pc0 := 206) (pc' := 210) rfl (hb hby at_206) (by decide) (by decide) k) ?_
      exact own_retBW X27 hS (by rw [e27]; exact hkS) hx hlk hret (hb hby at_210) (by decide) (by decide) rfl ⟨rfl, N17⟩
    ·
      refine own_st (T' := T1) (g' := (mkF m 44 #[.val (.long q1), .second, .val (.int p2), .val (.int p3), .val (.int p4), .val (.int p5), .val (.ref r1), .val (.int (p5 &&& (3 : Int32))), .unset, .unset, .unset] [])) (fun t k => XS.icmpYes X1.here hx rfl (pc0 := 26) (pc' := 44) rfl (hb hby at_26) rfl (feq hc26_13).2 (by decide) (by decide) k) ?_
      refine own_st (T' := T1) (g' := (mkF m 46 #[.val (.long q1), .second, .val (.int p2), .val (.int p3), .val (.int p4), .val (.int p5), .val (.ref r1), .val (.int (p5 &&& (3 : Int32))), .unset, .unset, .unset] [(.int (p5 &&& (3 : Int32)))])) (fun t k => XS.iload X1.here hx rfl (hb hby at_44) rfl k) ?_
      refine own_st (T' := T1) (g' := (mkF m 47 #[.val (.long q1), .second, .val (.int p2), .val (.int p3), .val (.int p4), .val (.int p5), .val (.ref r1), .val (.int (p5 &&& (3 : Int32))), .unset, .unset, .unset] [(.int (2 : Int32)), (.int (p5 &&& (3 : Int32)))])) (fun t k => XS.iconst X1.here hx rfl (hb hby at_46) k) ?_
      by_cases hc47_28 : (p5 &&& (3 : Int32)) = (2 : Int32)
      ·
        refine own_st (T' := T1) (g' := (mkF m 50 #[.val (.long q1), .second, .val (.int p2), .val (.int p3), .val (.int p4), .val (.int p5), .val (.ref r1), .val (.int (p5 &&& (3 : Int32))), .unset, .unset, .unset] [])) (fun t k => XS.icmpNo X1.here hx rfl (hb hby at_47) rfl (teq hc47_28).2 k) ?_
        refine own_st (T' := T1) (g' := (mkF m 51 #[.val (.long q1), .second, .val (.int p2), .val (.int p3), .val (.int p4), .val (.int p5), .val (.ref r1), .val (.int (p5 &&& (3 : Int32))), .unset, .unset, .unset] [(.int p3)])) (fun t k => XS.iloadN X1.here hx rfl (hb hby at_50) rfl k) ?_
        refine own_st (T' := T1) (g' := (mkF m 54 #[.val (.long q1), .second, .val (.int p2), .val (.int p3), .val (.int p4), .val (.int p5), .val (.ref r1), .val (.int (p5 &&& (3 : Int32))), .unset, .unset, .unset] [(.int (255 : Int32)), (.int p3)])) (fun t k => XS.sipush X1.here hx rfl (hb hby at_51) k) ?_
        refine own_st (T' := T1) (g' := (mkF m 55 #[.val (.long q1), .second, .val (.int p2), .val (.int p3), .val (.int p4), .val (.int p5), .val (.ref r1), .val (.int (p5 &&& (3 : Int32))), .unset, .unset, .unset] [(.int (p3 &&& (255 : Int32)))])) (fun t k => XS.iand X1.here hx rfl (hb hby at_54) rfl k) ?_
        refine own_st (T' := T1) (g' := (mkF m 56 #[.val (.long q1), .second, .val (.int p2), .val (.int p3), .val (.int p4), .val (.int p5), .val (.ref r1), .val (.int (p5 &&& (3 : Int32))), .unset, .unset, .unset] [(.int ((p3 &&& (255 : Int32)).toUInt32.toUInt16.toUInt32.toInt32))])) (fun t k => XS.i2c X1.here hx rfl (hb hby at_55) rfl k) ?_
        have lt29_s_EL := E_s_EL.lt
        have lt29_s_EA := V_s_EA.lt
        obtain ⟨_, T29, L29, hQ29, X29, st29⟩ := own_callS (y := (⟨"java/lang/String", "valueOf", "(C)Ljava/lang/String;"⟩ : MethodName)) (argsL := [(.int ((p3 &&& (255 : Int32)).toUInt32.toUInt16.toUInt32.toInt32))]) 0 [] (own_rm19 l Z a0 hw h0 n0 Z0 ((p3 &&& (255 : Int32)).toUInt32.toUInt16.toUInt32.toInt32) O zc hzc S_CS (own_c255 _)) X1 hx hZ hown (hw _ (List.mem_of_getElem? (i := 113) rfl)) (hw _ (List.mem_of_getElem? (i := 114) rfl)) (hw _ (List.mem_of_getElem? (i := 11) rfl)) (hw _ (List.mem_of_getElem? (i := 115) rfl)) (by decide) (by decide) (by decide) (by decide) (by decide) e1 (g := (mkF m 56 #[.val (.long q1), .second, .val (.int p2), .val (.int p3), .val (.int p4), .val (.int p5), .val (.ref r1), .val (.int (p5 &&& (3 : Int32))), .unset, .unset, .unset] [(.int ((p3 &&& (255 : Int32)).toUInt32.toUInt16.toUInt32.toInt32))])) rfl (by rw [hml]; rfl) (lenOf own_pd19 rfl) rfl (by show 2 * 0 + _ ≤ _; exact Nat.le_of_eq rfl) (hb hby at_56)
        obtain ⟨o29, rfl, N29q, Eq29, sz_o29, E_o29⟩ := hQ29
        have Z29 : n0 ≤ T29.heap.size := Nat.le_trans Z0 Eq29.1
        have hkS := Nat.le_trans hkS Eq29.1
        have O := O.ext Eq29
        have E_s_EL := E_s_EL.ext Eq29
        have F_elements_s_EL := F_elements_s_EL.ext Eq29
        have V_s_EA := V_s_EA.ext Eq29
        have hCH := hCH.ext Eq29
        have N29 := Fr.app N0 N29q
        generalize hlc29 : ([] ++ L29 : List Loc) = lc29 at X29 N29
        have X29 : Stand p l e room_1 (s.setVm s.vm) m #[(.long q1), (.int p2), (.int p3), (.int p4), (.int p5)] below meth c T29 lc29 2 5 := X29
        have g_o29 : n0 ≤ o29 := Nat.le_trans Z0 sz_o29
        have ne_s_EL_o29 : s_EL ≠ o29 := Nat.ne_of_lt (Nat.lt_of_lt_of_le lt29_s_EL sz_o29)
        have ne_s_EA_o29 : s_EA ≠ o29 := Nat.ne_of_lt (Nat.lt_of_lt_of_le lt29_s_EA sz_o29)
        refine own_st (T' := T29) (g' := (mkF m 59 #[.val (.long q1), .second, .val (.int p2), .val (.int p3), .val (.int p4), .val (.int p5), .val (.ref r1), .val (.int (p5 &&& (3 : Int32))), .unset, .unset, .unset] [(.ref o29)])) st29 ?_
        refine own_st (T' := T29) (g' := (mkF m 61 #[.val (.long q1), .second, .val (.int p2), .val (.int p3), .val (.int p4), .val (.int p5), .val (.ref r1), .val (.int (p5 &&& (3 : Int32))), .val (.ref o29), .unset, .unset] [])) (fun t k => XS.astore X29.here hx rfl (hb hby at_59) rfl rfl (l' := #[.val (.long q1), .second, .val (.int p2), .val (.int p3), .val (.int p4), .val (.int p5), .val (.ref r1), .val (.int (p5 &&& (3 : Int32))), .val (.ref o29), .unset, .unset]) rfl k) ?_
        refine own_st (T' := T29) (g' := (mkF m 101 #[.val (.long q1), .second, .val (.int p2), .val (.int p3), .val (.int p4), .val (.int p5), .val (.ref r1), .val (.int (p5 &&& (3 : Int32))), .val (.ref o29), .unset, .unset] [])) (fun t k => XS.goto X29.here hx rfl (pc0 := 61) (pc' := 101) rfl (hb hby at_61) (by decide) (by decide) k) ?_
        refine own_st (T' := T29) (g' := (mkF m 102 #[.val (.long q1), .second, .val (.int p2), .val (.int p3), .val (.int p4), .val (.int p5), .val (.ref r1), .val (.int (p5 &&& (3 : Int32))), .val (.ref o29), .unset, .unset] [(.long q1)])) (fun t k => XS.lloadN X29.here hx rfl (hb hby at_101) rfl k) ?_
        refine own_st (T' := T29) (g' := (mkF m 104 #[.val (.long q1), .second, .val (.int p2), .val (.int p3), .val (.int p4), .val (.int p5), .val (.ref r1), .val (.int (p5 &&& (3 : Int32))), .val (.ref o29), .unset, .unset] [(.ref r1), (.long q1)])) (fun t k => XS.aload X29.here hx rfl (hb hby at_102) rfl rfl k) ?_
        refine own_st (T' := T29) (g' := (mkF m 106 #[.val (.long q1), .second, .val (.int p2), .val (.int p3), .val (.int p4), .val (.int p5), .val (.ref r1), .val (.int (p5 &&& (3 : Int32))), .val (.ref o29), .unset, .unset] [(.ref o29), (.ref r1), (.long q1)])) (fun t k => XS.aload X29.here hx rfl (hb hby at_104) rfl rfl k) ?_
        have lt30_s_EL := E_s_EL.lt
        have lt30_s_EA := V_s_EA.lt
        have lt30_o29 := E_o29.lt
        obtain ⟨_, T30, L30, hQ30, X30, st30⟩ := own_callS (y := (⟨"com/example/sheaf/sheaf/engine/InstructionResult", "failed", "(JLcom/example/sheaf/sheaf/engine/Failure;Ljava/lang/String;)Lcom/example/sheaf/sheaf/engine/InstructionResult;"⟩ : MethodName)) (argsL := [(.long q1), (.ref r1), (.ref o29)]) 0 [] (own_rm8t l Z a0 hw T29.heap n0 Z29 q1 r1 o29 O s_EL S_EL) X29 hx hZ hown (hw _ (List.mem_of_getElem? (i := 38) rfl)) (hw _ (List.mem_of_getElem? (i := 39) rfl)) (hw _ (List.mem_of_getElem? (i := 40) rfl)) (hw _ (List.mem_of_getElem? (i := 41) rfl)) (by decide) (by decide) (by decide) (by decide) (by decide) rfl (g := (mkF m 106 #[.val (.long q1), .second, .val (.int p2), .val (.int p3), .val (.int p4), .val (.int p5), .val (.ref r1), .val (.int (p5 &&& (3 : Int32))), .val (.ref o29), .unset, .unset] [(.ref o29), (.ref r1), (.long q1)])) rfl (by rw [hml]; rfl) (lenOf own_pd11 rfl) rfl (by show 2 * 0 + _ ≤ _; exact Nat.le_of_eq rfl) (hb hby at_106)
        obtain ⟨o30, rfl, N30q, Eq30, sz_o30, E_o30, F_seq_o30, F_failure_o30, F_text_o30, F_order_o30, F_fills_o30⟩ := hQ30
        have Z30 : n0 ≤ T30.heap.size := Nat.le_trans Z29 Eq30.1
        have hkS := Nat.le_trans hkS Eq30.1
        have O := O.ext Eq30
        have E_s_EL := E_s_EL.ext Eq30
        have F_elements_s_EL := F_elements_s_EL.ext Eq30
        have V_s_EA := V_s_EA.ext Eq30
        have hCH := hCH.ext Eq30
        have E_o29 := E_o29.ext Eq30
        have N30 := Fr.app N29 N30q
        generalize hlc30 : (lc29 ++ L30 : List Loc) = lc30 at X30 N30
        have X30 : Stand p l e room_1 (s.setVm s.vm) m #[(.long q1), (.int p2), (.int p3), (.int p4), (.int p5)] below meth c T30 lc30 3 10 := X30
        have g_o30 : n0 ≤ o30 := Nat.le_trans Z29 sz_o30
        have ne_s_EL_o30 : s_EL ≠ o30 := Nat.ne_of_lt (Nat.lt_of_lt_of_le lt30_s_EL sz_o30)
        have ne_s_EA_o30 : s_EA ≠ o30 := Nat.ne_of_lt (Nat.lt_of_lt_of_le lt30_s_EA sz_o30)
        have ne_o29_o30 : o29 ≠ o30 := Nat.ne_of_lt (Nat.lt_of_lt_of_le lt30_o29 sz_o30)
        refine own_st (T' := T30) (g' := (mkF m 109 #[.val (.long q1), .second, .val (.int p2), .val (.int p3), .val (.int p4), .val (.int p5), .val (.ref r1), .val (.int (p5 &&& (3 : Int32))), .val (.ref o29), .unset, .unset] [(.ref o30)])) st30 ?_
        refine own_st (T' := T30) (g' := (mkF m 111 #[.val (.long q1), .second, .val (.int p2), .val (.int p3), .val (.int p4), .val (.int p5), .val (.ref r1), .val (.int (p5 &&& (3 : Int32))), .val (.ref o29), .val (.ref o30), .unset] [])) (fun t k => XS.astore X30.here hx rfl (hb hby at_109) rfl rfl (l' := #[.val (.long q1), .second, .val (.int p2), .val (.int p3), .val (.int p4), .val (.int p5), .val (.ref r1), .val (.int (p5 &&& (3 : Int32))), .val (.ref o29), .val (.ref o30), .unset]) rfl k) ?_
        refine own_st (T' := T30) (g' := (mkF m 113 #[.val (.long q1), .second, .val (.int p2), .val (.int p3), .val (.int p4), .val (.int p5), .val (.ref r1), .val (.int (p5 &&& (3 : Int32))), .val (.ref o29), .val (.ref o30), .unset] [(.ref o30)])) (fun t k => XS.aload X30.here hx rfl (hb hby at_111) rfl rfl k) ?_
        refine own_st (T' := T30) (g' := (mkF m 118 #[.val (.long q1), .second, .val (.int p2), .val (.int p3), .val (.int p4), .val (.int p5), .val (.ref r1), .val (.int (p5 &&& (3 : Int32))), .val (.ref o29), .val (.ref o30), .unset] [])) (fun t k => XS.ifnonnullYes X30.here hx rfl (pc0 := 113) (pc' := 118) rfl (hb hby at_113) rfl (by decide) (by decide) k) ?_
        refine own_st (T' := T30) (g' := (mkF m 120 #[.val (.long q1), .second, .val (.int p2), .val (.int p3), .val (.int p4), .val (.int p5), .val (.ref r1), .val (.int (p5 &&& (3 : Int32))), .val (.ref o29), .val (.ref o30), .unset] [(.ref o29)])) (fun t k => XS.aload X30.here hx rfl (hb hby at_118) rfl rfl k) ?_
        refine own_st (T' := T30) (g' := (mkF m 139 #[.val (.long q1), .second, .val (.int p2), .val (.int p3), .val (.int p4), .val (.int p5), .val (.ref r1), .val (.int (p5 &&& (3 : Int32))), .val (.ref o29), .val (.ref o30), .unset] [])) (fun t k => XS.ifnonnullYes X30.here hx rfl (pc0 := 120) (pc' := 139) rfl (hb hby at_120) rfl (by decide) (by decide) k) ?_
        refine own_st (T' := T30) (g' := (mkF m 141 #[.val (.long q1), .second, .val (.int p2), .val (.int p3), .val (.int p4), .val (.int p5), .val (.ref r1), .val (.int (p5 &&& (3 : Int32))), .val (.ref o29), .val (.ref o30), .unset] [(.ref o29)])) (fun t k => XS.aload X30.here hx rfl (hb hby at_139) rfl rfl k) ?_
        refine own_st (T' := T30) (g' := (mkF m 143 #[.val (.long q1), .second, .val (.int p2), .val (.int p3), .val (.int p4), .val (.int p5), .val (.ref r1), .val (.int (p5 &&& (3 : Int32))), .val (.ref o29), .val (.ref o30), .unset] [(.ref o30), (.ref o29)])) (fun t k => XS.aload X30.here hx rfl (hb hby at_141) rfl rfl k) ?_
        obtain ⟨_, T31, L31, hQ31, X31, st31⟩ := own_callV (y := (⟨"com/example/sheaf/sheaf/engine/InstructionResult", "text", "()Ljava/lang/String;"⟩ : MethodName)) (z := (⟨"com/example/sheaf/sheaf/engine/InstructionResult", "text", "()Ljava/lang/String;"⟩ : MethodName)) (argsL := []) 1 [(.ref o29)] (K := "com/example/sheaf/sheaf/engine/InstructionResult") (own_rm12t l Z a0 hw T30.heap n0 Z30 o30 o29 F_text_o30) X30 hx hZ hown (hw _ (List.mem_of_getElem? (i := 69) rfl)) (hw _ (List.mem_of_getElem? (i := 70) rfl)) (notFace_of_selects (args := #[]) (mvT hZ (hw _ (List.mem_of_getElem? (i := 72) rfl)))) (hw _ (List.mem_of_getElem? (i := 72) rfl)) (hw _ (List.mem_of_getElem? (i := 71) rfl)) (hw _ (List.mem_of_getElem? (i := 73) rfl)) (hw _ (List.mem_of_getElem? (i := 40) rfl)) (by decide) (by decide) (by decide) (by decide) (by decide) rfl E_o30 (g := (mkF m 143 #[.val (.long q1), .second, .val (.int p2), .val (.int p3), .val (.int p4), .val (.int p5), .val (.ref r1), .val (.int (p5 &&& (3 : Int32))), .val (.ref o29), .val (.ref o30), .unset] [(.ref o30), (.ref o29)])) rfl (by rw [hml]; rfl) (lenOf own_pd12 rfl) rfl (by show 2 * 0 + _ ≤ _; exact Nat.le_of_eq rfl) (hb hby at_143)
        obtain ⟨rfl, e31, rfl⟩ := hQ31
        have X31 : Stand p l e room_1 (s.setVm s.vm) m #[(.long q1), (.int p2), (.int p3), (.int p4), (.int p5)] below meth c T31 lc30 3 10 := by have := X31; rwa [List.append_nil] at this
        refine own_st (T' := T31) (g' := (mkF m 146 #[.val (.long q1), .second, .val (.int p2), .val (.int p3), .val (.int p4), .val (.int p5), .val (.ref r1), .val (.int (p5 &&& (3 : Int32))), .val (.ref o29), .val (.ref o30), .unset] [(.ref o29), (.ref o29)])) st31 ?_
        obtain ⟨_, T32, L32, hQ32, X32, st32⟩ := own_callV (y := (⟨"java/lang/String", "equals", "(Ljava/lang/Object;)Z"⟩ : MethodName)) (z := (⟨"java/lang/String", "equals", "(Ljava/lang/Object;)Z"⟩ : MethodName)) (argsL := [(.ref o29)]) 0 [] (K := "java/lang/String") (own_rm13 l Z a0 hw T30.heap n0 Z30 o29) X31 hx hZ hown (hw _ (List.mem_of_getElem? (i := 74) rfl)) (hw _ (List.mem_of_getElem? (i := 75) rfl)) (notFace_of_selects (args := #[]) (mvT hZ (hw _ (List.mem_of_getElem? (i := 77) rfl)))) (hw _ (List.mem_of_getElem? (i := 77) rfl)) (hw _ (List.mem_of_getElem? (i := 76) rfl)) (hw _ (List.mem_of_getElem? (i := 78) rfl)) (hw _ (List.mem_of_getElem? (i := 11) rfl)) (by decide) (by decide) (by decide) (by decide) (by decide) e31 E_o29 (g := (mkF m 146 #[.val (.long q1), .second, .val (.int p2), .val (.int p3), .val (.int p4), .val (.int p5), .val (.ref r1), .val (.int (p5 &&& (3 : Int32))), .val (.ref o29), .val (.ref o30), .unset] [(.ref o29), (.ref o29)])) rfl (by rw [hml]; rfl) (lenOf own_pd18 rfl) rfl (by show 2 * 0 + _ ≤ _; exact Nat.le_of_eq rfl) (hb hby at_146)
        obtain ⟨rfl, e32, rfl⟩ := hQ32
        have X32 : Stand p l e room_1 (s.setVm s.vm) m #[(.long q1), (.int p2), (.int p3), (.int p4), (.int p5)] below meth c T32 lc30 3 10 := by have := X32; rwa [List.append_nil] at this
        refine own_st (T' := T32) (g' := (mkF m 149 #[.val (.long q1), .second, .val (.int p2), .val (.int p3), .val (.int p4), .val (.int p5), .val (.ref r1), .val (.int (p5 &&& (3 : Int32))), .val (.ref o29), .val (.ref o30), .unset] [(.int (1 : Int32))])) st32 ?_
        refine own_st (T' := T32) (g' := (mkF m 151 #[.val (.long q1), .second, .val (.int p2), .val (.int p3), .val (.int p4), .val (.int p5), .val (.ref r1), .val (.int (p5 &&& (3 : Int32))), .val (.ref o29), .val (.ref o30), .val (.int (1 : Int32))] [])) (fun t k => XS.istore X32.here hx rfl (hb hby at_149) rfl (l' := #[.val (.long q1), .second, .val (.int p2), .val (.int p3), .val (.int p4), .val (.int p5), .val (.ref r1), .val (.int (p5 &&& (3 : Int32))), .val (.ref o29), .val (.ref o30), .val (.int (1 : Int32))]) rfl k) ?_
        refine own_st (T' := T32) (g' := (mkF m 153 #[.val (.long q1), .second, .val (.int p2), .val (.int p3), .val (.int p4), .val (.int p5), .val (.ref r1), .val (.int (p5 &&& (3 : Int32))), .val (.ref o29), .val (.ref o30), .val (.int (1 : Int32))] [(.ref o30)])) (fun t k => XS.aload X32.here hx rfl (hb hby at_151) rfl rfl k) ?_
        obtain ⟨_, T33, L33, hQ33, X33, st33⟩ := own_callV (y := (⟨"com/example/sheaf/sheaf/engine/InstructionResult", "seq", "()J"⟩ : MethodName)) (z := (⟨"com/example/sheaf/sheaf/engine/InstructionResult", "seq", "()J"⟩ : MethodName)) (argsL := []) 0 [] (K := "com/example/sheaf/sheaf/engine/InstructionResult") (own_rm14 l Z a0 hw T30.heap n0 Z30 o30 q1 F_seq_o30) X32 hx hZ hown (hw _ (List.mem_of_getElem? (i := 79) rfl)) (hw _ (List.mem_of_getElem? (i := 80) rfl)) (notFace_of_selects (args := #[]) (mvT hZ (hw _ (List.mem_of_getElem? (i := 82) rfl)))) (hw _ (List.mem_of_getElem? (i := 82) rfl)) (hw _ (List.mem_of_getElem? (i := 81) rfl)) (hw _ (List.mem_of_getElem? (i := 83) rfl)) (hw _ (List.mem_of_getElem? (i := 40) rfl)) (by decide) (by decide) (by decide) (by decide) (by decide) e32 E_o30 (g := (mkF m 153 #[.val (.long q1), .second, .val (.int p2), .val (.int p3), .val (.int p4), .val (.int p5), .val (.ref r1), .val (.int (p5 &&& (3 : Int32))), .val (.ref o29), .val (.ref o30), .val (.int (1 : Int32))] [(.ref o30)])) rfl (by rw [hml]; rfl) (lenOf own_pd13 rfl) rfl (by show 2 * 0 + _ ≤ _; exact Nat.le_of_eq rfl) (hb hby at_153)
        obtain ⟨rfl, e33, rfl⟩ := hQ33
        have X33 : Stand p l e room_1 (s.setVm s.vm) m #[(.long q1), (.int p2), (.int p3), (.int p4), (.int p5)] below meth c T33 lc30 3 10 := by have := X33; rwa [List.append_nil] at this
        refine own_st (T' := T33) (g' := (mkF m 156 #[.val (.long q1), .second, .val (.int p2), .val (.int p3), .val (.int p4), .val (.int p5), .val (.ref r1), .val (.int (p5 &&& (3 : Int32))), .val (.ref o29), .val (.ref o30), .val (.int (1 : Int32))] [(.long q1)])) st33 ?_
        refine own_st (T' := T33) (g' := (mkF m 157 #[.val (.long q1), .second, .val (.int p2), .val (.int p3), .val (.int p4), .val (.int p5), .val (.ref r1), .val (.int (p5 &&& (3 : Int32))), .val (.ref o29), .val (.ref o30), .val (.int (1 : Int32))] [(.long q1), (.long q1)])) (fun t k => XS.lloadN X33.here hx rfl (hb hby at_156) rfl k) ?_
        refine own_st (T' := T33) (g' := (mkF m 158 #[.val (.long q1), .second, .val (.int p2), .val (.int p3), .val (.int p4), .val (.int p5), .val (.ref r1), .val (.int (p5 &&& (3 : Int32))), .val (.ref o29), .val (.ref o30), .val (.int (1 : Int32))] [(.int (lcmpW q1 q1))])) (fun t k => XS.lcmp X33.here hx rfl (hb hby at_157) rfl k) ?_
        have hk34 : (lcmpW q1 q1) = (0 : Int32) := (lw_eq _ _).mpr rfl
        refine own_st (T' := T33) (g' := (mkF m 161 #[.val (.long q1), .second, .val (.int p2), .val (.int p3), .val (.int p4), .val (.int p5), .val (.ref r1), .val (.int (p5 &&& (3 : Int32))), .val (.ref o29), .val (.ref o30), .val (.int (1 : Int32))] [])) (fun t k => XS.ifNo X33.here hx rfl (hb hby at_158) rfl ((if0 _ _).trans (teq hk34).2) k) ?_
        refine own_st (T' := T33) (g' := (mkF m 163 #[.val (.long q1), .second, .val (.int p2), .val (.int p3), .val (.int p4), .val (.int p5), .val (.ref r1), .val (.int (p5 &&& (3 : Int32))), .val (.ref o29), .val (.ref o30), .val (.int (1 : Int32))] [(.ref o30)])) (fun t k => XS.aload X33.here hx rfl (hb hby at_161) rfl rfl k) ?_
        obtain ⟨_, T35, L35, hQ35, X35, st35⟩ := own_callV (y := (⟨"com/example/sheaf/sheaf/engine/InstructionResult", "failure", "()Lcom/example/sheaf/sheaf/engine/Failure;"⟩ : MethodName)) (z := (⟨"com/example/sheaf/sheaf/engine/InstructionResult", "failure", "()Lcom/example/sheaf/sheaf/engine/Failure;"⟩ : MethodName)) (argsL := []) 0 [] (K := "com/example/sheaf/sheaf/engine/InstructionResult") (own_rm15 l Z a0 hw T30.heap n0 Z30 o30 r1 F_failure_o30) X33 hx hZ hown (hw _ (List.mem_of_getElem? (i := 84) rfl)) (hw _ (List.mem_of_getElem? (i := 85) rfl)) (notFace_of_selects (args := #[]) (mvT hZ (hw _ (List.mem_of_getElem? (i := 87) rfl)))) (hw _ (List.mem_of_getElem? (i := 87) rfl)) (hw _ (List.mem_of_getElem? (i := 86) rfl)) (hw _ (List.mem_of_getElem? (i := 88) rfl)) (hw _ (List.mem_of_getElem? (i := 40) rfl)) (by decide) (by decide) (by decide) (by decide) (by decide) e33 E_o30 (g := (mkF m 163 #[.val (.long q1), .second, .val (.int p2), .val (.int p3), .val (.int p4), .val (.int p5), .val (.ref r1), .val (.int (p5 &&& (3 : Int32))), .val (.ref o29), .val (.ref o30), .val (.int (1 : Int32))] [(.ref o30)])) rfl (by rw [hml]; rfl) (lenOf own_pd14 rfl) rfl (by show 2 * 0 + _ ≤ _; exact Nat.le_of_eq rfl) (hb hby at_163)
        obtain ⟨rfl, e35, rfl⟩ := hQ35
        have X35 : Stand p l e room_1 (s.setVm s.vm) m #[(.long q1), (.int p2), (.int p3), (.int p4), (.int p5)] below meth c T35 lc30 3 10 := by have := X35; rwa [List.append_nil] at this
        refine own_st (T' := T35) (g' := (mkF m 166 #[.val (.long q1), .second, .val (.int p2), .val (.int p3), .val (.int p4), .val (.int p5), .val (.ref r1), .val (.int (p5 &&& (3 : Int32))), .val (.ref o29), .val (.ref o30), .val (.int (1 : Int32))] [(.ref r1)])) st35 ?_
        refine own_st (T' := T35) (g' := (mkF m 168 #[.val (.long q1), .second, .val (.int p2), .val (.int p3), .val (.int p4), .val (.int p5), .val (.ref r1), .val (.int (p5 &&& (3 : Int32))), .val (.ref o29), .val (.ref o30), .val (.int (1 : Int32))] [(.ref r1), (.ref r1)])) (fun t k => XS.aload X35.here hx rfl (hb hby at_166) rfl rfl k) ?_
        have hk36 : r1 = r1 := rfl
        refine own_st (T' := T35) (g' := (mkF m 171 #[.val (.long q1), .second, .val (.int p2), .val (.int p3), .val (.int p4), .val (.int p5), .val (.ref r1), .val (.int (p5 &&& (3 : Int32))), .val (.ref o29), .val (.ref o30), .val (.int (1 : Int32))] [])) (fun t k => Jvm.RoadKit.acmp (g := (mkF m 168 #[.val (.long q1), .second, .val (.int p2), .val (.int p3), .val (.int p4), .val (.int p5), .val (.ref r1), .val (.int (p5 &&& (3 : Int32))), .val (.ref o29), .val (.ref o30), .val (.int (1 : Int32))] [(.ref r1), (.ref r1)])) X35 hx rfl rfl rfl (pc0 := 168) (pc' := 171) (same := true) rfl (hb hby at_168) rfl (decide_eq_true (congrArg Value.ref hk36)) (by decide) (by decide) k) ?_
        refine own_st (T' := T35) (g' := (mkF m 173 #[.val (.long q1), .second, .val (.int p2), .val (.int p3), .val (.int p4), .val (.int p5), .val (.ref r1), .val (.int (p5 &&& (3 : Int32))), .val (.ref o29), .val (.ref o30), .val (.int (1 : Int32))] [(.int (1 : Int32))])) (fun t k => XS.iload X35.here hx rfl (hb hby at_171) rfl k) ?_
        refine own_st (T' := T35) (g' := (mkF m 176 #[.val (.long q1), .second, .val (.int p2), .val (.int p3), .val (.int p4), .val (.int p5), .val (.ref r1), .val (.int (p5 &&& (3 : Int32))), .val (.ref o29), .val (.ref o30), .val (.int (1 : Int32))] [])) (fun t k => XS.ifNo X35.here hx rfl (hb hby at_173) rfl ((if0 _ _).trans (feq (by decide)).1) k) ?_
        refine own_st (T' := T35) (g' := (mkF m 178 #[.val (.long q1), .second, .val (.int p2), .val (.int p3), .val (.int p4), .val (.int p5), .val (.ref r1), .val (.int (p5 &&& (3 : Int32))), .val (.ref o29), .val (.ref o30), .val (.int (1 : Int32))] [(.ref o30)])) (fun t k => XS.aload X35.here hx rfl (hb hby at_176) rfl rfl k) ?_
        obtain ⟨_, T37, L37, hQ37, X37, st37⟩ := own_callV (y := (⟨"com/example/sheaf/sheaf/engine/InstructionResult", "order", "()Lcom/example/sheaf/sheaf/engine/OrderState;"⟩ : MethodName)) (z := (⟨"com/example/sheaf/sheaf/engine/InstructionResult", "order", "()Lcom/example/sheaf/sheaf/engine/OrderState;"⟩ : MethodName)) (argsL := []) 0 [] (K := "com/example/sheaf/sheaf/engine/InstructionResult") (own_rm16 l Z a0 hw T30.heap n0 Z30 o30 F_order_o30) X35 hx hZ hown (hw _ (List.mem_of_getElem? (i := 89) rfl)) (hw _ (List.mem_of_getElem? (i := 90) rfl)) (notFace_of_selects (args := #[]) (mvT hZ (hw _ (List.mem_of_getElem? (i := 92) rfl)))) (hw _ (List.mem_of_getElem? (i := 92) rfl)) (hw _ (List.mem_of_getElem? (i := 91) rfl)) (hw _ (List.mem_of_getElem? (i := 93) rfl)) (hw _ (List.mem_of_getElem? (i := 40) rfl)) (by decide) (by decide) (by decide) (by decide) (by decide) e35 E_o30 (g := (mkF m 178 #[.val (.long q1), .second, .val (.int p2), .val (.int p3), .val (.int p4), .val (.int p5), .val (.ref r1), .val (.int (p5 &&& (3 : Int32))), .val (.ref o29), .val (.ref o30), .val (.int (1 : Int32))] [(.ref o30)])) rfl (by rw [hml]; rfl) (lenOf own_pd15 rfl) rfl (by show 2 * 0 + _ ≤ _; exact Nat.le_of_eq rfl) (hb hby at_178)
        obtain ⟨rfl, e37, rfl⟩ := hQ37
        have X37 : Stand p l e room_1 (s.setVm s.vm) m #[(.long q1), (.int p2), (.int p3), (.int p4), (.int p5)] below meth c T37 lc30 3 10 := by have := X37; rwa [List.append_nil] at this
        refine own_st (T' := T37) (g' := (mkF m 181 #[.val (.long q1), .second, .val (.int p2), .val (.int p3), .val (.int p4), .val (.int p5), .val (.ref r1), .val (.int (p5 &&& (3 : Int32))), .val (.ref o29), .val (.ref o30), .val (.int (1 : Int32))] [.null])) st37 ?_
        refine own_st (T' := T37) (g' := (mkF m 184 #[.val (.long q1), .second, .val (.int p2), .val (.int p3), .val (.int p4), .val (.int p5), .val (.ref r1), .val (.int (p5 &&& (3 : Int32))), .val (.ref o29), .val (.ref o30), .val (.int (1 : Int32))] [])) (fun t k => XS.ifnonnullNo X37.here hx rfl (hb hby at_181) rfl k) ?_
        refine own_st (T' := T37) (g' := (mkF m 186 #[.val (.long q1), .second, .val (.int p2), .val (.int p3), .val (.int p4), .val (.int p5), .val (.ref r1), .val (.int (p5 &&& (3 : Int32))), .val (.ref o29), .val (.ref o30), .val (.int (1 : Int32))] [(.ref o30)])) (fun t k => XS.aload X37.here hx rfl (hb hby at_184) rfl rfl k) ?_
        obtain ⟨_, T38, L38, hQ38, X38, st38⟩ := own_callV (y := (⟨"com/example/sheaf/sheaf/engine/InstructionResult", "fills", "()Ljava/util/List;"⟩ : MethodName)) (z := (⟨"com/example/sheaf/sheaf/engine/InstructionResult", "fills", "()Ljava/util/List;"⟩ : MethodName)) (argsL := []) 0 [] (K := "com/example/sheaf/sheaf/engine/InstructionResult") (own_rm17 l Z a0 hw T30.heap n0 Z30 o30 s_EL F_fills_o30) X37 hx hZ hown (hw _ (List.mem_of_getElem? (i := 94) rfl)) (hw _ (List.mem_of_getElem? (i := 95) rfl)) (notFace_of_selects (args := #[]) (mvT hZ (hw _ (List.mem_of_getElem? (i := 97) rfl)))) (hw _ (List.mem_of_getElem? (i := 97) rfl)) (hw _ (List.mem_of_getElem? (i := 96) rfl)) (hw _ (List.mem_of_getElem? (i := 98) rfl)) (hw _ (List.mem_of_getElem? (i := 40) rfl)) (by decide) (by decide) (by decide) (by decide) (by decide) e37 E_o30 (g := (mkF m 186 #[.val (.long q1), .second, .val (.int p2), .val (.int p3), .val (.int p4), .val (.int p5), .val (.ref r1), .val (.int (p5 &&& (3 : Int32))), .val (.ref o29), .val (.ref o30), .val (.int (1 : Int32))] [(.ref o30)])) rfl (by rw [hml]; rfl) (lenOf own_pd8 rfl) rfl (by show 2 * 0 + _ ≤ _; exact Nat.le_of_eq rfl) (hb hby at_186)
        obtain ⟨rfl, e38, rfl⟩ := hQ38
        have X38 : Stand p l e room_1 (s.setVm s.vm) m #[(.long q1), (.int p2), (.int p3), (.int p4), (.int p5)] below meth c T38 lc30 3 10 := by have := X38; rwa [List.append_nil] at this
        refine own_st (T' := T38) (g' := (mkF m 189 #[.val (.long q1), .second, .val (.int p2), .val (.int p3), .val (.int p4), .val (.int p5), .val (.ref r1), .val (.int (p5 &&& (3 : Int32))), .val (.ref o29), .val (.ref o30), .val (.int (1 : Int32))] [(.ref s_EL)])) st38 ?_
        refine own_st (T' := T38) (g' := (mkF m 192 #[.val (.long q1), .second, .val (.int p2), .val (.int p3), .val (.int p4), .val (.int p5), .val (.ref r1), .val (.int (p5 &&& (3 : Int32))), .val (.ref o29), .val (.ref o30), .val (.int (1 : Int32))] [])) (fun t k => XS.ifnullNo X38.here hx rfl (hb hby at_189) rfl k) ?_
        refine own_st (T' := T38) (g' := (mkF m 194 #[.val (.long q1), .second, .val (.int p2), .val (.int p3), .val (.int p4), .val (.int p5), .val (.ref r1), .val (.int (p5 &&& (3 : Int32))), .val (.ref o29), .val (.ref o30), .val (.int (1 : Int32))] [(.ref o30)])) (fun t k => XS.aload X38.here hx rfl (hb hby at_192) rfl rfl k) ?_
        obtain ⟨_, T39, L39, hQ39, X39, st39⟩ := own_callV (y := (⟨"com/example/sheaf/sheaf/engine/InstructionResult", "fills", "()Ljava/util/List;"⟩ : MethodName)) (z := (⟨"com/example/sheaf/sheaf/engine/InstructionResult", "fills", "()Ljava/util/List;"⟩ : MethodName)) (argsL := []) 0 [] (K := "com/example/sheaf/sheaf/engine/InstructionResult") (own_rm17 l Z a0 hw T30.heap n0 Z30 o30 s_EL F_fills_o30) X38 hx hZ hown (hw _ (List.mem_of_getElem? (i := 94) rfl)) (hw _ (List.mem_of_getElem? (i := 95) rfl)) (notFace_of_selects (args := #[]) (mvT hZ (hw _ (List.mem_of_getElem? (i := 97) rfl)))) (hw _ (List.mem_of_getElem? (i := 97) rfl)) (hw _ (List.mem_of_getElem? (i := 96) rfl)) (hw _ (List.mem_of_getElem? (i := 98) rfl)) (hw _ (List.mem_of_getElem? (i := 40) rfl)) (by decide) (by decide) (by decide) (by decide) (by decide) e38 E_o30 (g := (mkF m 194 #[.val (.long q1), .second, .val (.int p2), .val (.int p3), .val (.int p4), .val (.int p5), .val (.ref r1), .val (.int (p5 &&& (3 : Int32))), .val (.ref o29), .val (.ref o30), .val (.int (1 : Int32))] [(.ref o30)])) rfl (by rw [hml]; rfl) (lenOf own_pd8 rfl) rfl (by show 2 * 0 + _ ≤ _; exact Nat.le_of_eq rfl) (hb hby at_194)
        obtain ⟨rfl, e39, rfl⟩ := hQ39
        have X39 : Stand p l e room_1 (s.setVm s.vm) m #[(.long q1), (.int p2), (.int p3), (.int p4), (.int p5)] below meth c T39 lc30 3 10 := by have := X39; rwa [List.append_nil] at this
        refine own_st (T' := T39) (g' := (mkF m 197 #[.val (.long q1), .second, .val (.int p2), .val (.int p3), .val (.int p4), .val (.int p5), .val (.ref r1), .val (.int (p5 &&& (3 : Int32))), .val (.ref o29), .val (.ref o30), .val (.int (1 : Int32))] [(.ref s_EL)])) st39 ?_
        obtain ⟨_, T40, L40, hQ40, X40, st40⟩ := own_callF (y := (⟨"java/util/List", "size", "()I"⟩ : MethodName)) (z := (⟨"java/util/ImmutableCollections$ListN", "size", "()I"⟩ : MethodName)) (argsL := []) 0 [] (K := "java/util/ImmutableCollections$ListN") (own_rm18 l Z a0 hw T30.heap n0 Z30 s_EL _ _ F_elements_s_EL V_s_EA) X39 hx hZ hown (hw _ (List.mem_of_getElem? (i := 99) rfl)) (hw _ (List.mem_of_getElem? (i := 100) rfl)) (mvT hZ (hw _ (List.mem_of_getElem? (i := 101) rfl))) (hw _ (List.mem_of_getElem? (i := 102) rfl)) (hw _ (List.mem_of_getElem? (i := 103) rfl)) (hw _ (List.mem_of_getElem? (i := 104) rfl)) (hw _ (List.mem_of_getElem? (i := 105) rfl)) (hw _ (List.mem_of_getElem? (i := 106) rfl)) (hw _ (List.mem_of_getElem? (i := 108) rfl)) (hw _ (List.mem_of_getElem? (i := 107) rfl)) (by decide) (by decide) (by decide) (by decide) (by decide) e39 E_s_EL (g := (mkF m 197 #[.val (.long q1), .second, .val (.int p2), .val (.int p3), .val (.int p4), .val (.int p5), .val (.ref r1), .val (.int (p5 &&& (3 : Int32))), .val (.ref o29), .val (.ref o30), .val (.int (1 : Int32))] [(.ref s_EL)])) rfl (by rw [hml]; rfl) (lenOf own_pd16 rfl) rfl (by show 2 * 0 + _ ≤ _; exact Nat.le_of_eq rfl) (hb hby at_197)
        obtain ⟨rfl, e40, rfl⟩ := hQ40
        have X40 : Stand p l e room_1 (s.setVm s.vm) m #[(.long q1), (.int p2), (.int p3), (.int p4), (.int p5)] below meth c T40 lc30 3 10 := by have := X40; rwa [List.append_nil] at this
        refine own_st (T' := T40) (g' := (mkF m 202 #[.val (.long q1), .second, .val (.int p2), .val (.int p3), .val (.int p4), .val (.int p5), .val (.ref r1), .val (.int (p5 &&& (3 : Int32))), .val (.ref o29), .val (.ref o30), .val (.int (1 : Int32))] [(.int (0 : Int32))])) st40 ?_
        refine own_st (T' := T40) (g' := (mkF m 205 #[.val (.long q1), .second, .val (.int p2), .val (.int p3), .val (.int p4), .val (.int p5), .val (.ref r1), .val (.int (p5 &&& (3 : Int32))), .val (.ref o29), .val (.ref o30), .val (.int (1 : Int32))] [])) (fun t k => XS.ifNo X40.here hx rfl (hb hby at_202) rfl ((if0 _ _).trans (teq (by decide)).2) k) ?_
        refine own_st (T' := T40) (g' := (mkF m 206 #[.val (.long q1), .second, .val (.int p2), .val (.int p3), .val (.int p4), .val (.int p5), .val (.ref r1), .val (.int (p5 &&& (3 : Int32))), .val (.ref o29), .val (.ref o30), .val (.int (1 : Int32))] [(.int (1 : Int32))])) (fun t k => XS.iconst X40.here hx rfl (hb hby at_205) k) ?_
        refine own_st (T' := T40) (g' := (mkF m 210 #[.val (.long q1), .second, .val (.int p2), .val (.int p3), .val (.int p4), .val (.int p5), .val (.ref r1), .val (.int (p5 &&& (3 : Int32))), .val (.ref o29), .val (.ref o30), .val (.int (1 : Int32))] [(.int (1 : Int32))])) (fun t k => XS.goto X40.here hx rfl (pc0 := 206) (pc' := 210) rfl (hb hby at_206) (by decide) (by decide) k) ?_
        exact own_retBW X40 hS (by rw [e40]; exact hkS) hx hlk hret (hb hby at_210) (by decide) (by decide) rfl ⟨rfl, N30⟩
      ·
        refine own_st (T' := T1) (g' := (mkF m 64 #[.val (.long q1), .second, .val (.int p2), .val (.int p3), .val (.int p4), .val (.int p5), .val (.ref r1), .val (.int (p5 &&& (3 : Int32))), .unset, .unset, .unset] [])) (fun t k => XS.icmpYes X1.here hx rfl (pc0 := 47) (pc' := 64) rfl (hb hby at_47) rfl (feq hc47_28).2 (by decide) (by decide) k) ?_
        refine own_st (T' := T1) (g' := (mkF m 65 #[.val (.long q1), .second, .val (.int p2), .val (.int p3), .val (.int p4), .val (.int p5), .val (.ref r1), .val (.int (p5 &&& (3 : Int32))), .unset, .unset, .unset] [(.int (2 : Int32))])) (fun t k => XS.iconst X1.here hx rfl (hb hby at_64) k) ?_
        obtain ⟨T41, h41, k41, X41, e41, E41, A41, Ex41, st41⟩ := newPE X1 hx hZ (aty := .char) (hw _ (List.mem_of_getElem? (i := 8) rfl)) e1 (g := (mkF m 65 #[.val (.long q1), .second, .val (.int p2), .val (.int p3), .val (.int p4), .val (.int p5), .val (.ref r1), .val (.int (p5 &&& (3 : Int32))), .unset, .unset, .unset] [(.int (2 : Int32))])) rfl (hb hby at_65) rfl (by decide) (cap := 2) (by decide) (by decide) (by decide) (by decide) (ad := "[C") (by decide)
        obtain ⟨b41, gb41⟩ : ∃ z, z = h0.size := ⟨_, rfl⟩
        rw [← gb41] at A41 Ex41 st41
        have ne_s_EL_b41 : s_EL ≠ b41 := by rw [gb41]; exact Nat.ne_of_lt E_s_EL.lt
        have ne_s_EA_b41 : s_EA ≠ b41 := by rw [gb41]; exact Nat.ne_of_lt V_s_EA.lt
        have g_b41 : n0 ≤ b41 := Nat.le_trans Z0 (Nat.le_of_eq gb41.symm)
        have Z41 : n0 ≤ h41.size := Nat.le_trans Z0 E41.1
        have hkS := Nat.le_trans hkS E41.1
        have O := O.ext E41
        have E_s_EL := E_s_EL.ext E41
        have F_elements_s_EL := F_elements_s_EL.ext E41
        have V_s_EA := V_s_EA.ext E41
        have hCH := hCH.ext E41
        have V_b41 : Arv Z h41 b41 k41 .char (2 : Int32) [(.int (0 : Int32)), (.int (0 : Int32))] (.int (0 : Int32)) := (Arv.new A41 (by decide)).pad (pad_rep [] (.int (0 : Int32)) 2)
        have E_b41 := Ex41
        have X41 : Stand p l e room_1 (s.setVm s.vm) m #[(.long q1), (.int p2), (.int p3), (.int p4), (.int p5)] below meth c T41 [] 1 2 := X41
        refine own_st (T' := T41) (g' := (mkF m 67 #[.val (.long q1), .second, .val (.int p2), .val (.int p3), .val (.int p4), .val (.int p5), .val (.ref r1), .val (.int (p5 &&& (3 : Int32))), .unset, .unset, .unset] [(.ref b41)])) st41 ?_
        refine own_st (T' := T41) (g' := (mkF m 69 #[.val (.long q1), .second, .val (.int p2), .val (.int p3), .val (.int p4), .val (.int p5), .val (.ref r1), .val (.int (p5 &&& (3 : Int32))), .unset, .val (.ref b41), .unset] [])) (fun t k => XS.astore X41.here hx rfl (hb hby at_67) rfl rfl (l' := #[.val (.long q1), .second, .val (.int p2), .val (.int p3), .val (.int p4), .val (.int p5), .val (.ref r1), .val (.int (p5 &&& (3 : Int32))), .unset, .val (.ref b41), .unset]) rfl k) ?_
        refine own_st (T' := T41) (g' := (mkF m 71 #[.val (.long q1), .second, .val (.int p2), .val (.int p3), .val (.int p4), .val (.int p5), .val (.ref r1), .val (.int (p5 &&& (3 : Int32))), .unset, .val (.ref b41), .unset] [(.ref b41)])) (fun t k => XS.aload X41.here hx rfl (hb hby at_69) rfl rfl k) ?_
        refine own_st (T' := T41) (g' := (mkF m 72 #[.val (.long q1), .second, .val (.int p2), .val (.int p3), .val (.int p4), .val (.int p5), .val (.ref r1), .val (.int (p5 &&& (3 : Int32))), .unset, .val (.ref b41), .unset] [(.int (0 : Int32)), (.ref b41)])) (fun t k => XS.iconst X41.here hx rfl (hb hby at_71) k) ?_
        refine own_st (T' := T41) (g' := (mkF m 73 #[.val (.long q1), .second, .val (.int p2), .val (.int p3), .val (.int p4), .val (.int p5), .val (.ref r1), .val (.int (p5 &&& (3 : Int32))), .unset, .val (.ref b41), .unset] [(.int p3), (.int (0 : Int32)), (.ref b41)])) (fun t k => XS.iloadN X41.here hx rfl (hb hby at_72) rfl k) ?_
        refine own_st (T' := T41) (g' := (mkF m 76 #[.val (.long q1), .second, .val (.int p2), .val (.int p3), .val (.int p4), .val (.int p5), .val (.ref r1), .val (.int (p5 &&& (3 : Int32))), .unset, .val (.ref b41), .unset] [(.int (255 : Int32)), (.int p3), (.int (0 : Int32)), (.ref b41)])) (fun t k => XS.sipush X41.here hx rfl (hb hby at_73) k) ?_
        refine own_st (T' := T41) (g' := (mkF m 77 #[.val (.long q1), .second, .val (.int p2), .val (.int p3), .val (.int p4), .val (.int p5), .val (.ref r1), .val (.int (p5 &&& (3 : Int32))), .unset, .val (.ref b41), .unset] [(.int (p3 &&& (255 : Int32))), (.int (0 : Int32)), (.ref b41)])) (fun t k => XS.iand X41.here hx rfl (hb hby at_76) rfl k) ?_
        refine own_st (T' := T41) (g' := (mkF m 78 #[.val (.long q1), .second, .val (.int p2), .val (.int p3), .val (.int p4), .val (.int p5), .val (.ref r1), .val (.int (p5 &&& (3 : Int32))), .unset, .val (.ref b41), .unset] [(.int ((p3 &&& (255 : Int32)).toUInt32.toUInt16.toUInt32.toInt32)), (.int (0 : Int32)), (.ref b41)])) (fun t k => XS.i2c X41.here hx rfl (hb hby at_77) rfl k) ?_
        obtain ⟨cl42, Ar42, q42, S42, N42n, H42, G42⟩ := V_b41
        have hin42 : ¬ ((0 : Int32) < 0 ∨ cl42.slots.size ≤ ((0 : Int32) : Int32).toNatClampNeg) := inb_of S42 ⟨by decide, by decide⟩
        obtain ⟨T43, h43, X43, e43, W43, st43⟩ := stC X41 hx hZ e41 Ar42 (j := (0 : Int32)) hin42 (g := (mkF m 78 #[.val (.long q1), .second, .val (.int p2), .val (.int p3), .val (.int p4), .val (.int p5), .val (.ref r1), .val (.int (p5 &&& (3 : Int32))), .unset, .val (.ref b41), .unset] [(.int ((p3 &&& (255 : Int32)).toUInt32.toUInt16.toUInt32.toInt32)), (.int (0 : Int32)), (.ref b41)])) rfl rfl (hb hby at_78)
        have hkS := Nat.le_trans hkS (Keep.of_wr W43).1
        have O := O.wr W43 g_b41
        have E_s_EL := E_s_EL.wr W43
        have F_elements_s_EL := F_elements_s_EL.other W43 (Or.inl ne_s_EL_b41)
        have V_s_EA := V_s_EA.other W43 ne_s_EA_b41
        have E_b41 := E_b41.wr W43
        have V_b41 : Arv Z h43 b41 k41 .char (2 : Int32) [(.int (nar .char ((p3 &&& (255 : Int32)).toUInt32.toUInt16.toUInt32.toInt32))), (.int (0 : Int32))] (.int (0 : Int32)) := Arv.set Ar42 q42 S42 N42n H42 G42 (fits_nar_char _) W43 0 rfl (Nat.le_of_ble_eq_true rfl)
        have N43 := Fr.snoc X43 N0 g_b41
        generalize hlc43 : ([] ++ [(⟨b41, ((0 : Int32) : Int32).toNatClampNeg⟩ : Loc)] : List Loc) = lc43 at X43 N43
        have Z43 : n0 ≤ h43.size := Nat.le_trans Z41 (Keep.of_wr W43).1
        refine own_st (T' := T43) (g' := (mkF m 79 #[.val (.long q1), .second, .val (.int p2), .val (.int p3), .val (.int p4), .val (.int p5), .val (.ref r1), .val (.int (p5 &&& (3 : Int32))), .unset, .val (.ref b41), .unset] [])) st43 ?_
        refine own_st (T' := T43) (g' := (mkF m 81 #[.val (.long q1), .second, .val (.int p2), .val (.int p3), .val (.int p4), .val (.int p5), .val (.ref r1), .val (.int (p5 &&& (3 : Int32))), .unset, .val (.ref b41), .unset] [(.ref b41)])) (fun t k => XS.aload X43.here hx rfl (hb hby at_79) rfl rfl k) ?_
        refine own_st (T' := T43) (g' := (mkF m 82 #[.val (.long q1), .second, .val (.int p2), .val (.int p3), .val (.int p4), .val (.int p5), .val (.ref r1), .val (.int (p5 &&& (3 : Int32))), .unset, .val (.ref b41), .unset] [(.int (1 : Int32)), (.ref b41)])) (fun t k => XS.iconst X43.here hx rfl (hb hby at_81) k) ?_
        refine own_st (T' := T43) (g' := (mkF m 84 #[.val (.long q1), .second, .val (.int p2), .val (.int p3), .val (.int p4), .val (.int p5), .val (.ref r1), .val (.int (p5 &&& (3 : Int32))), .unset, .val (.ref b41), .unset] [(.int p4), (.int (1 : Int32)), (.ref b41)])) (fun t k => XS.iload X43.here hx rfl (hb hby at_82) rfl k) ?_
        refine own_st (T' := T43) (g' := (mkF m 87 #[.val (.long q1), .second, .val (.int p2), .val (.int p3), .val (.int p4), .val (.int p5), .val (.ref r1), .val (.int (p5 &&& (3 : Int32))), .unset, .val (.ref b41), .unset] [(.int (255 : Int32)), (.int p4), (.int (1 : Int32)), (.ref b41)])) (fun t k => XS.sipush X43.here hx rfl (hb hby at_84) k) ?_
        refine own_st (T' := T43) (g' := (mkF m 88 #[.val (.long q1), .second, .val (.int p2), .val (.int p3), .val (.int p4), .val (.int p5), .val (.ref r1), .val (.int (p5 &&& (3 : Int32))), .unset, .val (.ref b41), .unset] [(.int (p4 &&& (255 : Int32))), (.int (1 : Int32)), (.ref b41)])) (fun t k => XS.iand X43.here hx rfl (hb hby at_87) rfl k) ?_
        refine own_st (T' := T43) (g' := (mkF m 89 #[.val (.long q1), .second, .val (.int p2), .val (.int p3), .val (.int p4), .val (.int p5), .val (.ref r1), .val (.int (p5 &&& (3 : Int32))), .unset, .val (.ref b41), .unset] [(.int ((p4 &&& (255 : Int32)).toUInt32.toUInt16.toUInt32.toInt32)), (.int (1 : Int32)), (.ref b41)])) (fun t k => XS.i2c X43.here hx rfl (hb hby at_88) rfl k) ?_
        obtain ⟨cl44, Ar44, q44, S44, N44n, H44, G44⟩ := V_b41
        have hin44 : ¬ ((1 : Int32) < 0 ∨ cl44.slots.size ≤ ((1 : Int32) : Int32).toNatClampNeg) := inb_of S44 ⟨by decide, by decide⟩
        obtain ⟨T45, h45, X45, e45, W45, st45⟩ := stC X43 hx hZ e43 Ar44 (j := (1 : Int32)) hin44 (g := (mkF m 89 #[.val (.long q1), .second, .val (.int p2), .val (.int p3), .val (.int p4), .val (.int p5), .val (.ref r1), .val (.int (p5 &&& (3 : Int32))), .unset, .val (.ref b41), .unset] [(.int ((p4 &&& (255 : Int32)).toUInt32.toUInt16.toUInt32.toInt32)), (.int (1 : Int32)), (.ref b41)])) rfl rfl (hb hby at_89)
        have hkS := Nat.le_trans hkS (Keep.of_wr W45).1
        have O := O.wr W45 g_b41
        have E_s_EL := E_s_EL.wr W45
        have F_elements_s_EL := F_elements_s_EL.other W45 (Or.inl ne_s_EL_b41)
        have V_s_EA := V_s_EA.other W45 ne_s_EA_b41
        have E_b41 := E_b41.wr W45
        have V_b41 : Arv Z h45 b41 k41 .char (2 : Int32) [(.int (nar .char ((p3 &&& (255 : Int32)).toUInt32.toUInt16.toUInt32.toInt32))), (.int (nar .char ((p4 &&& (255 : Int32)).toUInt32.toUInt16.toUInt32.toInt32)))] (.int (0 : Int32)) := Arv.set Ar44 q44 S44 N44n H44 G44 (fits_nar_char _) W45 1 rfl (Nat.le_of_ble_eq_true rfl)
        have N45 := Fr.snoc X45 N43 g_b41
        generalize hlc45 : (lc43 ++ [(⟨b41, ((1 : Int32) : Int32).toNatClampNeg⟩ : Loc)] : List Loc) = lc45 at X45 N45
        have Z45 : n0 ≤ h45.size := Nat.le_trans Z43 (Keep.of_wr W45).1
        refine own_st (T' := T45) (g' := (mkF m 90 #[.val (.long q1), .second, .val (.int p2), .val (.int p3), .val (.int p4), .val (.int p5), .val (.ref r1), .val (.int (p5 &&& (3 : Int32))), .unset, .val (.ref b41), .unset] [])) st45 ?_
        obtain ⟨T46, h46, X46, e46, E46, A46, D46, -, st46⟩ := newO X45 hx hZ hown (hw _ (List.mem_of_getElem? (i := 9) rfl)) (hw _ (List.mem_of_getElem? (i := 10) rfl)) (hw _ (List.mem_of_getElem? (i := 11) rfl)) e45 (g := (mkF m 90 #[.val (.long q1), .second, .val (.int p2), .val (.int p3), .val (.int p4), .val (.int p5), .val (.ref r1), .val (.int (p5 &&& (3 : Int32))), .unset, .val (.ref b41), .unset] [])) rfl (hb hby at_90) (by decide) (by decide)
        obtain ⟨b46, gb46⟩ : ∃ z, z = h45.size := ⟨_, rfl⟩
        rw [← gb46] at A46 D46 st46
        have ne_s_EL_b46 : s_EL ≠ b46 := by rw [gb46]; exact Nat.ne_of_lt E_s_EL.lt
        have ne_s_EA_b46 : s_EA ≠ b46 := by rw [gb46]; exact Nat.ne_of_lt V_s_EA.lt
        have ne_b41_b46 : b41 ≠ b46 := by rw [gb46]; exact Nat.ne_of_lt V_b41.lt
        have g_b46 : n0 ≤ b46 := Nat.le_trans Z45 (Nat.le_of_eq gb46.symm)
        have Z46 : n0 ≤ h46.size := Nat.le_trans Z45 E46.1
        have hkS := Nat.le_trans hkS E46.1
        have O := O.ext E46
        have E_s_EL := E_s_EL.ext E46
        have F_elements_s_EL := F_elements_s_EL.ext E46
        have V_s_EA := V_s_EA.ext E46
        have V_b41 := V_b41.ext E46
        have E_b41 := E_b41.ext E46
        have E_b46 := A46
        have F_coder_b46 : Fld Z h46 b46 "java/lang/String" "coder" "B" (.int (0 : Int32)) := D46 (Or.inr (hw _ (List.mem_of_getElem? (i := 35) rfl))) (ty := .byte) (by decide)
        have F_value_b46 : Fld Z h46 b46 "java/lang/String" "value" "[B" .null := D46 (Or.inr (hw _ (List.mem_of_getElem? (i := 37) rfl))) (ty := (.array .byte)) (by decide)
        have X46 : Stand p l e room_1 (s.setVm s.vm) m #[(.long q1), (.int p2), (.int p3), (.int p4), (.int p5)] below meth c T46 lc45 2 6 := X46
        refine own_st (T' := T46) (g' := (mkF m 93 #[.val (.long q1), .second, .val (.int p2), .val (.int p3), .val (.int p4), .val (.int p5), .val (.ref r1), .val (.int (p5 &&& (3 : Int32))), .unset, .val (.ref b41), .unset] [(.ref b46)])) st46 ?_
        refine own_st (T' := T46) (g' := (mkF m 94 #[.val (.long q1), .second, .val (.int p2), .val (.int p3), .val (.int p4), .val (.int p5), .val (.ref r1), .val (.int (p5 &&& (3 : Int32))), .unset, .val (.ref b41), .unset] [(.ref b46), (.ref b46)])) (fun t k => XS.dup X46.here hx rfl (hb hby at_93) rfl rfl k) ?_
        refine own_st (T' := T46) (g' := (mkF m 96 #[.val (.long q1), .second, .val (.int p2), .val (.int p3), .val (.int p4), .val (.int p5), .val (.ref r1), .val (.int (p5 &&& (3 : Int32))), .unset, .val (.ref b41), .unset] [(.ref b41), (.ref b46), (.ref b46)])) (fun t k => XS.aload X46.here hx rfl (hb hby at_94) rfl rfl k) ?_
        obtain ⟨_, T47, L47, hQ47, X47, st47⟩ := own_callI (y := (⟨"java/lang/String", "<init>", "([C)V"⟩ : MethodName)) (argsL := [(.ref b41)]) 1 [(.ref b46)] (own_rm2n2 l Z a0 hw h46 n0 Z46 b46 b41 O zc hzc S_CS E_b46 g_b46 _ F_coder_b46 _ F_value_b46 (nar .char ((p3 &&& (255 : Int32)).toUInt32.toUInt16.toUInt32.toInt32)) (nar .char ((p4 &&& (255 : Int32)).toUInt32.toUInt16.toUInt32.toInt32)) (own_n255 _) (own_n255 _) k41 V_b41 ne_b41_b46) X46 hx hZ hown rfl (hw _ (List.mem_of_getElem? (i := 12) rfl)) (hw _ (List.mem_of_getElem? (i := 13) rfl)) (hw _ (List.mem_of_getElem? (i := 14) rfl)) (hw _ (List.mem_of_getElem? (i := 11) rfl)) (by decide) (by decide) (by decide) (by decide) (by decide) e46 (g := (mkF m 96 #[.val (.long q1), .second, .val (.int p2), .val (.int p3), .val (.int p4), .val (.int p5), .val (.ref r1), .val (.int (p5 &&& (3 : Int32))), .unset, .val (.ref b41), .unset] [(.ref b41), (.ref b46), (.ref b46)])) rfl (by rw [hml]; rfl) (lenOf own_pd17 rfl) rfl (by show 2 * 0 + _ ≤ _; exact Nat.le_of_eq rfl) (hb hby at_96)
        obtain ⟨rfl, N47q, Kq47, E_b46⟩ := hQ47
        have Z47 : n0 ≤ T47.heap.size := Nat.le_trans Z46 Kq47.1
        have hkS := Nat.le_trans hkS Kq47.1
        have O := O.keep Kq47 (allS g_b46 all0)
        have E_s_EL := E_s_EL.keep Kq47
        have F_elements_s_EL := F_elements_s_EL.keep Kq47 (ninS ne_s_EL_b46 nin0)
        have V_s_EA := V_s_EA.keep Kq47 (ninS ne_s_EA_b46 nin0)
        have V_b41 := V_b41.keep Kq47 (ninS ne_b41_b46 nin0)
        have E_b41 := E_b41.keep Kq47
        have N47 := Fr.app N45 N47q
        generalize hlc47 : (lc45 ++ L47 : List Loc) = lc47 at X47 N47
        have X47 : Stand p l e room_1 (s.setVm s.vm) m #[(.long q1), (.int p2), (.int p3), (.int p4), (.int p5)] below meth c T47 lc47 3 8 := X47
        refine own_st (T' := T47) (g' := (mkF m 99 #[.val (.long q1), .second, .val (.int p2), .val (.int p3), .val (.int p4), .val (.int p5), .val (.ref r1), .val (.int (p5 &&& (3 : Int32))), .unset, .val (.ref b41), .unset] [(.ref b46)])) st47 ?_
        refine own_st (T' := T47) (g' := (mkF m 101 #[.val (.long q1), .second, .val (.int p2), .val (.int p3), .val (.int p4), .val (.int p5), .val (.ref r1), .val (.int (p5 &&& (3 : Int32))), .val (.ref b46), .val (.ref b41), .unset] [])) (fun t k => XS.astore X47.here hx rfl (hb hby at_99) rfl rfl (l' := #[.val (.long q1), .second, .val (.int p2), .val (.int p3), .val (.int p4), .val (.int p5), .val (.ref r1), .val (.int (p5 &&& (3 : Int32))), .val (.ref b46), .val (.ref b41), .unset]) rfl k) ?_
        refine own_st (T' := T47) (g' := (mkF m 102 #[.val (.long q1), .second, .val (.int p2), .val (.int p3), .val (.int p4), .val (.int p5), .val (.ref r1), .val (.int (p5 &&& (3 : Int32))), .val (.ref b46), .val (.ref b41), .unset] [(.long q1)])) (fun t k => XS.lloadN X47.here hx rfl (hb hby at_101) rfl k) ?_
        refine own_st (T' := T47) (g' := (mkF m 104 #[.val (.long q1), .second, .val (.int p2), .val (.int p3), .val (.int p4), .val (.int p5), .val (.ref r1), .val (.int (p5 &&& (3 : Int32))), .val (.ref b46), .val (.ref b41), .unset] [(.ref r1), (.long q1)])) (fun t k => XS.aload X47.here hx rfl (hb hby at_102) rfl rfl k) ?_
        refine own_st (T' := T47) (g' := (mkF m 106 #[.val (.long q1), .second, .val (.int p2), .val (.int p3), .val (.int p4), .val (.int p5), .val (.ref r1), .val (.int (p5 &&& (3 : Int32))), .val (.ref b46), .val (.ref b41), .unset] [(.ref b46), (.ref r1), (.long q1)])) (fun t k => XS.aload X47.here hx rfl (hb hby at_104) rfl rfl k) ?_
        have lt48_s_EL := E_s_EL.lt
        have lt48_s_EA := V_s_EA.lt
        have lt48_b41 := V_b41.lt
        have lt48_b46 := E_b46.lt
        obtain ⟨_, T48, L48, hQ48, X48, st48⟩ := own_callS (y := (⟨"com/example/sheaf/sheaf/engine/InstructionResult", "failed", "(JLcom/example/sheaf/sheaf/engine/Failure;Ljava/lang/String;)Lcom/example/sheaf/sheaf/engine/InstructionResult;"⟩ : MethodName)) (argsL := [(.long q1), (.ref r1), (.ref b46)]) 0 [] (own_rm8t l Z a0 hw T47.heap n0 Z47 q1 r1 b46 O s_EL S_EL) X47 hx hZ hown (hw _ (List.mem_of_getElem? (i := 38) rfl)) (hw _ (List.mem_of_getElem? (i := 39) rfl)) (hw _ (List.mem_of_getElem? (i := 40) rfl)) (hw _ (List.mem_of_getElem? (i := 41) rfl)) (by decide) (by decide) (by decide) (by decide) (by decide) rfl (g := (mkF m 106 #[.val (.long q1), .second, .val (.int p2), .val (.int p3), .val (.int p4), .val (.int p5), .val (.ref r1), .val (.int (p5 &&& (3 : Int32))), .val (.ref b46), .val (.ref b41), .unset] [(.ref b46), (.ref r1), (.long q1)])) rfl (by rw [hml]; rfl) (lenOf own_pd11 rfl) rfl (by show 2 * 0 + _ ≤ _; exact Nat.le_of_eq rfl) (hb hby at_106)
        obtain ⟨o48, rfl, N48q, Eq48, sz_o48, E_o48, F_seq_o48, F_failure_o48, F_text_o48, F_order_o48, F_fills_o48⟩ := hQ48
        have Z48 : n0 ≤ T48.heap.size := Nat.le_trans Z47 Eq48.1
        have hkS := Nat.le_trans hkS Eq48.1
        have O := O.ext Eq48
        have E_s_EL := E_s_EL.ext Eq48
        have F_elements_s_EL := F_elements_s_EL.ext Eq48
        have V_s_EA := V_s_EA.ext Eq48
        have V_b41 := V_b41.ext Eq48
        have E_b41 := E_b41.ext Eq48
        have E_b46 := E_b46.ext Eq48
        have N48 := Fr.app N47 N48q
        generalize hlc48 : (lc47 ++ L48 : List Loc) = lc48 at X48 N48
        have X48 : Stand p l e room_1 (s.setVm s.vm) m #[(.long q1), (.int p2), (.int p3), (.int p4), (.int p5)] below meth c T48 lc48 4 13 := X48
        have g_o48 : n0 ≤ o48 := Nat.le_trans Z47 sz_o48
        have ne_s_EL_o48 : s_EL ≠ o48 := Nat.ne_of_lt (Nat.lt_of_lt_of_le lt48_s_EL sz_o48)
        have ne_s_EA_o48 : s_EA ≠ o48 := Nat.ne_of_lt (Nat.lt_of_lt_of_le lt48_s_EA sz_o48)
        have ne_b41_o48 : b41 ≠ o48 := Nat.ne_of_lt (Nat.lt_of_lt_of_le lt48_b41 sz_o48)
        have ne_b46_o48 : b46 ≠ o48 := Nat.ne_of_lt (Nat.lt_of_lt_of_le lt48_b46 sz_o48)
        refine own_st (T' := T48) (g' := (mkF m 109 #[.val (.long q1), .second, .val (.int p2), .val (.int p3), .val (.int p4), .val (.int p5), .val (.ref r1), .val (.int (p5 &&& (3 : Int32))), .val (.ref b46), .val (.ref b41), .unset] [(.ref o48)])) st48 ?_
        refine own_st (T' := T48) (g' := (mkF m 111 #[.val (.long q1), .second, .val (.int p2), .val (.int p3), .val (.int p4), .val (.int p5), .val (.ref r1), .val (.int (p5 &&& (3 : Int32))), .val (.ref b46), .val (.ref o48), .unset] [])) (fun t k => XS.astore X48.here hx rfl (hb hby at_109) rfl rfl (l' := #[.val (.long q1), .second, .val (.int p2), .val (.int p3), .val (.int p4), .val (.int p5), .val (.ref r1), .val (.int (p5 &&& (3 : Int32))), .val (.ref b46), .val (.ref o48), .unset]) rfl k) ?_
        refine own_st (T' := T48) (g' := (mkF m 113 #[.val (.long q1), .second, .val (.int p2), .val (.int p3), .val (.int p4), .val (.int p5), .val (.ref r1), .val (.int (p5 &&& (3 : Int32))), .val (.ref b46), .val (.ref o48), .unset] [(.ref o48)])) (fun t k => XS.aload X48.here hx rfl (hb hby at_111) rfl rfl k) ?_
        refine own_st (T' := T48) (g' := (mkF m 118 #[.val (.long q1), .second, .val (.int p2), .val (.int p3), .val (.int p4), .val (.int p5), .val (.ref r1), .val (.int (p5 &&& (3 : Int32))), .val (.ref b46), .val (.ref o48), .unset] [])) (fun t k => XS.ifnonnullYes X48.here hx rfl (pc0 := 113) (pc' := 118) rfl (hb hby at_113) rfl (by decide) (by decide) k) ?_
        refine own_st (T' := T48) (g' := (mkF m 120 #[.val (.long q1), .second, .val (.int p2), .val (.int p3), .val (.int p4), .val (.int p5), .val (.ref r1), .val (.int (p5 &&& (3 : Int32))), .val (.ref b46), .val (.ref o48), .unset] [(.ref b46)])) (fun t k => XS.aload X48.here hx rfl (hb hby at_118) rfl rfl k) ?_
        refine own_st (T' := T48) (g' := (mkF m 139 #[.val (.long q1), .second, .val (.int p2), .val (.int p3), .val (.int p4), .val (.int p5), .val (.ref r1), .val (.int (p5 &&& (3 : Int32))), .val (.ref b46), .val (.ref o48), .unset] [])) (fun t k => XS.ifnonnullYes X48.here hx rfl (pc0 := 120) (pc' := 139) rfl (hb hby at_120) rfl (by decide) (by decide) k) ?_
        refine own_st (T' := T48) (g' := (mkF m 141 #[.val (.long q1), .second, .val (.int p2), .val (.int p3), .val (.int p4), .val (.int p5), .val (.ref r1), .val (.int (p5 &&& (3 : Int32))), .val (.ref b46), .val (.ref o48), .unset] [(.ref b46)])) (fun t k => XS.aload X48.here hx rfl (hb hby at_139) rfl rfl k) ?_
        refine own_st (T' := T48) (g' := (mkF m 143 #[.val (.long q1), .second, .val (.int p2), .val (.int p3), .val (.int p4), .val (.int p5), .val (.ref r1), .val (.int (p5 &&& (3 : Int32))), .val (.ref b46), .val (.ref o48), .unset] [(.ref o48), (.ref b46)])) (fun t k => XS.aload X48.here hx rfl (hb hby at_141) rfl rfl k) ?_
        obtain ⟨_, T49, L49, hQ49, X49, st49⟩ := own_callV (y := (⟨"com/example/sheaf/sheaf/engine/InstructionResult", "text", "()Ljava/lang/String;"⟩ : MethodName)) (z := (⟨"com/example/sheaf/sheaf/engine/InstructionResult", "text", "()Ljava/lang/String;"⟩ : MethodName)) (argsL := []) 1 [(.ref b46)] (K := "com/example/sheaf/sheaf/engine/InstructionResult") (own_rm12t l Z a0 hw T48.heap n0 Z48 o48 b46 F_text_o48) X48 hx hZ hown (hw _ (List.mem_of_getElem? (i := 69) rfl)) (hw _ (List.mem_of_getElem? (i := 70) rfl)) (notFace_of_selects (args := #[]) (mvT hZ (hw _ (List.mem_of_getElem? (i := 72) rfl)))) (hw _ (List.mem_of_getElem? (i := 72) rfl)) (hw _ (List.mem_of_getElem? (i := 71) rfl)) (hw _ (List.mem_of_getElem? (i := 73) rfl)) (hw _ (List.mem_of_getElem? (i := 40) rfl)) (by decide) (by decide) (by decide) (by decide) (by decide) rfl E_o48 (g := (mkF m 143 #[.val (.long q1), .second, .val (.int p2), .val (.int p3), .val (.int p4), .val (.int p5), .val (.ref r1), .val (.int (p5 &&& (3 : Int32))), .val (.ref b46), .val (.ref o48), .unset] [(.ref o48), (.ref b46)])) rfl (by rw [hml]; rfl) (lenOf own_pd12 rfl) rfl (by show 2 * 0 + _ ≤ _; exact Nat.le_of_eq rfl) (hb hby at_143)
        obtain ⟨rfl, e49, rfl⟩ := hQ49
        have X49 : Stand p l e room_1 (s.setVm s.vm) m #[(.long q1), (.int p2), (.int p3), (.int p4), (.int p5)] below meth c T49 lc48 4 13 := by have := X49; rwa [List.append_nil] at this
        refine own_st (T' := T49) (g' := (mkF m 146 #[.val (.long q1), .second, .val (.int p2), .val (.int p3), .val (.int p4), .val (.int p5), .val (.ref r1), .val (.int (p5 &&& (3 : Int32))), .val (.ref b46), .val (.ref o48), .unset] [(.ref b46), (.ref b46)])) st49 ?_
        obtain ⟨_, T50, L50, hQ50, X50, st50⟩ := own_callV (y := (⟨"java/lang/String", "equals", "(Ljava/lang/Object;)Z"⟩ : MethodName)) (z := (⟨"java/lang/String", "equals", "(Ljava/lang/Object;)Z"⟩ : MethodName)) (argsL := [(.ref b46)]) 0 [] (K := "java/lang/String") (own_rm13 l Z a0 hw T48.heap n0 Z48 b46) X49 hx hZ hown (hw _ (List.mem_of_getElem? (i := 74) rfl)) (hw _ (List.mem_of_getElem? (i := 75) rfl)) (notFace_of_selects (args := #[]) (mvT hZ (hw _ (List.mem_of_getElem? (i := 77) rfl)))) (hw _ (List.mem_of_getElem? (i := 77) rfl)) (hw _ (List.mem_of_getElem? (i := 76) rfl)) (hw _ (List.mem_of_getElem? (i := 78) rfl)) (hw _ (List.mem_of_getElem? (i := 11) rfl)) (by decide) (by decide) (by decide) (by decide) (by decide) e49 E_b46 (g := (mkF m 146 #[.val (.long q1), .second, .val (.int p2), .val (.int p3), .val (.int p4), .val (.int p5), .val (.ref r1), .val (.int (p5 &&& (3 : Int32))), .val (.ref b46), .val (.ref o48), .unset] [(.ref b46), (.ref b46)])) rfl (by rw [hml]; rfl) (lenOf own_pd18 rfl) rfl (by show 2 * 0 + _ ≤ _; exact Nat.le_of_eq rfl) (hb hby at_146)
        obtain ⟨rfl, e50, rfl⟩ := hQ50
        have X50 : Stand p l e room_1 (s.setVm s.vm) m #[(.long q1), (.int p2), (.int p3), (.int p4), (.int p5)] below meth c T50 lc48 4 13 := by have := X50; rwa [List.append_nil] at this
        refine own_st (T' := T50) (g' := (mkF m 149 #[.val (.long q1), .second, .val (.int p2), .val (.int p3), .val (.int p4), .val (.int p5), .val (.ref r1), .val (.int (p5 &&& (3 : Int32))), .val (.ref b46), .val (.ref o48), .unset] [(.int (1 : Int32))])) st50 ?_
        refine own_st (T' := T50) (g' := (mkF m 151 #[.val (.long q1), .second, .val (.int p2), .val (.int p3), .val (.int p4), .val (.int p5), .val (.ref r1), .val (.int (p5 &&& (3 : Int32))), .val (.ref b46), .val (.ref o48), .val (.int (1 : Int32))] [])) (fun t k => XS.istore X50.here hx rfl (hb hby at_149) rfl (l' := #[.val (.long q1), .second, .val (.int p2), .val (.int p3), .val (.int p4), .val (.int p5), .val (.ref r1), .val (.int (p5 &&& (3 : Int32))), .val (.ref b46), .val (.ref o48), .val (.int (1 : Int32))]) rfl k) ?_
        refine own_st (T' := T50) (g' := (mkF m 153 #[.val (.long q1), .second, .val (.int p2), .val (.int p3), .val (.int p4), .val (.int p5), .val (.ref r1), .val (.int (p5 &&& (3 : Int32))), .val (.ref b46), .val (.ref o48), .val (.int (1 : Int32))] [(.ref o48)])) (fun t k => XS.aload X50.here hx rfl (hb hby at_151) rfl rfl k) ?_
        obtain ⟨_, T51, L51, hQ51, X51, st51⟩ := own_callV (y := (⟨"com/example/sheaf/sheaf/engine/InstructionResult", "seq", "()J"⟩ : MethodName)) (z := (⟨"com/example/sheaf/sheaf/engine/InstructionResult", "seq", "()J"⟩ : MethodName)) (argsL := []) 0 [] (K := "com/example/sheaf/sheaf/engine/InstructionResult") (own_rm14 l Z a0 hw T48.heap n0 Z48 o48 q1 F_seq_o48) X50 hx hZ hown (hw _ (List.mem_of_getElem? (i := 79) rfl)) (hw _ (List.mem_of_getElem? (i := 80) rfl)) (notFace_of_selects (args := #[]) (mvT hZ (hw _ (List.mem_of_getElem? (i := 82) rfl)))) (hw _ (List.mem_of_getElem? (i := 82) rfl)) (hw _ (List.mem_of_getElem? (i := 81) rfl)) (hw _ (List.mem_of_getElem? (i := 83) rfl)) (hw _ (List.mem_of_getElem? (i := 40) rfl)) (by decide) (by decide) (by decide) (by decide) (by decide) e50 E_o48 (g := (mkF m 153 #[.val (.long q1), .second, .val (.int p2), .val (.int p3), .val (.int p4), .val (.int p5), .val (.ref r1), .val (.int (p5 &&& (3 : Int32))), .val (.ref b46), .val (.ref o48), .val (.int (1 : Int32))] [(.ref o48)])) rfl (by rw [hml]; rfl) (lenOf own_pd13 rfl) rfl (by show 2 * 0 + _ ≤ _; exact Nat.le_of_eq rfl) (hb hby at_153)
        obtain ⟨rfl, e51, rfl⟩ := hQ51
        have X51 : Stand p l e room_1 (s.setVm s.vm) m #[(.long q1), (.int p2), (.int p3), (.int p4), (.int p5)] below meth c T51 lc48 4 13 := by have := X51; rwa [List.append_nil] at this
        refine own_st (T' := T51) (g' := (mkF m 156 #[.val (.long q1), .second, .val (.int p2), .val (.int p3), .val (.int p4), .val (.int p5), .val (.ref r1), .val (.int (p5 &&& (3 : Int32))), .val (.ref b46), .val (.ref o48), .val (.int (1 : Int32))] [(.long q1)])) st51 ?_
        refine own_st (T' := T51) (g' := (mkF m 157 #[.val (.long q1), .second, .val (.int p2), .val (.int p3), .val (.int p4), .val (.int p5), .val (.ref r1), .val (.int (p5 &&& (3 : Int32))), .val (.ref b46), .val (.ref o48), .val (.int (1 : Int32))] [(.long q1), (.long q1)])) (fun t k => XS.lloadN X51.here hx rfl (hb hby at_156) rfl k) ?_
        refine own_st (T' := T51) (g' := (mkF m 158 #[.val (.long q1), .second, .val (.int p2), .val (.int p3), .val (.int p4), .val (.int p5), .val (.ref r1), .val (.int (p5 &&& (3 : Int32))), .val (.ref b46), .val (.ref o48), .val (.int (1 : Int32))] [(.int (lcmpW q1 q1))])) (fun t k => XS.lcmp X51.here hx rfl (hb hby at_157) rfl k) ?_
        have hk52 : (lcmpW q1 q1) = (0 : Int32) := (lw_eq _ _).mpr rfl
        refine own_st (T' := T51) (g' := (mkF m 161 #[.val (.long q1), .second, .val (.int p2), .val (.int p3), .val (.int p4), .val (.int p5), .val (.ref r1), .val (.int (p5 &&& (3 : Int32))), .val (.ref b46), .val (.ref o48), .val (.int (1 : Int32))] [])) (fun t k => XS.ifNo X51.here hx rfl (hb hby at_158) rfl ((if0 _ _).trans (teq hk52).2) k) ?_
        refine own_st (T' := T51) (g' := (mkF m 163 #[.val (.long q1), .second, .val (.int p2), .val (.int p3), .val (.int p4), .val (.int p5), .val (.ref r1), .val (.int (p5 &&& (3 : Int32))), .val (.ref b46), .val (.ref o48), .val (.int (1 : Int32))] [(.ref o48)])) (fun t k => XS.aload X51.here hx rfl (hb hby at_161) rfl rfl k) ?_
        obtain ⟨_, T53, L53, hQ53, X53, st53⟩ := own_callV (y := (⟨"com/example/sheaf/sheaf/engine/InstructionResult", "failure", "()Lcom/example/sheaf/sheaf/engine/Failure;"⟩ : MethodName)) (z := (⟨"com/example/sheaf/sheaf/engine/InstructionResult", "failure", "()Lcom/example/sheaf/sheaf/engine/Failure;"⟩ : MethodName)) (argsL := []) 0 [] (K := "com/example/sheaf/sheaf/engine/InstructionResult") (own_rm15 l Z a0 hw T48.heap n0 Z48 o48 r1 F_failure_o48) X51 hx hZ hown (hw _ (List.mem_of_getElem? (i := 84) rfl)) (hw _ (List.mem_of_getElem? (i := 85) rfl)) (notFace_of_selects (args := #[]) (mvT hZ (hw _ (List.mem_of_getElem? (i := 87) rfl)))) (hw _ (List.mem_of_getElem? (i := 87) rfl)) (hw _ (List.mem_of_getElem? (i := 86) rfl)) (hw _ (List.mem_of_getElem? (i := 88) rfl)) (hw _ (List.mem_of_getElem? (i := 40) rfl)) (by decide) (by decide) (by decide) (by decide) (by decide) e51 E_o48 (g := (mkF m 163 #[.val (.long q1), .second, .val (.int p2), .val (.int p3), .val (.int p4), .val (.int p5), .val (.ref r1), .val (.int (p5 &&& (3 : Int32))), .val (.ref b46), .val (.ref o48), .val (.int (1 : Int32))] [(.ref o48)])) rfl (by rw [hml]; rfl) (lenOf own_pd14 rfl) rfl (by show 2 * 0 + _ ≤ _; exact Nat.le_of_eq rfl) (hb hby at_163)
        obtain ⟨rfl, e53, rfl⟩ := hQ53
        have X53 : Stand p l e room_1 (s.setVm s.vm) m #[(.long q1), (.int p2), (.int p3), (.int p4), (.int p5)] below meth c T53 lc48 4 13 := by have := X53; rwa [List.append_nil] at this
        refine own_st (T' := T53) (g' := (mkF m 166 #[.val (.long q1), .second, .val (.int p2), .val (.int p3), .val (.int p4), .val (.int p5), .val (.ref r1), .val (.int (p5 &&& (3 : Int32))), .val (.ref b46), .val (.ref o48), .val (.int (1 : Int32))] [(.ref r1)])) st53 ?_
        refine own_st (T' := T53) (g' := (mkF m 168 #[.val (.long q1), .second, .val (.int p2), .val (.int p3), .val (.int p4), .val (.int p5), .val (.ref r1), .val (.int (p5 &&& (3 : Int32))), .val (.ref b46), .val (.ref o48), .val (.int (1 : Int32))] [(.ref r1), (.ref r1)])) (fun t k => XS.aload X53.here hx rfl (hb hby at_166) rfl rfl k) ?_
        have hk54 : r1 = r1 := rfl
        refine own_st (T' := T53) (g' := (mkF m 171 #[.val (.long q1), .second, .val (.int p2), .val (.int p3), .val (.int p4), .val (.int p5), .val (.ref r1), .val (.int (p5 &&& (3 : Int32))), .val (.ref b46), .val (.ref o48), .val (.int (1 : Int32))] [])) (fun t k => Jvm.RoadKit.acmp (g := (mkF m 168 #[.val (.long q1), .second, .val (.int p2), .val (.int p3), .val (.int p4), .val (.int p5), .val (.ref r1), .val (.int (p5 &&& (3 : Int32))), .val (.ref b46), .val (.ref o48), .val (.int (1 : Int32))] [(.ref r1), (.ref r1)])) X53 hx rfl rfl rfl (pc0 := 168) (pc' := 171) (same := true) rfl (hb hby at_168) rfl (decide_eq_true (congrArg Value.ref hk54)) (by decide) (by decide) k) ?_
        refine own_st (T' := T53) (g' := (mkF m 173 #[.val (.long q1), .second, .val (.int p2), .val (.int p3), .val (.int p4), .val (.int p5), .val (.ref r1), .val (.int (p5 &&& (3 : Int32))), .val (.ref b46), .val (.ref o48), .val (.int (1 : Int32))] [(.int (1 : Int32))])) (fun t k => XS.iload X53.here hx rfl (hb hby at_171) rfl k) ?_
        refine own_st (T' := T53) (g' := (mkF m 176 #[.val (.long q1), .second, .val (.int p2), .val (.int p3), .val (.int p4), .val (.int p5), .val (.ref r1), .val (.int (p5 &&& (3 : Int32))), .val (.ref b46), .val (.ref o48), .val (.int (1 : Int32))] [])) (fun t k => XS.ifNo X53.here hx rfl (hb hby at_173) rfl ((if0 _ _).trans (feq (by decide)).1) k) ?_
        refine own_st (T' := T53) (g' := (mkF m 178 #[.val (.long q1), .second, .val (.int p2), .val (.int p3), .val (.int p4), .val (.int p5), .val (.ref r1), .val (.int (p5 &&& (3 : Int32))), .val (.ref b46), .val (.ref o48), .val (.int (1 : Int32))] [(.ref o48)])) (fun t k => XS.aload X53.here hx rfl (hb hby at_176) rfl rfl k) ?_
        obtain ⟨_, T55, L55, hQ55, X55, st55⟩ := own_callV (y := (⟨"com/example/sheaf/sheaf/engine/InstructionResult", "order", "()Lcom/example/sheaf/sheaf/engine/OrderState;"⟩ : MethodName)) (z := (⟨"com/example/sheaf/sheaf/engine/InstructionResult", "order", "()Lcom/example/sheaf/sheaf/engine/OrderState;"⟩ : MethodName)) (argsL := []) 0 [] (K := "com/example/sheaf/sheaf/engine/InstructionResult") (own_rm16 l Z a0 hw T48.heap n0 Z48 o48 F_order_o48) X53 hx hZ hown (hw _ (List.mem_of_getElem? (i := 89) rfl)) (hw _ (List.mem_of_getElem? (i := 90) rfl)) (notFace_of_selects (args := #[]) (mvT hZ (hw _ (List.mem_of_getElem? (i := 92) rfl)))) (hw _ (List.mem_of_getElem? (i := 92) rfl)) (hw _ (List.mem_of_getElem? (i := 91) rfl)) (hw _ (List.mem_of_getElem? (i := 93) rfl)) (hw _ (List.mem_of_getElem? (i := 40) rfl)) (by decide) (by decide) (by decide) (by decide) (by decide) e53 E_o48 (g := (mkF m 178 #[.val (.long q1), .second, .val (.int p2), .val (.int p3), .val (.int p4), .val (.int p5), .val (.ref r1), .val (.int (p5 &&& (3 : Int32))), .val (.ref b46), .val (.ref o48), .val (.int (1 : Int32))] [(.ref o48)])) rfl (by rw [hml]; rfl) (lenOf own_pd15 rfl) rfl (by show 2 * 0 + _ ≤ _; exact Nat.le_of_eq rfl) (hb hby at_178)
        obtain ⟨rfl, e55, rfl⟩ := hQ55
        have X55 : Stand p l e room_1 (s.setVm s.vm) m #[(.long q1), (.int p2), (.int p3), (.int p4), (.int p5)] below meth c T55 lc48 4 13 := by have := X55; rwa [List.append_nil] at this
        refine own_st (T' := T55) (g' := (mkF m 181 #[.val (.long q1), .second, .val (.int p2), .val (.int p3), .val (.int p4), .val (.int p5), .val (.ref r1), .val (.int (p5 &&& (3 : Int32))), .val (.ref b46), .val (.ref o48), .val (.int (1 : Int32))] [.null])) st55 ?_
        refine own_st (T' := T55) (g' := (mkF m 184 #[.val (.long q1), .second, .val (.int p2), .val (.int p3), .val (.int p4), .val (.int p5), .val (.ref r1), .val (.int (p5 &&& (3 : Int32))), .val (.ref b46), .val (.ref o48), .val (.int (1 : Int32))] [])) (fun t k => XS.ifnonnullNo X55.here hx rfl (hb hby at_181) rfl k) ?_
        refine own_st (T' := T55) (g' := (mkF m 186 #[.val (.long q1), .second, .val (.int p2), .val (.int p3), .val (.int p4), .val (.int p5), .val (.ref r1), .val (.int (p5 &&& (3 : Int32))), .val (.ref b46), .val (.ref o48), .val (.int (1 : Int32))] [(.ref o48)])) (fun t k => XS.aload X55.here hx rfl (hb hby at_184) rfl rfl k) ?_
        obtain ⟨_, T56, L56, hQ56, X56, st56⟩ := own_callV (y := (⟨"com/example/sheaf/sheaf/engine/InstructionResult", "fills", "()Ljava/util/List;"⟩ : MethodName)) (z := (⟨"com/example/sheaf/sheaf/engine/InstructionResult", "fills", "()Ljava/util/List;"⟩ : MethodName)) (argsL := []) 0 [] (K := "com/example/sheaf/sheaf/engine/InstructionResult") (own_rm17 l Z a0 hw T48.heap n0 Z48 o48 s_EL F_fills_o48) X55 hx hZ hown (hw _ (List.mem_of_getElem? (i := 94) rfl)) (hw _ (List.mem_of_getElem? (i := 95) rfl)) (notFace_of_selects (args := #[]) (mvT hZ (hw _ (List.mem_of_getElem? (i := 97) rfl)))) (hw _ (List.mem_of_getElem? (i := 97) rfl)) (hw _ (List.mem_of_getElem? (i := 96) rfl)) (hw _ (List.mem_of_getElem? (i := 98) rfl)) (hw _ (List.mem_of_getElem? (i := 40) rfl)) (by decide) (by decide) (by decide) (by decide) (by decide) e55 E_o48 (g := (mkF m 186 #[.val (.long q1), .second, .val (.int p2), .val (.int p3), .val (.int p4), .val (.int p5), .val (.ref r1), .val (.int (p5 &&& (3 : Int32))), .val (.ref b46), .val (.ref o48), .val (.int (1 : Int32))] [(.ref o48)])) rfl (by rw [hml]; rfl) (lenOf own_pd8 rfl) rfl (by show 2 * 0 + _ ≤ _; exact Nat.le_of_eq rfl) (hb hby at_186)
        obtain ⟨rfl, e56, rfl⟩ := hQ56
        have X56 : Stand p l e room_1 (s.setVm s.vm) m #[(.long q1), (.int p2), (.int p3), (.int p4), (.int p5)] below meth c T56 lc48 4 13 := by have := X56; rwa [List.append_nil] at this
        refine own_st (T' := T56) (g' := (mkF m 189 #[.val (.long q1), .second, .val (.int p2), .val (.int p3), .val (.int p4), .val (.int p5), .val (.ref r1), .val (.int (p5 &&& (3 : Int32))), .val (.ref b46), .val (.ref o48), .val (.int (1 : Int32))] [(.ref s_EL)])) st56 ?_
        refine own_st (T' := T56) (g' := (mkF m 192 #[.val (.long q1), .second, .val (.int p2), .val (.int p3), .val (.int p4), .val (.int p5), .val (.ref r1), .val (.int (p5 &&& (3 : Int32))), .val (.ref b46), .val (.ref o48), .val (.int (1 : Int32))] [])) (fun t k => XS.ifnullNo X56.here hx rfl (hb hby at_189) rfl k) ?_
        refine own_st (T' := T56) (g' := (mkF m 194 #[.val (.long q1), .second, .val (.int p2), .val (.int p3), .val (.int p4), .val (.int p5), .val (.ref r1), .val (.int (p5 &&& (3 : Int32))), .val (.ref b46), .val (.ref o48), .val (.int (1 : Int32))] [(.ref o48)])) (fun t k => XS.aload X56.here hx rfl (hb hby at_192) rfl rfl k) ?_
        obtain ⟨_, T57, L57, hQ57, X57, st57⟩ := own_callV (y := (⟨"com/example/sheaf/sheaf/engine/InstructionResult", "fills", "()Ljava/util/List;"⟩ : MethodName)) (z := (⟨"com/example/sheaf/sheaf/engine/InstructionResult", "fills", "()Ljava/util/List;"⟩ : MethodName)) (argsL := []) 0 [] (K := "com/example/sheaf/sheaf/engine/InstructionResult") (own_rm17 l Z a0 hw T48.heap n0 Z48 o48 s_EL F_fills_o48) X56 hx hZ hown (hw _ (List.mem_of_getElem? (i := 94) rfl)) (hw _ (List.mem_of_getElem? (i := 95) rfl)) (notFace_of_selects (args := #[]) (mvT hZ (hw _ (List.mem_of_getElem? (i := 97) rfl)))) (hw _ (List.mem_of_getElem? (i := 97) rfl)) (hw _ (List.mem_of_getElem? (i := 96) rfl)) (hw _ (List.mem_of_getElem? (i := 98) rfl)) (hw _ (List.mem_of_getElem? (i := 40) rfl)) (by decide) (by decide) (by decide) (by decide) (by decide) e56 E_o48 (g := (mkF m 194 #[.val (.long q1), .second, .val (.int p2), .val (.int p3), .val (.int p4), .val (.int p5), .val (.ref r1), .val (.int (p5 &&& (3 : Int32))), .val (.ref b46), .val (.ref o48), .val (.int (1 : Int32))] [(.ref o48)])) rfl (by rw [hml]; rfl) (lenOf own_pd8 rfl) rfl (by show 2 * 0 + _ ≤ _; exact Nat.le_of_eq rfl) (hb hby at_194)
        obtain ⟨rfl, e57, rfl⟩ := hQ57
        have X57 : Stand p l e room_1 (s.setVm s.vm) m #[(.long q1), (.int p2), (.int p3), (.int p4), (.int p5)] below meth c T57 lc48 4 13 := by have := X57; rwa [List.append_nil] at this
        refine own_st (T' := T57) (g' := (mkF m 197 #[.val (.long q1), .second, .val (.int p2), .val (.int p3), .val (.int p4), .val (.int p5), .val (.ref r1), .val (.int (p5 &&& (3 : Int32))), .val (.ref b46), .val (.ref o48), .val (.int (1 : Int32))] [(.ref s_EL)])) st57 ?_
        obtain ⟨_, T58, L58, hQ58, X58, st58⟩ := own_callF (y := (⟨"java/util/List", "size", "()I"⟩ : MethodName)) (z := (⟨"java/util/ImmutableCollections$ListN", "size", "()I"⟩ : MethodName)) (argsL := []) 0 [] (K := "java/util/ImmutableCollections$ListN") (own_rm18 l Z a0 hw T48.heap n0 Z48 s_EL _ _ F_elements_s_EL V_s_EA) X57 hx hZ hown (hw _ (List.mem_of_getElem? (i := 99) rfl)) (hw _ (List.mem_of_getElem? (i := 100) rfl)) (mvT hZ (hw _ (List.mem_of_getElem? (i := 101) rfl))) (hw _ (List.mem_of_getElem? (i := 102) rfl)) (hw _ (List.mem_of_getElem? (i := 103) rfl)) (hw _ (List.mem_of_getElem? (i := 104) rfl)) (hw _ (List.mem_of_getElem? (i := 105) rfl)) (hw _ (List.mem_of_getElem? (i := 106) rfl)) (hw _ (List.mem_of_getElem? (i := 108) rfl)) (hw _ (List.mem_of_getElem? (i := 107) rfl)) (by decide) (by decide) (by decide) (by decide) (by decide) e57 E_s_EL (g := (mkF m 197 #[.val (.long q1), .second, .val (.int p2), .val (.int p3), .val (.int p4), .val (.int p5), .val (.ref r1), .val (.int (p5 &&& (3 : Int32))), .val (.ref b46), .val (.ref o48), .val (.int (1 : Int32))] [(.ref s_EL)])) rfl (by rw [hml]; rfl) (lenOf own_pd16 rfl) rfl (by show 2 * 0 + _ ≤ _; exact Nat.le_of_eq rfl) (hb hby at_197)
        obtain ⟨rfl, e58, rfl⟩ := hQ58
        have X58 : Stand p l e room_1 (s.setVm s.vm) m #[(.long q1), (.int p2), (.int p3), (.int p4), (.int p5)] below meth c T58 lc48 4 13 := by have := X58; rwa [List.append_nil] at this
        refine own_st (T' := T58) (g' := (mkF m 202 #[.val (.long q1), .second, .val (.int p2), .val (.int p3), .val (.int p4), .val (.int p5), .val (.ref r1), .val (.int (p5 &&& (3 : Int32))), .val (.ref b46), .val (.ref o48), .val (.int (1 : Int32))] [(.int (0 : Int32))])) st58 ?_
        refine own_st (T' := T58) (g' := (mkF m 205 #[.val (.long q1), .second, .val (.int p2), .val (.int p3), .val (.int p4), .val (.int p5), .val (.ref r1), .val (.int (p5 &&& (3 : Int32))), .val (.ref b46), .val (.ref o48), .val (.int (1 : Int32))] [])) (fun t k => XS.ifNo X58.here hx rfl (hb hby at_202) rfl ((if0 _ _).trans (teq (by decide)).2) k) ?_
        refine own_st (T' := T58) (g' := (mkF m 206 #[.val (.long q1), .second, .val (.int p2), .val (.int p3), .val (.int p4), .val (.int p5), .val (.ref r1), .val (.int (p5 &&& (3 : Int32))), .val (.ref b46), .val (.ref o48), .val (.int (1 : Int32))] [(.int (1 : Int32))])) (fun t k => XS.iconst X58.here hx rfl (hb hby at_205) k) ?_
        refine own_st (T' := T58) (g' := (mkF m 210 #[.val (.long q1), .second, .val (.int p2), .val (.int p3), .val (.int p4), .val (.int p5), .val (.ref r1), .val (.int (p5 &&& (3 : Int32))), .val (.ref b46), .val (.ref o48), .val (.int (1 : Int32))] [(.int (1 : Int32))])) (fun t k => XS.goto X58.here hx rfl (pc0 := 206) (pc' := 210) rfl (hb hby at_206) (by decide) (by decide) k) ?_
        exact own_retBW X58 hS (by rw [e58]; exact hkS) hx hlk hret (hb hby at_210) (by decide) (by decide) rfl ⟨rfl, N48⟩
set_option maxRecDepth 65536 in
set_option maxHeartbeats 40000000 in
theorem own_comes {Post : Tables → Env → Array Value → State → Outcome → State → Prop} (hpost : ∀ tb e args s v u, (limb_1_1.after args s (.returned v) u = true ∧ limb_1_2.after args s (.returned v) u = true ∧ True) → ReturnedEndW s (.returned v) u (Jvm.fieldLocs frame_1_writes args s ++ Jvm.arrayLocs frame_1_arrays args s ++ Jvm.staticLocs frame_1_statics s) 24 1152 → Post tb e args s (.returned v) u) :
    ArmFor flags0 classFile x code maxLocals ret World_1 tables_1 room_1 Calls_1 rest_1 Pre_1 Post := by
  intro l hfl _ _ p e ha hc hk s m args below hf hA hF happ hP
  obtain ⟨hcalls, hrest, hpre⟩ := hP
  obtain ⟨-, -, -, hnamed, -, -, -, hat⟩ := (Spec.applies_iff hf).mp happ
  obtain ⟨hg, hn⟩ := and_e (Cond.before_iff.mp (show (Jvm.Cond.and given_1 narrow_1).before args s = true from hpre))
  obtain ⟨hcount, hg⟩ := and_e hg
  obtain ⟨w0, w1, w2, w3, w4, rfl⟩ : ∃ w0 w1 w2 w3 w4 : Value, args = #[w0, w1, w2, w3, w4] := by
    have hs : args.size = 5 := by simpa [Cond.value, given_1] using hcount
    obtain ⟨L⟩ := args
    match L, hs with
    | [w0, w1, w2, w3, w4], _ => exact ⟨w0, w1, w2, w3, w4, rfl⟩
  have hw := fun d (hd : d ∈ tables_1) => atoms_spec (ws := Jvm.Cond.code x code maxLocals ret :: tables_1) hat d (List.mem_cons_of_mem _ hd)
  have hfit : Fit s := fun {y c} hc i hi => by
    obtain ⟨ha, rfl⟩ := Array.getElem?_eq_some_iff.mp hc
    have q := List.all_eq_true.mp ((Array.all_eq_true_iff_forall_mem.mp hF) _ (Array.getElem_mem ha)) i (List.mem_range.mpr hi)
    simpa [Array.getElem?_eq_getElem hi] using q
  obtain ⟨g0, hg⟩ := and_e hg
  obtain ⟨i0, ei0⟩ := isL_v g0
  obtain rfl : w0 = (.long i0) := Option.some.inj ei0
  obtain ⟨g1, hg⟩ := and_e hg
  obtain ⟨i1, ei1⟩ := is_v g1
  obtain rfl : w1 = (.int i1) := Option.some.inj ei1
  obtain ⟨g2, hg⟩ := and_e hg
  obtain ⟨i2, ei2⟩ := is_v g2
  obtain rfl : w2 = (.int i2) := Option.some.inj ei2
  obtain ⟨g3, hg⟩ := and_e hg
  obtain ⟨i3, ei3⟩ := is_v g3
  obtain rfl : w3 = (.int i3) := Option.some.inj ei3
  have g4 := hg
  obtain ⟨i4, ei4⟩ := is_v g4
  obtain rfl : w4 = (.int i4) := Option.some.inj ei4
  obtain ⟨n0, hn⟩ := and_e hn
  obtain ⟨n1, hn⟩ := and_e hn
  obtain ⟨n2, hn⟩ := and_e hn
  obtain ⟨n3, hn⟩ := and_e hn
  obtain ⟨n4, hn⟩ := and_e hn
  obtain ⟨n5, hn⟩ := and_e hn
  have n6 := hn
  have hrs := Cond.before_iff.mp (show rest_1_c.before _ s = true from hrest)
  obtain ⟨j0, hrs⟩ := and_e hrs
  obtain ⟨j1, hrs⟩ := and_e hrs
  obtain ⟨j2, hrs⟩ := and_e hrs
  obtain ⟨j3, hrs⟩ := and_e hrs
  obtain ⟨j4, hrs⟩ := and_e hrs
  obtain ⟨j5, hrs⟩ := and_e hrs
  obtain ⟨j6, hrs⟩ := and_e hrs
  obtain ⟨j7, hrs⟩ := and_e hrs
  obtain ⟨j8, hrs⟩ := and_e hrs
  obtain ⟨j9, hrs⟩ := and_e hrs
  obtain ⟨j10, hrs⟩ := and_e hrs
  obtain ⟨j11, hrs⟩ := and_e hrs
  obtain ⟨j12, hrs⟩ := and_e hrs
  obtain ⟨j13, hrs⟩ := and_e hrs
  obtain ⟨j14, hrs⟩ := and_e hrs
  obtain ⟨j15, hrs⟩ := and_e hrs
  obtain ⟨zc, ezc⟩ := is_v j1
  have S_CS : Sta s s.heap "java/lang/String" "COMPACT_STRINGS" "Z" (.int zc) := Sta.start ezc (Or.inl (Cond.before_iff.mpr j0))
  have hzc : ¬ zc = 0 := fun q => by
    subst q
    simp [Jvm.Cond.value, ezc, Term.int_eval] at j2
  obtain ⟨s_UnknownSymbol, v_UnknownSymbol, S_UnknownSymbol, E_UnknownSymbol⟩ := own_sta n0 (hw _ (List.mem_of_getElem? (i := 6) rfl)) (hw _ (List.mem_of_getElem? (i := 7) rfl))
  obtain ⟨s_PriorFailure, v_PriorFailure, S_PriorFailure, E_PriorFailure⟩ := own_sta n1 (hw _ (List.mem_of_getElem? (i := 6) rfl)) (hw _ (List.mem_of_getElem? (i := 112) rfl))
  obtain ⟨s_OrderClosed, v_OrderClosed, S_OrderClosed, E_OrderClosed⟩ := own_sta n2 (hw _ (List.mem_of_getElem? (i := 6) rfl)) (hw _ (List.mem_of_getElem? (i := 128) rfl))
  obtain ⟨s_InvalidField, v_InvalidField, S_InvalidField, E_InvalidField⟩ := own_sta n3 (hw _ (List.mem_of_getElem? (i := 6) rfl)) (hw _ (List.mem_of_getElem? (i := 133) rfl))
  obtain ⟨s_UnknownOrder, v_UnknownOrder, S_UnknownOrder, E_UnknownOrder⟩ := own_sta n4 (hw _ (List.mem_of_getElem? (i := 6) rfl)) (hw _ (List.mem_of_getElem? (i := 135) rfl))
  obtain ⟨s_None, v_None, S_None, E_None⟩ := own_sta n5 (hw _ (List.mem_of_getElem? (i := 6) rfl)) (hw _ (List.mem_of_getElem? (i := 137) rfl))
  obtain ⟨s_DuplicateClOrdID, v_DuplicateClOrdID, S_DuplicateClOrdID, E_DuplicateClOrdID⟩ := own_sta n6 (hw _ (List.mem_of_getElem? (i := 6) rfl)) (hw _ (List.mem_of_getElem? (i := 139) rfl))
  obtain ⟨s_EL, v_EL, S_EL, E_s_EL⟩ := own_sta j11 (hw _ (List.mem_of_getElem? (i := 49) rfl)) (Cond.before_iff.mpr j9)
  obtain ⟨s_EA, _, _, _, e_EA, -⟩ := Cond.exactly_spec (Cond.before_iff.mpr j13)
  have F_elements_s_EL := own_fldR v_EL e_EA
  obtain ⟨cc, Ac⟩ := Arr.start e_EA j12
  obtain ⟨q1, q2⟩ := Jvm.Free.IntBox.length_fwd (Cond.before_iff.mpr j14) e_EA Ac.1 Ac.2.1 Ac.2.2
  obtain ⟨k_EA, V_s_EA⟩ : ∃ k, Arv s s.heap s_EA k (.object "java/lang/Object") 0 [] .null := ⟨_, Arv.start hfit Ac q1 q2 (by decide) rfl trivial⟩
  have hCH : CHv s consts_1 s.vm s.heap := CHv.start (own_EL hw) (fun q hq => hcalls.1 q hq) (Cond.before_iff.mpr j2) (hw _ (List.mem_of_getElem? (i := 27) rfl)) (hw _ (List.mem_of_getElem? (i := 10) rfl))
  obtain ⟨n, o, h1, h2, h3, _, L, rfl, ⟨rfl, N⟩, hq⟩ := own_rm0 l s _ hw s.heap     s.heap.size (Nat.le_refl _) i0 i1 i2 i3 i4 (Old.start s) s_UnknownSymbol S_UnknownSymbol s_PriorFailure S_PriorFailure s_OrderClosed S_OrderClosed s_InvalidField S_InvalidField s_UnknownOrder S_UnknownOrder s_None S_None s_DuplicateClOrdID S_DuplicateClOrdID zc hzc S_CS s_EL S_EL E_s_EL k_EA s_EA F_elements_s_EL V_s_EA p e ha hc hk s m _ below hf ((Spec.applies_iff_loose hf).mp happ).1 ⟨rfl, State.Warmed39.refl s, rfl, hCH⟩ trivial
  exact ⟨n, _, h1, h2, h3, hpost _ _ _ _ _ _ ⟨Cond.after_iff.mpr rfl, Cond.after_iff.mpr (eq_i res_at (Term.int_eval (1)) rfl), trivial⟩ ⟨hq.1, hq.2.1, hq.2.2.1, (hq.2.2.2.sift fun y hy => Or.inr (N y hy)).mono (by decide) (by decide)⟩⟩
theorem main_1_1 : Claimed_1_1 := own_comes fun _ _ _ _ _ _ h hF => ⟨h.1, hF⟩
theorem main_1_2 : Claimed_1_2 := own_comes fun _ _ _ _ _ _ h hF => ⟨h.2.1, hF⟩
end Jvm.Pilot.@@N@@
namespace Jvm.Pilot.@@N@@
open Jvm Jvm.ClassFile Sem Op Lib Jvm.Free Jvm.Stand Jvm.Pilot.@@N@@.Jvm.D
/-! MADE BY PROGRAM (witnessworld.py) out of the Statement's table words and the real class files: 34 classes; the members and pool entries that the words name. The judged class is class 1, her method 2. -/
namespace start1
open Jvm.ClassFile
def u (s : String) : CpInfo := .utf8 (stringToUtf16 s)
/-- a pool by its gaps: so many unusable entries, then the entry; so many at the end -/
def gap : Nat → List CpInfo → List CpInfo
  | 0, r => r
  | n + 1, r => .unusable :: gap n r
def poolList (es : List (Nat × CpInfo)) (last : Nat) : List CpInfo := es.foldr (fun e r => gap e.1 (e.2 :: r)) (gap last [])
def pool (es : List (Nat × CpInfo)) (last : Nat) : Array CpInfo := ⟨poolList es last⟩
def fileOf (pool : Array CpInfo) (this : Nat) (attrs : Array Attribute := #[]) (ms : Array MethodInfo := #[]) (fl : Nat := 33) (sup : Nat := 0) (ifs : Array Nat := #[]) (fds : Array FieldInfo := #[]) : ClassFile where
  minorVersion := 0
  majorVersion := 65
  constantPool := pool
  accessFlags := fl
  thisClass := this
  superClass := sup
  interfaces := ifs
  fields := fds
  methods := ms
  attributes := attrs
def plain (name : String) (sup : Option ClassId) : Class where
  name := name
  kind := .ordinary
  loader := none
  accessFlags := 33
  super := sup
  interfaces := #[]
  cf := none
  fields := #[]
  methods := #[]
  instanceTypes := #[]
  staticTypes := #[]
  resolved := #[]
  callSites := []
  init := .initialized
  statics := none
  mirror := none

def pool0 : Array CpInfo := pool [(5, u "<init>"), (0, u "()V"), (1, .class_ 10), (1, u "java/lang/Object")] 113

def k0c0 : Code := { maxStack := 0, maxLocals := 1, code := object_method_1_code, exceptionTable := #[], attributes := #[] }
def k0m0 : Method := { name := "<init>", desc := "()V", sig := { parameters := [], returnType := none }, accessFlags := 1, code := some k0c0 }
/-- java/lang/Object -/
def k0 : Class := { plain "java/lang/Object" none with
  accessFlags := 33
  interfaces := #[]
  cf := some (fileOf pool0 8 #[] #[{ accessFlags := 1, nameIndex := 5, descriptorIndex := 6, attributes := #[] }] 33 0 #[] #[])
  fields := #[]
  methods := #[k0m0]
  instanceTypes := #[]
  staticTypes := #[]
  resolved := Array.replicate 124 none
  statics := none }

def pool1 : Array CpInfo := pool [(2, .class_ 4), (1, u "java/lang/Object"), (0, u "<init>"), (0, u "()V"), (0, .integer 2147483647), (0, .fieldref 9 10), (0, .class_ 11), (0, .nameAndType 12 13), (0, u "com/example/sheaf/sheaf/engine/Failure"), (0, u "None"), (0, u "Lcom/example/sheaf/sheaf/engine/Failure;"), (0, .fieldref 9 15), (0, .nameAndType 16 13), (0, u "PriorFailure"), (0, .fieldref 9 18), (0, .nameAndType 19 13), (0, u "UnknownSymbol"), (0, .fieldref 9 21), (0, .nameAndType 22 13), (0, u "InvalidField"), (0, .fieldref 9 24), (0, .nameAndType 25 13), (0, u "DuplicateClOrdID"), (0, .fieldref 9 27), (0, .nameAndType 28 13), (0, u "UnknownOrder"), (0, .fieldref 9 30), (0, .nameAndType 31 13), (0, u "OrderClosed"), (0, .methodref 33 34), (0, .class_ 35), (0, .nameAndType 36 37), (0, u "com/example/sheaf/sheaf/engine/InstructionResultFailedPinLaw"), (0, u "pick"), (0, u "(I)Lcom/example/sheaf/sheaf/engine/Failure;"), (0, .class_ 39), (0, u "java/lang/String"), (0, .methodref 38 41), (0, .nameAndType 5 42), (0, u "([C)V"), (0, .methodref 38 44), (0, .nameAndType 45 46), (0, u "valueOf"), (0, u "(C)Ljava/lang/String;"), (0, .methodref 48 49), (0, .class_ 50), (0, .nameAndType 51 52), (0, u "com/example/sheaf/sheaf/engine/InstructionResult"), (0, u "failed"), (0, u "(JLcom/example/sheaf/sheaf/engine/Failure;Ljava/lang/String;)Lcom/example/sheaf/sheaf/engine/InstructionResult;"), (0, .methodref 48 54), (0, .nameAndType 55 56), (0, u "text"), (0, u "()Ljava/lang/String;"), (0, .methodref 38 58), (0, .nameAndType 59 60), (0, u "equals"), (0, u "(Ljava/lang/Object;)Z"), (0, .methodref 48 62), (0, .nameAndType 63 64), (0, u "seq"), (0, u "()J"), (0, .methodref 48 66), (0, .nameAndType 67 68), (0, u "failure"), (0, u "()Lcom/example/sheaf/sheaf/engine/Failure;"), (0, .methodref 48 70), (0, .nameAndType 71 72), (0, u "order"), (0, u "()Lcom/example/sheaf/sheaf/engine/OrderState;"), (0, .methodref 48 74), (0, .nameAndType 75 76), (0, u "fills"), (0, u "()Ljava/util/List;"), (0, .interfaceMethodref 78 79), (0, .class_ 80), (0, .nameAndType 81 82), (0, u "java/util/List"), (0, u "size"), (0, u "()I"), (3, u "law"), (0, u "(JIIII)Z")] 2

def k1m0 : Method := { name := "<init>", desc := "()V", sig := { parameters := [], returnType := none }, accessFlags := 1, code := none }
def k1c1 : Code := { maxStack := 2, maxLocals := 2, code := method_2_code, exceptionTable := #[], attributes := #[] }
def k1m1 : Method := { name := "pick", desc := "(I)Lcom/example/sheaf/sheaf/engine/Failure;", sig := { parameters := [.int], returnType := some (.object "com/example/sheaf/sheaf/engine/Failure") }, accessFlags := 10, code := some k1c1 }
def k1c2 : Code := { maxStack := 4, maxLocals := 11, code := code, exceptionTable := #[], attributes := #[] }
def k1m2 : Method := { name := "law", desc := "(JIIII)Z", sig := { parameters := [.long, .int, .int, .int, .int], returnType := some .boolean }, accessFlags := 9, code := some k1c2 }
/-- com/example/sheaf/sheaf/engine/InstructionResultFailedPinLaw -/
def k1 : Class := { plain "com/example/sheaf/sheaf/engine/InstructionResultFailedPinLaw" (some 0) with
  accessFlags := 49
  interfaces := #[]
  cf := some (fileOf pool1 33 #[] #[{ accessFlags := 1, nameIndex := 5, descriptorIndex := 6, attributes := #[] }, { accessFlags := 10, nameIndex := 36, descriptorIndex := 37, attributes := #[] }, { accessFlags := 9, nameIndex := 86, descriptorIndex := 87, attributes := #[] }] 49 2 #[] #[])
  fields := #[]
  methods := #[k1m0, k1m1, k1m2]
  instanceTypes := #[]
  staticTypes := #[]
  resolved := Array.replicate 90 none
  statics := none }

def pool2 : Array CpInfo := pool [(1, .class_ 2), (0, u "java/lang/constant/Constable"), (0, .class_ 4), (0, u "java/lang/Object")] 6

/-- java/lang/constant/Constable -/
def k2 : Class := { plain "java/lang/constant/Constable" (some 0) with
  accessFlags := 1537
  interfaces := #[]
  cf := some (fileOf pool2 1 #[] #[] 1537 3 #[] #[])
  fields := #[]
  methods := #[]
  instanceTypes := #[]
  staticTypes := #[]
  resolved := Array.replicate 11 none
  statics := none }

def pool3 : Array CpInfo := pool [(1, .class_ 2), (0, u "java/lang/Comparable"), (0, .class_ 4), (0, u "java/lang/Object")] 7

/-- java/lang/Comparable -/
def k3 : Class := { plain "java/lang/Comparable" (some 0) with
  accessFlags := 1537
  interfaces := #[]
  cf := some (fileOf pool3 1 #[] #[] 1537 3 #[] #[])
  fields := #[]
  methods := #[]
  instanceTypes := #[]
  staticTypes := #[]
  resolved := Array.replicate 12 none
  statics := none }

def pool4 : Array CpInfo := pool [(1, .class_ 2), (0, u "java/io/Serializable"), (0, .class_ 4), (0, u "java/lang/Object")] 2

/-- java/io/Serializable -/
def k4 : Class := { plain "java/io/Serializable" (some 0) with
  accessFlags := 1537
  interfaces := #[]
  cf := some (fileOf pool4 1 #[] #[] 1537 3 #[] #[])
  fields := #[]
  methods := #[]
  instanceTypes := #[]
  staticTypes := #[]
  resolved := Array.replicate 7 none
  statics := none }

def pool5 : Array CpInfo := pool [(2, .class_ 4), (1, u "java/lang/Enum"), (0, u "name"), (0, u "Ljava/lang/String;"), (2, u "ordinal"), (0, u "I"), (1, .class_ 14), (1, u "java/lang/Object"), (4, u "hash"), (86, .class_ 108), (1, u "java/lang/Enum$EnumDesc"), (2, .class_ 112), (0, u "java/lang/constant/Constable"), (0, .class_ 114), (0, u "java/lang/Comparable"), (0, .class_ 116), (0, u "java/io/Serializable")] 87

/-- java/lang/Enum -/
def k5 : Class := { plain "java/lang/Enum" (some 0) with
  accessFlags := 1057
  interfaces := #[2, 3, 4]
  cf := some (fileOf pool5 2 #[.nestMembers #[106]] #[] 1057 12 #[111, 113, 115] #[{ accessFlags := 18, nameIndex := 5, descriptorIndex := 6, attributes := #[] }, { accessFlags := 18, nameIndex := 9, descriptorIndex := 10, attributes := #[] }, { accessFlags := 2, nameIndex := 19, descriptorIndex := 10, attributes := #[] }])
  fields := #[{ name := "name", type := (.object "java/lang/String"), accessFlags := 18, slot := 0, constantValue := 0 }, { name := "ordinal", type := .int, accessFlags := 18, slot := 1, constantValue := 0 }, { name := "hash", type := .int, accessFlags := 2, slot := 2, constantValue := 0 }]
  methods := #[]
  instanceTypes := #[(.object "java/lang/String"), .int, .int]
  staticTypes := #[]
  resolved := Array.replicate 204 none
  statics := none }

def pool6 : Array CpInfo := pool [(1, .class_ 2), (0, u "com/example/sheaf/sheaf/engine/Failure"), (2, u "None"), (0, u "Lcom/example/sheaf/sheaf/engine/Failure;"), (2, u "PriorFailure"), (2, u "UnknownSymbol"), (2, u "InvalidField"), (2, u "DuplicateClOrdID"), (2, u "UnknownOrder"), (2, u "OrderClosed"), (2, u "$VALUES"), (0, u "[Lcom/example/sheaf/sheaf/engine/Failure;"), (6, .class_ 37), (1, u "java/lang/Enum")] 29

/-- com/example/sheaf/sheaf/engine/Failure -/
def k6 : Class := { plain "com/example/sheaf/sheaf/engine/Failure" (some 5) with
  accessFlags := 16433
  interfaces := #[]
  cf := some (fileOf pool6 1 #[] #[] 16433 35 #[] #[{ accessFlags := 16409, nameIndex := 5, descriptorIndex := 6, attributes := #[] }, { accessFlags := 16409, nameIndex := 9, descriptorIndex := 6, attributes := #[] }, { accessFlags := 16409, nameIndex := 12, descriptorIndex := 6, attributes := #[] }, { accessFlags := 16409, nameIndex := 15, descriptorIndex := 6, attributes := #[] }, { accessFlags := 16409, nameIndex := 18, descriptorIndex := 6, attributes := #[] }, { accessFlags := 16409, nameIndex := 21, descriptorIndex := 6, attributes := #[] }, { accessFlags := 16409, nameIndex := 24, descriptorIndex := 6, attributes := #[] }, { accessFlags := 4122, nameIndex := 27, descriptorIndex := 28, attributes := #[] }])
  fields := #[{ name := "None", type := (.object "com/example/sheaf/sheaf/engine/Failure"), accessFlags := 16409, slot := 0, constantValue := 0 }, { name := "PriorFailure", type := (.object "com/example/sheaf/sheaf/engine/Failure"), accessFlags := 16409, slot := 1, constantValue := 0 }, { name := "UnknownSymbol", type := (.object "com/example/sheaf/sheaf/engine/Failure"), accessFlags := 16409, slot := 2, constantValue := 0 }, { name := "InvalidField", type := (.object "com/example/sheaf/sheaf/engine/Failure"), accessFlags := 16409, slot := 3, constantValue := 0 }, { name := "DuplicateClOrdID", type := (.object "com/example/sheaf/sheaf/engine/Failure"), accessFlags := 16409, slot := 4, constantValue := 0 }, { name := "UnknownOrder", type := (.object "com/example/sheaf/sheaf/engine/Failure"), accessFlags := 16409, slot := 5, constantValue := 0 }, { name := "OrderClosed", type := (.object "com/example/sheaf/sheaf/engine/Failure"), accessFlags := 16409, slot := 6, constantValue := 0 }, { name := "$VALUES", type := (.array (.object "com/example/sheaf/sheaf/engine/Failure")), accessFlags := 4122, slot := 7, constantValue := 0 }]
  methods := #[]
  instanceTypes := #[(.object "java/lang/String"), .int, .int]
  staticTypes := #[(.object "com/example/sheaf/sheaf/engine/Failure"), (.object "com/example/sheaf/sheaf/engine/Failure"), (.object "com/example/sheaf/sheaf/engine/Failure"), (.object "com/example/sheaf/sheaf/engine/Failure"), (.object "com/example/sheaf/sheaf/engine/Failure"), (.object "com/example/sheaf/sheaf/engine/Failure"), (.object "com/example/sheaf/sheaf/engine/Failure"), (.array (.object "com/example/sheaf/sheaf/engine/Failure"))]
  resolved := Array.replicate 67 none
  statics := some 0 }

def pool7 : Array CpInfo := pool [(2, .class_ 4), (1, u "java/lang/CharSequence"), (42, .class_ 48), (0, u "java/lang/CharSequence$1CodePointIterator"), (10, .class_ 60), (0, u "java/lang/CharSequence$1CharIterator"), (5, .class_ 67), (0, u "java/lang/Object")] 63

/-- java/lang/CharSequence -/
def k7 : Class := { plain "java/lang/CharSequence" (some 0) with
  accessFlags := 1537
  interfaces := #[]
  cf := some (fileOf pool7 2 #[.nestMembers #[47, 59]] #[] 1537 66 #[] #[])
  fields := #[]
  methods := #[]
  instanceTypes := #[]
  staticTypes := #[]
  resolved := Array.replicate 131 none
  statics := none }

def pool8 : Array CpInfo := pool [(1, .class_ 2), (0, u "java/lang/constant/ConstantDesc"), (0, .class_ 4), (0, u "java/lang/Object")] 32

/-- java/lang/constant/ConstantDesc -/
def k8 : Class := { plain "java/lang/constant/ConstantDesc" (some 0) with
  accessFlags := 1537
  interfaces := #[]
  cf := some (fileOf pool8 1 #[] #[] 1537 3 #[] #[])
  fields := #[]
  methods := #[]
  instanceTypes := #[]
  staticTypes := #[]
  resolved := Array.replicate 37 none
  statics := none }

def pool9 : Array CpInfo := pool [(1, .methodref 2 3), (0, .class_ 4), (0, .nameAndType 5 6), (0, u "java/lang/Object"), (0, u "<init>"), (0, u "()V"), (0, .string 8), (0, u ""), (0, .fieldref 10 11), (0, .class_ 12), (0, .nameAndType 13 14), (0, u "java/lang/String"), (0, u "value"), (0, u "[B"), (0, .fieldref 10 16), (0, .nameAndType 17 18), (0, u "coder"), (0, u "B"), (2, u "hash"), (0, u "I"), (2, u "hashIsZero"), (0, u "Z"), (0, .methodref 10 28), (0, .nameAndType 5 29), (0, u "([CIILjava/lang/Void;)V"), (8, .fieldref 10 39), (0, .nameAndType 40 26), (0, u "COMPACT_STRINGS"), (1, .class_ 44), (1, u "java/lang/StringUTF16"), (0, u "compress"), (1, .methodref 42 48), (0, .nameAndType 49 50), (0, u "coderFromArrayLen"), (0, u "([BI)B"), (2, u "toBytes"), (53, .class_ 109), (1, u "java/lang/StringLatin1"), (67, .methodref 42 178), (0, .nameAndType 45 179), (0, u "([CII)[B"), (29, .methodref 10 210), (0, .nameAndType 5 211), (0, u "([BB)V"), (157, u "(C)Z"), (173, u "equals"), (29, u "(Ljava/lang/Object;)Z"), (1, .class_ 576), (0, u "java/lang/CharSequence"), (22, u "CASE_INSENSITIVE_ORDER"), (0, u "Ljava/util/Comparator;"), (181, u "valueOf"), (0, u "(C)Ljava/lang/String;"), (226, u "([C)V"), (4, .methodref 107 1016), (0, .nameAndType 1017 369), (0, u "canEncode"), (0, .methodref 107 1019), (0, .nameAndType 53 1020), (0, u "(C)[B"), (80, u "serialPersistentFields"), (0, u "[Ljava/io/ObjectStreamField;"), (0, .class_ 1104), (0, u "java/lang/String$CaseInsensitiveComparator"), (1, .class_ 1107), (0, u "java/io/Serializable"), (0, .class_ 1109), (0, u "java/lang/Comparable"), (0, .class_ 1111), (0, u "java/lang/constant/Constable"), (0, .class_ 1113), (0, u "java/lang/constant/ConstantDesc"), (2, u "serialVersionUID"), (0, u "J"), (3, u "REPL"), (0, u "C"), (2, u "LATIN1"), (1, u "UTF16")] 323

def k9m0 : Method := { name := "<init>", desc := "()V", sig := { parameters := [], returnType := none }, accessFlags := 1, code := none }
def k9c1 : Code := { maxStack := 5, maxLocals := 2, code := jdk_42_method_3_code, exceptionTable := #[], attributes := #[] }
def k9m1 : Method := { name := "<init>", desc := "([C)V", sig := { parameters := [(.array .char)], returnType := none }, accessFlags := 1, code := some k9c1 }
def k9c2 : Code := { maxStack := 2, maxLocals := 3, code := jdk_42_method_66_code, exceptionTable := #[], attributes := #[] }
def k9m2 : Method := { name := "equals", desc := "(Ljava/lang/Object;)Z", sig := { parameters := [(.object "java/lang/Object")], returnType := some .boolean }, accessFlags := 1, code := some k9c2 }
def k9c3 : Code := { maxStack := 4, maxLocals := 1, code := jdk_42_method_139_code, exceptionTable := #[], attributes := #[] }
def k9m3 : Method := { name := "valueOf", desc := "(C)Ljava/lang/String;", sig := { parameters := [.char], returnType := some (.object "java/lang/String") }, accessFlags := 9, code := some k9c3 }
def k9c4 : Code := { maxStack := 4, maxLocals := 6, code := jdk_42_method_149_code, exceptionTable := #[], attributes := #[] }
def k9m4 : Method := { name := "<init>", desc := "([CIILjava/lang/Void;)V", sig := { parameters := [(.array .char), .int, .int, (.object "java/lang/Void")], returnType := none }, accessFlags := 2, code := some k9c4 }
def k9c5 : Code := { maxStack := 2, maxLocals := 3, code := jdk_42_method_151_code, exceptionTable := #[], attributes := #[] }
def k9m5 : Method := { name := "<init>", desc := "([BB)V", sig := { parameters := [(.array .byte), .byte], returnType := none }, accessFlags := 0, code := some k9c5 }
/-- java/lang/String -/
def k9 : Class := { plain "java/lang/String" (some 0) with
  accessFlags := 49
  interfaces := #[4, 3, 7, 2, 8]
  cf := some (fileOf pool9 10 #[.nestMembers #[1103]] #[{ accessFlags := 1, nameIndex := 5, descriptorIndex := 6, attributes := #[] }, { accessFlags := 1, nameIndex := 5, descriptorIndex := 1010, attributes := #[] }, { accessFlags := 1, nameIndex := 543, descriptorIndex := 573, attributes := #[] }, { accessFlags := 9, nameIndex := 782, descriptorIndex := 783, attributes := #[] }, { accessFlags := 2, nameIndex := 5, descriptorIndex := 29, attributes := #[] }, { accessFlags := 0, nameIndex := 5, descriptorIndex := 211, attributes := #[] }] 49 2 #[1106, 1108, 575, 1110, 1112] #[{ accessFlags := 18, nameIndex := 13, descriptorIndex := 14, attributes := #[] }, { accessFlags := 18, nameIndex := 17, descriptorIndex := 18, attributes := #[] }, { accessFlags := 2, nameIndex := 21, descriptorIndex := 22, attributes := #[] }, { accessFlags := 2, nameIndex := 25, descriptorIndex := 26, attributes := #[] }, { accessFlags := 26, nameIndex := 1116, descriptorIndex := 1117, attributes := #[] }, { accessFlags := 24, nameIndex := 40, descriptorIndex := 26, attributes := #[] }, { accessFlags := 26, nameIndex := 1101, descriptorIndex := 1102, attributes := #[] }, { accessFlags := 26, nameIndex := 1121, descriptorIndex := 1122, attributes := #[] }, { accessFlags := 25, nameIndex := 599, descriptorIndex := 600, attributes := #[] }, { accessFlags := 24, nameIndex := 1125, descriptorIndex := 18, attributes := #[] }, { accessFlags := 24, nameIndex := 1127, descriptorIndex := 18, attributes := #[] }])
  fields := #[{ name := "value", type := (.array .byte), accessFlags := 18, slot := 0, constantValue := 0 }, { name := "coder", type := .byte, accessFlags := 18, slot := 1, constantValue := 0 }, { name := "hash", type := .int, accessFlags := 2, slot := 2, constantValue := 0 }, { name := "hashIsZero", type := .boolean, accessFlags := 2, slot := 3, constantValue := 0 }, { name := "serialVersionUID", type := .long, accessFlags := 26, slot := 0, constantValue := 0 }, { name := "COMPACT_STRINGS", type := .boolean, accessFlags := 24, slot := 1, constantValue := 0 }, { name := "serialPersistentFields", type := (.array (.object "java/io/ObjectStreamField")), accessFlags := 26, slot := 2, constantValue := 0 }, { name := "REPL", type := .char, accessFlags := 26, slot := 3, constantValue := 0 }, { name := "CASE_INSENSITIVE_ORDER", type := (.object "java/util/Comparator"), accessFlags := 25, slot := 4, constantValue := 0 }, { name := "LATIN1", type := .byte, accessFlags := 24, slot := 5, constantValue := 0 }, { name := "UTF16", type := .byte, accessFlags := 24, slot := 6, constantValue := 0 }]
  methods := #[k9m0, k9m1, k9m2, k9m3, k9m4, k9m5]
  instanceTypes := #[(.array .byte), .byte, .int, .boolean]
  staticTypes := #[.long, .boolean, (.array (.object "java/io/ObjectStreamField")), .char, (.object "java/util/Comparator"), .byte, .byte]
  resolved := Array.replicate 1451 none
  statics := some 1 }

def pool10 : Array CpInfo := pool [(6, .class_ 8), (1, u "java/lang/Object"), (0, u "<init>"), (0, u "()V"), (1, .class_ 14), (1, u "java/lang/StringUTF16"), (31, u "$assertionsDisabled"), (0, u "Z"), (13, u "HI_BYTE_SHIFT"), (0, u "I"), (2, u "LO_BYTE_SHIFT"), (49, .methodref 12 116), (0, .nameAndType 117 118), (0, u "compress"), (0, u "([CI[BII)I"), (3, u "([CII)[B"), (138, u "coderFromArrayLen"), (0, u "([BI)B"), (106, .class_ 371), (1, u "java/lang/StringUTF16$LinesSpliterator"), (58, u "MAX_LENGTH"), (196, .class_ 628), (0, u "java/lang/StringUTF16$CodePointsSpliterator"), (0, .class_ 630), (0, u "java/lang/StringUTF16$CharsSpliterator")] 4

def k10m0 : Method := { name := "<init>", desc := "()V", sig := { parameters := [], returnType := none }, accessFlags := 0, code := none }
def k10c1 : Code := { maxStack := 2, maxLocals := 2, code := jdk_52_method_15_code, exceptionTable := #[], attributes := #[] }
def k10m1 : Method := { name := "coderFromArrayLen", desc := "([BI)B", sig := { parameters := [(.array .byte), .int], returnType := some .byte }, accessFlags := 8, code := some k10c1 }
def k10c2 : Code := { maxStack := 5, maxLocals := 6, code := jdk_52_method_16_code, exceptionTable := #[], attributes := #[] }
def k10m2 : Method := { name := "compress", desc := "([CII)[B", sig := { parameters := [(.array .char), .int, .int], returnType := some (.array .byte) }, accessFlags := 9, code := some k10c2 }
def k10c3 : Code := { maxStack := 3, maxLocals := 7, code := jdk_52_method_21_code, exceptionTable := #[], attributes := #[] }
def k10m3 : Method := { name := "compress", desc := "([CI[BII)I", sig := { parameters := [(.array .char), .int, (.array .byte), .int, .int], returnType := some .int }, accessFlags := 9, code := some k10c3 }
/-- java/lang/StringUTF16 -/
def k10 : Class := { plain "java/lang/StringUTF16" (some 0) with
  accessFlags := 48
  interfaces := #[]
  cf := some (fileOf pool10 12 #[.nestMembers #[627, 629, 369]] #[{ accessFlags := 0, nameIndex := 9, descriptorIndex := 10, attributes := #[] }, { accessFlags := 8, nameIndex := 261, descriptorIndex := 262, attributes := #[] }, { accessFlags := 9, nameIndex := 117, descriptorIndex := 122, attributes := #[] }, { accessFlags := 9, nameIndex := 117, descriptorIndex := 118, attributes := #[] }] 48 6 #[] #[{ accessFlags := 26, nameIndex := 61, descriptorIndex := 62, attributes := #[] }, { accessFlags := 26, nameIndex := 65, descriptorIndex := 62, attributes := #[] }, { accessFlags := 24, nameIndex := 430, descriptorIndex := 62, attributes := #[] }, { accessFlags := 4120, nameIndex := 46, descriptorIndex := 47, attributes := #[] }])
  fields := #[{ name := "HI_BYTE_SHIFT", type := .int, accessFlags := 26, slot := 0, constantValue := 0 }, { name := "LO_BYTE_SHIFT", type := .int, accessFlags := 26, slot := 1, constantValue := 0 }, { name := "MAX_LENGTH", type := .int, accessFlags := 24, slot := 2, constantValue := 0 }, { name := "$assertionsDisabled", type := .boolean, accessFlags := 4120, slot := 3, constantValue := 0 }]
  methods := #[k10m0, k10m1, k10m2, k10m3]
  instanceTypes := #[]
  staticTypes := #[.int, .int, .int, .boolean]
  resolved := Array.replicate 635 none
  statics := none }

def pool11 : Array CpInfo := pool [(1, .methodref 2 3), (0, .class_ 4), (0, .nameAndType 5 6), (0, u "java/lang/Object"), (0, u "<init>"), (0, u "()V"), (0, .class_ 8), (0, u "java/lang/Record")] 13

def k11c0 : Code := { maxStack := 1, maxLocals := 1, code := jdk_30_method_1_code, exceptionTable := #[], attributes := #[] }
def k11m0 : Method := { name := "<init>", desc := "()V", sig := { parameters := [], returnType := none }, accessFlags := 4, code := some k11c0 }
/-- java/lang/Record -/
def k11 : Class := { plain "java/lang/Record" (some 0) with
  accessFlags := 1057
  interfaces := #[]
  cf := some (fileOf pool11 7 #[] #[{ accessFlags := 4, nameIndex := 5, descriptorIndex := 6, attributes := #[] }] 1057 2 #[] #[])
  fields := #[]
  methods := #[k11m0]
  instanceTypes := #[]
  staticTypes := #[]
  resolved := Array.replicate 22 none
  statics := none }

def pool12 : Array CpInfo := pool [(1, .methodref 2 3), (0, .class_ 4), (0, .nameAndType 5 6), (0, u "java/lang/Record"), (0, u "<init>"), (0, u "()V"), (0, .fieldref 8 9), (0, .class_ 10), (0, .nameAndType 11 12), (0, u "com/example/sheaf/sheaf/engine/InstructionResult"), (0, u "seq"), (0, u "J"), (0, .fieldref 8 14), (0, .nameAndType 15 16), (0, u "failure"), (0, u "Lcom/example/sheaf/sheaf/engine/Failure;"), (0, .fieldref 8 18), (0, .nameAndType 19 20), (0, u "text"), (0, u "Ljava/lang/String;"), (0, .fieldref 8 22), (0, .nameAndType 23 24), (0, u "order"), (0, u "Lcom/example/sheaf/sheaf/engine/OrderState;"), (0, .fieldref 8 26), (0, .nameAndType 27 28), (0, u "fills"), (0, u "Ljava/util/List;"), (0, .interfaceMethodref 30 31), (0, .class_ 32), (0, .nameAndType 33 34), (0, u "java/util/List"), (0, u "of"), (0, u "()Ljava/util/List;"), (0, .methodref 8 36), (0, .nameAndType 5 37), (0, u "(JLcom/example/sheaf/sheaf/engine/Failure;Ljava/lang/String;Lcom/example/sheaf/sheaf/engine/OrderState;Ljava/util/List;)V"), (18, u "failed"), (0, u "(JLcom/example/sheaf/sheaf/engine/Failure;Ljava/lang/String;)Lcom/example/sheaf/sheaf/engine/InstructionResult;"), (0, u "()Ljava/lang/String;"), (2, u "()J"), (0, u "()Lcom/example/sheaf/sheaf/engine/Failure;"), (0, u "()Lcom/example/sheaf/sheaf/engine/OrderState;")] 25

def k12c0 : Code := { maxStack := 3, maxLocals := 7, code := prog_19_method_1_code, exceptionTable := #[], attributes := #[] }
def k12m0 : Method := { name := "<init>", desc := "(JLcom/example/sheaf/sheaf/engine/Failure;Ljava/lang/String;Lcom/example/sheaf/sheaf/engine/OrderState;Ljava/util/List;)V", sig := { parameters := [.long, (.object "com/example/sheaf/sheaf/engine/Failure"), (.object "java/lang/String"), (.object "com/example/sheaf/sheaf/engine/OrderState"), (.object "java/util/List")], returnType := none }, accessFlags := 1, code := some k12c0 }
def k12c1 : Code := { maxStack := 8, maxLocals := 4, code := prog_19_method_2_code, exceptionTable := #[], attributes := #[] }
def k12m1 : Method := { name := "failed", desc := "(JLcom/example/sheaf/sheaf/engine/Failure;Ljava/lang/String;)Lcom/example/sheaf/sheaf/engine/InstructionResult;", sig := { parameters := [.long, (.object "com/example/sheaf/sheaf/engine/Failure"), (.object "java/lang/String")], returnType := some (.object "com/example/sheaf/sheaf/engine/InstructionResult") }, accessFlags := 8, code := some k12c1 }
def k12c2 : Code := { maxStack := 2, maxLocals := 1, code := prog_19_method_6_code, exceptionTable := #[], attributes := #[] }
def k12m2 : Method := { name := "seq", desc := "()J", sig := { parameters := [], returnType := some .long }, accessFlags := 1, code := some k12c2 }
def k12c3 : Code := { maxStack := 1, maxLocals := 1, code := prog_19_method_7_code, exceptionTable := #[], attributes := #[] }
def k12m3 : Method := { name := "failure", desc := "()Lcom/example/sheaf/sheaf/engine/Failure;", sig := { parameters := [], returnType := some (.object "com/example/sheaf/sheaf/engine/Failure") }, accessFlags := 1, code := some k12c3 }
def k12c4 : Code := { maxStack := 1, maxLocals := 1, code := prog_19_method_8_code, exceptionTable := #[], attributes := #[] }
def k12m4 : Method := { name := "text", desc := "()Ljava/lang/String;", sig := { parameters := [], returnType := some (.object "java/lang/String") }, accessFlags := 1, code := some k12c4 }
def k12c5 : Code := { maxStack := 1, maxLocals := 1, code := prog_19_method_9_code, exceptionTable := #[], attributes := #[] }
def k12m5 : Method := { name := "order", desc := "()Lcom/example/sheaf/sheaf/engine/OrderState;", sig := { parameters := [], returnType := some (.object "com/example/sheaf/sheaf/engine/OrderState") }, accessFlags := 1, code := some k12c5 }
def k12c6 : Code := { maxStack := 1, maxLocals := 1, code := prog_19_method_10_code, exceptionTable := #[], attributes := #[] }
def k12m6 : Method := { name := "fills", desc := "()Ljava/util/List;", sig := { parameters := [], returnType := some (.object "java/util/List") }, accessFlags := 1, code := some k12c6 }
/-- com/example/sheaf/sheaf/engine/InstructionResult -/
def k12 : Class := { plain "com/example/sheaf/sheaf/engine/InstructionResult" (some 11) with
  accessFlags := 49
  interfaces := #[]
  cf := some (fileOf pool12 8 #[] #[{ accessFlags := 1, nameIndex := 5, descriptorIndex := 37, attributes := #[] }, { accessFlags := 8, nameIndex := 56, descriptorIndex := 57, attributes := #[] }, { accessFlags := 1, nameIndex := 11, descriptorIndex := 61, attributes := #[] }, { accessFlags := 1, nameIndex := 15, descriptorIndex := 62, attributes := #[] }, { accessFlags := 1, nameIndex := 19, descriptorIndex := 58, attributes := #[] }, { accessFlags := 1, nameIndex := 23, descriptorIndex := 63, attributes := #[] }, { accessFlags := 1, nameIndex := 27, descriptorIndex := 34, attributes := #[] }] 49 2 #[] #[{ accessFlags := 18, nameIndex := 11, descriptorIndex := 12, attributes := #[] }, { accessFlags := 18, nameIndex := 15, descriptorIndex := 16, attributes := #[] }, { accessFlags := 18, nameIndex := 19, descriptorIndex := 20, attributes := #[] }, { accessFlags := 18, nameIndex := 23, descriptorIndex := 24, attributes := #[] }, { accessFlags := 18, nameIndex := 27, descriptorIndex := 28, attributes := #[] }])
  fields := #[{ name := "seq", type := .long, accessFlags := 18, slot := 0, constantValue := 0 }, { name := "failure", type := (.object "com/example/sheaf/sheaf/engine/Failure"), accessFlags := 18, slot := 1, constantValue := 0 }, { name := "text", type := (.object "java/lang/String"), accessFlags := 18, slot := 2, constantValue := 0 }, { name := "order", type := (.object "com/example/sheaf/sheaf/engine/OrderState"), accessFlags := 18, slot := 3, constantValue := 0 }, { name := "fills", type := (.object "java/util/List"), accessFlags := 18, slot := 4, constantValue := 0 }]
  methods := #[k12m0, k12m1, k12m2, k12m3, k12m4, k12m5, k12m6]
  instanceTypes := #[.long, (.object "com/example/sheaf/sheaf/engine/Failure"), (.object "java/lang/String"), (.object "com/example/sheaf/sheaf/engine/OrderState"), (.object "java/util/List")]
  staticTypes := #[]
  resolved := Array.replicate 89 none
  statics := none }

def pool13 : Array CpInfo := pool [(8, .class_ 10), (1, u "java/lang/Iterable"), (24, .class_ 36), (0, u "java/lang/Object")] 25

/-- java/lang/Iterable -/
def k13 : Class := { plain "java/lang/Iterable" (some 0) with
  accessFlags := 1537
  interfaces := #[]
  cf := some (fileOf pool13 8 #[] #[] 1537 35 #[] #[])
  fields := #[]
  methods := #[]
  instanceTypes := #[]
  staticTypes := #[]
  resolved := Array.replicate 62 none
  statics := none }

def pool14 : Array CpInfo := pool [(10, .class_ 12), (1, u "java/util/Collection"), (47, .class_ 61), (0, u "java/lang/Object"), (0, .class_ 63), (0, u "java/lang/Iterable")] 51

/-- java/util/Collection -/
def k14 : Class := { plain "java/util/Collection" (some 0) with
  accessFlags := 1537
  interfaces := #[13]
  cf := some (fileOf pool14 10 #[] #[] 1537 60 #[62] #[])
  fields := #[]
  methods := #[]
  instanceTypes := #[]
  staticTypes := #[]
  resolved := Array.replicate 115 none
  statics := none }

def pool15 : Array CpInfo := pool [(8, .class_ 10), (1, u "java/util/SequencedCollection"), (15, .class_ 27), (0, u "java/lang/Object"), (0, .class_ 29), (0, u "java/util/Collection")] 27

/-- java/util/SequencedCollection -/
def k15 : Class := { plain "java/util/SequencedCollection" (some 0) with
  accessFlags := 1537
  interfaces := #[14]
  cf := some (fileOf pool15 8 #[] #[] 1537 26 #[28] #[])
  fields := #[]
  methods := #[]
  instanceTypes := #[]
  staticTypes := #[]
  resolved := Array.replicate 57 none
  statics := none }

def pool16 : Array CpInfo := pool [(8, .class_ 10), (1, u "java/util/List"), (68, u "size"), (0, u "()I"), (7, u "of"), (1, .fieldref 91 92), (0, .class_ 93), (0, .nameAndType 94 95), (0, u "java/util/ImmutableCollections"), (0, u "EMPTY_LIST"), (0, u "Ljava/util/ImmutableCollections$ListN;"), (7, .class_ 104), (0, u "java/lang/Object"), (14, u "()Ljava/util/List;"), (0, .class_ 121), (0, u "java/util/SequencedCollection")] 129

def k16m0 : Method := { name := "size", desc := "()I", sig := { parameters := [], returnType := some .int }, accessFlags := 1025, code := none }
def k16c1 : Code := { maxStack := 1, maxLocals := 0, code := jdk_40_method_36_code, exceptionTable := #[], attributes := #[] }
def k16m1 : Method := { name := "of", desc := "()Ljava/util/List;", sig := { parameters := [], returnType := some (.object "java/util/List") }, accessFlags := 9, code := some k16c1 }
/-- java/util/List -/
def k16 : Class := { plain "java/util/List" (some 0) with
  accessFlags := 1537
  interfaces := #[15]
  cf := some (fileOf pool16 8 #[] #[{ accessFlags := 1025, nameIndex := 79, descriptorIndex := 80, attributes := #[] }, { accessFlags := 9, nameIndex := 88, descriptorIndex := 119, attributes := #[] }] 1537 103 #[120] #[])
  fields := #[]
  methods := #[k16m0, k16m1]
  instanceTypes := #[]
  staticTypes := #[]
  resolved := Array.replicate 251 none
  statics := none }

def pool17 : Array CpInfo := pool [(2, .class_ 4), (1, u "java/lang/Object"), (0, u "<init>"), (0, u "()V"), (3, .class_ 11), (0, u "java/util/ImmutableCollections$List12"), (0, .class_ 13), (0, u "java/util/ImmutableCollections$ListN"), (3, u "Z"), (29, .class_ 49), (1, u "java/util/ImmutableCollections"), (0, u "$assertionsDisabled"), (5, u "[Ljava/lang/Object;"), (5, u "EMPTY_LIST"), (0, u "Ljava/util/ImmutableCollections$ListN;"), (8, u "EMPTY_LIST_NULLS"), (22, u "SALT32L"), (0, u "J"), (2, u "REVERSE"), (6, u "archivedObjects"), (2, u "EMPTY"), (0, u "Ljava/lang/Object;"), (0, .class_ 112), (0, u "java/util/ImmutableCollections$SetN"), (5, u "EMPTY_SET"), (0, u "Ljava/util/ImmutableCollections$SetN;"), (0, .class_ 121), (0, u "java/util/ImmutableCollections$MapN"), (3, u "EMPTY_MAP"), (0, u "Ljava/util/ImmutableCollections$MapN;"), (4, u "EXPAND_FACTOR"), (0, u "I"), (36, .class_ 170), (0, u "java/util/ImmutableCollections$MapN$MapNIterator"), (0, .class_ 172), (0, u "java/util/ImmutableCollections$MapN$1"), (0, .class_ 174), (0, u "java/util/ImmutableCollections$Map1"), (0, .class_ 176), (0, u "java/util/ImmutableCollections$AbstractImmutableMap"), (0, .class_ 178), (0, u "java/util/ImmutableCollections$SetN$SetNIterator"), (0, .class_ 180), (0, u "java/util/ImmutableCollections$Set12"), (0, .class_ 182), (0, u "java/util/ImmutableCollections$Set12$1"), (0, .class_ 184), (0, u "java/util/ImmutableCollections$AbstractImmutableSet"), (0, .class_ 186), (0, u "java/util/ImmutableCollections$SubList"), (0, .class_ 188), (0, u "java/util/ImmutableCollections$ListItr"), (0, .class_ 190), (0, u "java/util/ImmutableCollections$AbstractImmutableList"), (0, .class_ 192), (0, u "java/util/ImmutableCollections$AbstractImmutableCollection"), (0, .class_ 194), (0, u "java/util/ImmutableCollections$Access"), (0, .class_ 196), (0, u "java/util/ImmutableCollections$Access$1")] 16

def k17m0 : Method := { name := "<init>", desc := "()V", sig := { parameters := [], returnType := none }, accessFlags := 2, code := none }
/-- java/util/ImmutableCollections -/
def k17 : Class := { plain "java/util/ImmutableCollections" (some 0) with
  accessFlags := 32
  interfaces := #[]
  cf := some (fileOf pool17 47 #[.nestMembers #[120, 169, 171, 173, 175, 111, 177, 179, 181, 183, 12, 10, 185, 187, 189, 191, 193, 195]] #[{ accessFlags := 2, nameIndex := 5, descriptorIndex := 6, attributes := #[] }] 32 2 #[] #[{ accessFlags := 26, nameIndex := 95, descriptorIndex := 96, attributes := #[] }, { accessFlags := 26, nameIndex := 99, descriptorIndex := 17, attributes := #[] }, { accessFlags := 10, nameIndex := 106, descriptorIndex := 56, attributes := #[] }, { accessFlags := 26, nameIndex := 109, descriptorIndex := 110, attributes := #[] }, { accessFlags := 24, nameIndex := 62, descriptorIndex := 63, attributes := #[] }, { accessFlags := 24, nameIndex := 72, descriptorIndex := 63, attributes := #[] }, { accessFlags := 24, nameIndex := 118, descriptorIndex := 119, attributes := #[] }, { accessFlags := 24, nameIndex := 125, descriptorIndex := 126, attributes := #[] }, { accessFlags := 24, nameIndex := 131, descriptorIndex := 132, attributes := #[] }, { accessFlags := 4120, nameIndex := 50, descriptorIndex := 17, attributes := #[] }])
  fields := #[{ name := "SALT32L", type := .long, accessFlags := 26, slot := 0, constantValue := 0 }, { name := "REVERSE", type := .boolean, accessFlags := 26, slot := 1, constantValue := 0 }, { name := "archivedObjects", type := (.array (.object "java/lang/Object")), accessFlags := 10, slot := 2, constantValue := 0 }, { name := "EMPTY", type := (.object "java/lang/Object"), accessFlags := 26, slot := 3, constantValue := 0 }, { name := "EMPTY_LIST", type := (.object "java/util/ImmutableCollections$ListN"), accessFlags := 24, slot := 4, constantValue := 0 }, { name := "EMPTY_LIST_NULLS", type := (.object "java/util/ImmutableCollections$ListN"), accessFlags := 24, slot := 5, constantValue := 0 }, { name := "EMPTY_SET", type := (.object "java/util/ImmutableCollections$SetN"), accessFlags := 24, slot := 6, constantValue := 0 }, { name := "EMPTY_MAP", type := (.object "java/util/ImmutableCollections$MapN"), accessFlags := 24, slot := 7, constantValue := 0 }, { name := "EXPAND_FACTOR", type := .int, accessFlags := 24, slot := 8, constantValue := 0 }, { name := "$assertionsDisabled", type := .boolean, accessFlags := 4120, slot := 9, constantValue := 0 }]
  methods := #[k17m0]
  instanceTypes := #[]
  staticTypes := #[.long, .boolean, (.array (.object "java/lang/Object")), (.object "java/lang/Object"), (.object "java/util/ImmutableCollections$ListN"), (.object "java/util/ImmutableCollections$ListN"), (.object "java/util/ImmutableCollections$SetN"), (.object "java/util/ImmutableCollections$MapN"), .int, .boolean]
  resolved := Array.replicate 213 none
  statics := some 2 }

def pool18 : Array CpInfo := pool [(2, .class_ 4), (1, u "java/lang/Object"), (0, u "<init>"), (0, u "()V"), (1, .class_ 10), (1, u "java/util/AbstractCollection"), (66, .class_ 78), (0, u "java/util/Collection")] 81

def k18m0 : Method := { name := "<init>", desc := "()V", sig := { parameters := [], returnType := none }, accessFlags := 4, code := none }
/-- java/util/AbstractCollection -/
def k18 : Class := { plain "java/util/AbstractCollection" (some 0) with
  accessFlags := 1057
  interfaces := #[14]
  cf := some (fileOf pool18 8 #[] #[{ accessFlags := 4, nameIndex := 5, descriptorIndex := 6, attributes := #[] }] 1057 2 #[77] #[])
  fields := #[]
  methods := #[k18m0]
  instanceTypes := #[]
  staticTypes := #[]
  resolved := Array.replicate 160 none
  statics := none }

def pool19 : Array CpInfo := pool [(2, .class_ 4), (1, u "java/util/AbstractCollection"), (0, u "<init>"), (0, u "()V"), (1, .class_ 10), (1, u "java/util/ImmutableCollections"), (2, .class_ 14), (0, u "java/util/ImmutableCollections$AbstractImmutableCollection")] 41

def k19m0 : Method := { name := "<init>", desc := "()V", sig := { parameters := [], returnType := none }, accessFlags := 0, code := none }
/-- java/util/ImmutableCollections$AbstractImmutableCollection -/
def k19 : Class := { plain "java/util/ImmutableCollections$AbstractImmutableCollection" (some 18) with
  accessFlags := 1056
  interfaces := #[]
  cf := some (fileOf pool19 13 #[.nestHost 8] #[{ accessFlags := 0, nameIndex := 5, descriptorIndex := 6, attributes := #[] }] 1056 2 #[] #[])
  fields := #[]
  methods := #[k19m0]
  instanceTypes := #[]
  staticTypes := #[]
  resolved := Array.replicate 56 none
  statics := none }

def pool20 : Array CpInfo := pool [(1, .class_ 2), (0, u "java/util/RandomAccess"), (0, .class_ 4), (0, u "java/lang/Object")] 2

/-- java/util/RandomAccess -/
def k20 : Class := { plain "java/util/RandomAccess" (some 0) with
  accessFlags := 1537
  interfaces := #[]
  cf := some (fileOf pool20 1 #[] #[] 1537 3 #[] #[])
  fields := #[]
  methods := #[]
  instanceTypes := #[]
  staticTypes := #[]
  resolved := Array.replicate 7 none
  statics := none }

def pool21 : Array CpInfo := pool [(2, .class_ 4), (1, u "java/util/ImmutableCollections$AbstractImmutableCollection"), (0, u "<init>"), (0, u "()V"), (1, .class_ 10), (1, u "java/util/ImmutableCollections"), (3, .class_ 16), (1, u "java/util/ImmutableCollections$AbstractImmutableList"), (60, .class_ 78), (0, u "java/util/List"), (45, .class_ 125), (0, u "java/util/RandomAccess")] 70

def k21m0 : Method := { name := "<init>", desc := "()V", sig := { parameters := [], returnType := none }, accessFlags := 0, code := none }
/-- java/util/ImmutableCollections$AbstractImmutableList -/
def k21 : Class := { plain "java/util/ImmutableCollections$AbstractImmutableList" (some 19) with
  accessFlags := 1056
  interfaces := #[16, 20]
  cf := some (fileOf pool21 14 #[.nestHost 8] #[{ accessFlags := 0, nameIndex := 5, descriptorIndex := 6, attributes := #[] }] 1056 2 #[77, 124] #[])
  fields := #[]
  methods := #[k21m0]
  instanceTypes := #[]
  staticTypes := #[]
  resolved := Array.replicate 196 none
  statics := none }

def pool22 : Array CpInfo := pool [(2, .class_ 4), (1, u "java/util/ImmutableCollections$AbstractImmutableList"), (2, .fieldref 8 9), (0, .class_ 10), (0, .nameAndType 11 12), (0, u "java/util/ImmutableCollections$ListN"), (0, u "elements"), (0, u "[Ljava/lang/Object;"), (2, u "allowNulls"), (0, u "Z"), (42, .class_ 60), (0, u "java/io/Serializable"), (16, u "size"), (0, u "()I"), (35, .class_ 115), (0, u "java/util/ImmutableCollections")] 3

def k22c0 : Code := { maxStack := 1, maxLocals := 1, code := jdk_45_method_3_code, exceptionTable := #[], attributes := #[] }
def k22m0 : Method := { name := "size", desc := "()I", sig := { parameters := [], returnType := some .int }, accessFlags := 1, code := some k22c0 }
/-- java/util/ImmutableCollections$ListN -/
def k22 : Class := { plain "java/util/ImmutableCollections$ListN" (some 21) with
  accessFlags := 48
  interfaces := #[4]
  cf := some (fileOf pool22 8 #[.nestHost 114] #[{ accessFlags := 1, nameIndex := 77, descriptorIndex := 78, attributes := #[] }] 48 2 #[59] #[{ accessFlags := 18, nameIndex := 11, descriptorIndex := 12, attributes := #[] }, { accessFlags := 18, nameIndex := 15, descriptorIndex := 16, attributes := #[] }])
  fields := #[{ name := "elements", type := (.array (.object "java/lang/Object")), accessFlags := 18, slot := 0, constantValue := 0 }, { name := "allowNulls", type := .boolean, accessFlags := 18, slot := 1, constantValue := 0 }]
  methods := #[k22m0]
  instanceTypes := #[(.array (.object "java/lang/Object")), .boolean]
  staticTypes := #[]
  resolved := Array.replicate 119 none
  statics := none }

def pool23 : Array CpInfo := pool [(4, .class_ 6), (1, u "java/lang/Object"), (0, u "<init>"), (0, u "()V"), (5, .class_ 16), (1, u "java/lang/StringLatin1"), (73, u "canEncode"), (14, u "(C)Z"), (15, u "$assertionsDisabled"), (0, u "Z"), (98, .class_ 223), (1, u "java/lang/StringLatin1$LinesSpliterator"), (156, u "toBytes"), (1, u "(C)[B"), (7, .class_ 391), (0, u "java/lang/StringLatin1$CharsSpliterator")] 3

def k23m0 : Method := { name := "<init>", desc := "()V", sig := { parameters := [], returnType := none }, accessFlags := 0, code := none }
def k23c1 : Code := { maxStack := 2, maxLocals := 1, code := jdk_43_method_3_code, exceptionTable := #[], attributes := #[] }
def k23m1 : Method := { name := "canEncode", desc := "(C)Z", sig := { parameters := [.char], returnType := some .boolean }, accessFlags := 9, code := some k23c1 }
def k23c2 : Code := { maxStack := 4, maxLocals := 1, code := jdk_43_method_46_code, exceptionTable := #[], attributes := #[] }
def k23m2 : Method := { name := "toBytes", desc := "(C)[B", sig := { parameters := [.char], returnType := some (.array .byte) }, accessFlags := 9, code := some k23c2 }
/-- java/lang/StringLatin1 -/
def k23 : Class := { plain "java/lang/StringLatin1" (some 0) with
  accessFlags := 48
  interfaces := #[]
  cf := some (fileOf pool23 14 #[.nestMembers #[390, 221]] #[{ accessFlags := 0, nameIndex := 7, descriptorIndex := 8, attributes := #[] }, { accessFlags := 9, nameIndex := 90, descriptorIndex := 105, attributes := #[] }, { accessFlags := 9, nameIndex := 380, descriptorIndex := 382, attributes := #[] }] 48 4 #[] #[{ accessFlags := 4120, nameIndex := 121, descriptorIndex := 122, attributes := #[] }])
  fields := #[{ name := "$assertionsDisabled", type := .boolean, accessFlags := 4120, slot := 0, constantValue := 0 }]
  methods := #[k23m0, k23m1, k23m2]
  instanceTypes := #[]
  staticTypes := #[.boolean]
  resolved := Array.replicate 395 none
  statics := none }

def pool24 : Array CpInfo := pool [(2, .class_ 4), (1, u "java/lang/Object"), (0, u "<init>"), (0, u "()V"), (17, .class_ 26), (1, u "jdk/internal/util/Preconditions"), (28, .class_ 56), (0, u "jdk/internal/util/Preconditions$4"), (57, .class_ 115), (0, u "jdk/internal/util/Preconditions$1"), (7, u "SIOOBE_FORMATTER"), (0, u "Ljava/util/function/BiFunction;"), (0, .class_ 126), (0, u "jdk/internal/util/Preconditions$2"), (3, u "AIOOBE_FORMATTER"), (0, .class_ 132), (0, u "jdk/internal/util/Preconditions$3"), (3, u "IOOBE_FORMATTER")] 57

def k24m0 : Method := { name := "<init>", desc := "()V", sig := { parameters := [], returnType := none }, accessFlags := 1, code := none }
/-- jdk/internal/util/Preconditions -/
def k24 : Class := { plain "jdk/internal/util/Preconditions" (some 0) with
  accessFlags := 33
  interfaces := #[]
  cf := some (fileOf pool24 24 #[.nestMembers #[55, 131, 125, 114]] #[{ accessFlags := 1, nameIndex := 5, descriptorIndex := 6, attributes := #[] }] 33 2 #[] #[{ accessFlags := 25, nameIndex := 123, descriptorIndex := 124, attributes := #[] }, { accessFlags := 25, nameIndex := 130, descriptorIndex := 124, attributes := #[] }, { accessFlags := 25, nameIndex := 136, descriptorIndex := 124, attributes := #[] }])
  fields := #[{ name := "SIOOBE_FORMATTER", type := (.object "java/util/function/BiFunction"), accessFlags := 25, slot := 0, constantValue := 0 }, { name := "AIOOBE_FORMATTER", type := (.object "java/util/function/BiFunction"), accessFlags := 25, slot := 1, constantValue := 0 }, { name := "IOOBE_FORMATTER", type := (.object "java/util/function/BiFunction"), accessFlags := 25, slot := 2, constantValue := 0 }]
  methods := #[k24m0]
  instanceTypes := #[]
  staticTypes := #[(.object "java/util/function/BiFunction"), (.object "java/util/function/BiFunction"), (.object "java/util/function/BiFunction")]
  resolved := Array.replicate 194 none
  statics := some 3 }

def pool25 : Array CpInfo := pool [(9, u "<init>"), (6, .class_ 18), (1, u "java/lang/Object"), (0, u "()V"), (1, .class_ 23), (1, u "jdk/internal/util/ArraysSupport"), (0, u "LOG2_ARRAY_LONG_INDEX_SCALE"), (0, u "I"), (2, u "U"), (0, u "Ljdk/internal/misc/Unsafe;"), (8, u "BIG_ENDIAN"), (0, u "Z"), (8, u "LOG2_BYTE_BIT_SIZE"), (4, u "LOG2_ARRAY_INT_INDEX_SCALE"), (54, u "JLA"), (0, u "Ljdk/internal/access/JavaLangAccess;"), (11, u "LOG2_ARRAY_BOOLEAN_INDEX_SCALE"), (9, u "LOG2_ARRAY_BYTE_INDEX_SCALE"), (5, u "LOG2_ARRAY_CHAR_INDEX_SCALE"), (5, u "LOG2_ARRAY_SHORT_INDEX_SCALE"), (18, u "LOG2_ARRAY_FLOAT_INDEX_SCALE"), (24, u "LOG2_ARRAY_DOUBLE_INDEX_SCALE"), (89, u "T_BOOLEAN"), (2, u "T_CHAR"), (1, u "T_FLOAT"), (1, u "T_DOUBLE"), (1, u "T_BYTE"), (1, u "T_SHORT"), (1, u "T_INT"), (1, u "T_LONG"), (1, u "SOFT_MAX_ARRAY_LENGTH")] 83

def k25m0 : Method := { name := "<init>", desc := "()V", sig := { parameters := [], returnType := none }, accessFlags := 2, code := none }
/-- jdk/internal/util/ArraysSupport -/
def k25 : Class := { plain "jdk/internal/util/ArraysSupport" (some 0) with
  accessFlags := 33
  interfaces := #[]
  cf := some (fileOf pool25 21 #[] #[{ accessFlags := 2, nameIndex := 9, descriptorIndex := 19, attributes := #[] }] 33 16 #[] #[{ accessFlags := 24, nameIndex := 28, descriptorIndex := 29, attributes := #[] }, { accessFlags := 26, nameIndex := 38, descriptorIndex := 39, attributes := #[] }, { accessFlags := 25, nameIndex := 121, descriptorIndex := 25, attributes := #[] }, { accessFlags := 25, nameIndex := 131, descriptorIndex := 25, attributes := #[] }, { accessFlags := 25, nameIndex := 137, descriptorIndex := 25, attributes := #[] }, { accessFlags := 25, nameIndex := 143, descriptorIndex := 25, attributes := #[] }, { accessFlags := 25, nameIndex := 53, descriptorIndex := 25, attributes := #[] }, { accessFlags := 25, nameIndex := 24, descriptorIndex := 25, attributes := #[] }, { accessFlags := 25, nameIndex := 162, descriptorIndex := 25, attributes := #[] }, { accessFlags := 25, nameIndex := 187, descriptorIndex := 25, attributes := #[] }, { accessFlags := 26, nameIndex := 48, descriptorIndex := 25, attributes := #[] }, { accessFlags := 25, nameIndex := 277, descriptorIndex := 25, attributes := #[] }, { accessFlags := 25, nameIndex := 280, descriptorIndex := 25, attributes := #[] }, { accessFlags := 25, nameIndex := 282, descriptorIndex := 25, attributes := #[] }, { accessFlags := 25, nameIndex := 284, descriptorIndex := 25, attributes := #[] }, { accessFlags := 25, nameIndex := 286, descriptorIndex := 25, attributes := #[] }, { accessFlags := 25, nameIndex := 288, descriptorIndex := 25, attributes := #[] }, { accessFlags := 25, nameIndex := 290, descriptorIndex := 25, attributes := #[] }, { accessFlags := 25, nameIndex := 292, descriptorIndex := 25, attributes := #[] }, { accessFlags := 26, nameIndex := 108, descriptorIndex := 109, attributes := #[] }, { accessFlags := 25, nameIndex := 294, descriptorIndex := 25, attributes := #[] }])
  fields := #[{ name := "U", type := (.object "jdk/internal/misc/Unsafe"), accessFlags := 24, slot := 0, constantValue := 0 }, { name := "BIG_ENDIAN", type := .boolean, accessFlags := 26, slot := 1, constantValue := 0 }, { name := "LOG2_ARRAY_BOOLEAN_INDEX_SCALE", type := .int, accessFlags := 25, slot := 2, constantValue := 0 }, { name := "LOG2_ARRAY_BYTE_INDEX_SCALE", type := .int, accessFlags := 25, slot := 3, constantValue := 0 }, { name := "LOG2_ARRAY_CHAR_INDEX_SCALE", type := .int, accessFlags := 25, slot := 4, constantValue := 0 }, { name := "LOG2_ARRAY_SHORT_INDEX_SCALE", type := .int, accessFlags := 25, slot := 5, constantValue := 0 }, { name := "LOG2_ARRAY_INT_INDEX_SCALE", type := .int, accessFlags := 25, slot := 6, constantValue := 0 }, { name := "LOG2_ARRAY_LONG_INDEX_SCALE", type := .int, accessFlags := 25, slot := 7, constantValue := 0 }, { name := "LOG2_ARRAY_FLOAT_INDEX_SCALE", type := .int, accessFlags := 25, slot := 8, constantValue := 0 }, { name := "LOG2_ARRAY_DOUBLE_INDEX_SCALE", type := .int, accessFlags := 25, slot := 9, constantValue := 0 }, { name := "LOG2_BYTE_BIT_SIZE", type := .int, accessFlags := 26, slot := 10, constantValue := 0 }, { name := "T_BOOLEAN", type := .int, accessFlags := 25, slot := 11, constantValue := 0 }, { name := "T_CHAR", type := .int, accessFlags := 25, slot := 12, constantValue := 0 }, { name := "T_FLOAT", type := .int, accessFlags := 25, slot := 13, constantValue := 0 }, { name := "T_DOUBLE", type := .int, accessFlags := 25, slot := 14, constantValue := 0 }, { name := "T_BYTE", type := .int, accessFlags := 25, slot := 15, constantValue := 0 }, { name := "T_SHORT", type := .int, accessFlags := 25, slot := 16, constantValue := 0 }, { name := "T_INT", type := .int, accessFlags := 25, slot := 17, constantValue := 0 }, { name := "T_LONG", type := .int, accessFlags := 25, slot := 18, constantValue := 0 }, { name := "JLA", type := (.object "jdk/internal/access/JavaLangAccess"), accessFlags := 26, slot := 19, constantValue := 0 }, { name := "SOFT_MAX_ARRAY_LENGTH", type := .int, accessFlags := 25, slot := 20, constantValue := 0 }]
  methods := #[k25m0]
  instanceTypes := #[]
  staticTypes := #[(.object "jdk/internal/misc/Unsafe"), .boolean, .int, .int, .int, .int, .int, .int, .int, .int, .int, .int, .int, .int, .int, .int, .int, .int, .int, (.object "jdk/internal/access/JavaLangAccess"), .int]
  resolved := Array.replicate 378 none
  statics := none }

def pool26 : Array CpInfo := pool [(1, u "java/lang/Cloneable"), (0, .class_ 1), (0, u "java/lang/Object"), (0, .class_ 3)] 3

/-- java/lang/Cloneable -/
def k26 : Class := { plain "java/lang/Cloneable" (some 0) with
  accessFlags := 1537
  interfaces := #[]
  cf := some (fileOf pool26 2 #[] #[] 1537 4 #[] #[])
  fields := #[]
  methods := #[]
  instanceTypes := #[]
  staticTypes := #[]
  resolved := Array.replicate 8 none
  statics := none }

/-- the primitive byte -/
def k27 : Class := { plain "byte" none with kind := .primitive 'B', accessFlags := 0x411 }
/-- [B -/
def k28 : Class := { plain "[B" (some 0) with kind := .array 27 .byte, interfaces := #[26, 4], accessFlags := 1041 }

/-- the primitive char -/
def k29 : Class := { plain "char" none with kind := .primitive 'C', accessFlags := 0x411 }
/-- [C -/
def k30 : Class := { plain "[C" (some 0) with kind := .array 29 .char, interfaces := #[26, 4], accessFlags := 1041 }

/-- the primitive int -/
def k31 : Class := { plain "int" none with kind := .primitive 'I', accessFlags := 0x411 }
/-- [I -/
def k32 : Class := { plain "[I" (some 0) with kind := .array 31 .int, interfaces := #[26, 4], accessFlags := 1041 }

/-- [Ljava/lang/Object; -/
def k33 : Class := { plain "[Ljava/lang/Object;" (some 0) with kind := .array 0 (.object "java/lang/Object"), interfaces := #[26, 4], accessFlags := 1041 }

def heap : Heap := #[{ cls := 6, slots := #[.ref 9, .ref 5, .ref 4, .ref 7, .ref 10, .ref 8, .ref 6, .null], vm := .statics 6 },
  { cls := 9, slots := #[.long 0, .int 1, .null, .int 0, .null, .int 0, .int 0], vm := .statics 9 },
  { cls := 17, slots := #[.long 0, .int 0, .null, .null, .ref 12, .null, .null, .null, .int 0, .int 0], vm := .statics 17 },
  { cls := 24, slots := #[.null, .null, .null], vm := .statics 24 },
  { cls := 6, slots := #[.null, .int 0, .int 0], vm := .none },
  { cls := 6, slots := #[.null, .int 1, .int 0], vm := .none },
  { cls := 6, slots := #[.null, .int 2, .int 0], vm := .none },
  { cls := 6, slots := #[.null, .int 3, .int 0], vm := .none },
  { cls := 6, slots := #[.null, .int 4, .int 0], vm := .none },
  { cls := 6, slots := #[.null, .int 5, .int 0], vm := .none },
  { cls := 6, slots := #[.null, .int 6, .int 0], vm := .none },
  { cls := 33, slots := #[], vm := .none },
  { cls := 22, slots := #[.ref 11, .int 0], vm := .none }]
def classes : Array Class := #[k0, k1, k2, k3, k4, k5, k6, k7, k8, k9, k10, k11, k12, k13, k14, k15, k16, k17, k18, k19, k20, k21, k22, k23, k24, k25, k26, k27, k28, k29, k30, k31, k32, k33]
def interned : List (Array UInt16 × Addr) := []
def slotsUsed : Nat := 51
def theMethod : MethodId := ⟨1, 2⟩
def args0 : Array Value := #[.long 5, .int 1, .int 65, .int 66, .int 1]
def aboutOver (below : List Frame) : State where
  vm := { classes := classes, interned := interned.toArray }
  heap := heap
  slotsUsed := slotsUsed
  threads := #[{ frames := .invoking theMethod args0 :: below }]
def below0 : List Frame := [.native { method := ⟨0, 0⟩, args := #[] }]
def about1 : State := aboutOver below0
def p0 : Program := .bare "" "" ""
def e0 : Env := launch0.env 0 0 0
theorem w_frames : about1.frames = Frame.invoking theMethod args0 :: below0 := rfl
set_option maxRecDepth 65536 in
theorem w_args : argsFit about1.vm theMethod args0 = true := by decide +kernel
set_option maxRecDepth 65536 in
theorem w_heap : heapFits about1 = true := by decide +kernel
set_option maxRecDepth 65536 in
theorem w_runnable : about1.curStatus? = some .runnable := by decide +kernel
set_option maxRecDepth 65536 in
theorem w_alone : about1.alone = true := by decide +kernel
set_option maxRecDepth 65536 in
theorem w_named : about1.methodNamed? x = some theMethod := by decide +kernel
set_option maxRecDepth 65536 in
theorem w_hears : about1.hears theMethod below0 = true := by decide +kernel
set_option maxRecDepth 65536 in
theorem w_ripe : about1.ripe theMethod args0 below0 = true := by decide +kernel
theorem w_running : about1.status = .running := rfl
set_option maxRecDepth 65536 in
theorem w_room : about1.hasRoom e0.platform room_1 = true :=
  launch0.hasRoom_least _ room_1 (by decide +kernel) (by decide +kernel) (by decide +kernel) (by decide +kernel) (by decide +kernel) (by decide +kernel)
theorem allAtoms_all (ts : List Jvm.Cond) (a : Array Jvm.Value) (st : Jvm.State) : (allAtoms ts).before a st = ts.all (fun c => c.before a st) := by
  induction ts with
  | nil => rfl
  | cons c t ih =>
    show (Jvm.Cond.and c (allAtoms t)).before a st = _
    rw [Jvm.Cond.before_and, ih, List.all_cons]
def words1 : List Jvm.Cond := Jvm.Cond.code x code maxLocals ret :: tables_1
/-- a 'code' word, met by the world's own term for the bytes: nothing is compared byte by byte -/
theorem code_word {y : MethodName} {bytes : ByteArray} {mx : Nat} {rt : Option FieldType} {a : Array Value} {s : State} {m : MethodId} {meth : Method} {c : Code} (h1 : s.methodNamed? y = some m) (h2 : s.vm.method? m = some meth) (h3 : meth.code = some c) (h4 : c.code = bytes)
    (h5 : (c.maxLocals == mx && c.exceptionTable.isEmpty && decide (c.maxStack ≤ mostOperands) && decide (meth.sig.returnType = rt) && !meth.locks && decide (parseMethodDescriptor y.desc = some meth.sig)) = true) : (Jvm.Cond.code y bytes mx rt).before a s = true := by
  simp only [Bool.and_eq_true, beq_iff_eq, Bool.not_eq_true', decide_eq_true_eq] at h5
  obtain ⟨⟨⟨⟨⟨g1, g2⟩, g3⟩, g4⟩, g5⟩, g6⟩ := h5
  simp [Cond.before, Cond.holds, Cond.value, h1, h2, h3, h4, g1, g2, g3, g4, g5, g6]
def isCode : Jvm.Cond → Bool
  | .code _ _ _ _ => true
  | _ => false
theorem all_split {L : List Jvm.Cond} {P : Jvm.Cond → Bool} (h1 : L.all (fun c => isCode c || P c) = true) (h2 : ∀ c ∈ L.filter isCode, P c = true) : L.all P = true := by
  refine List.all_eq_true.mpr fun c hc => ?_
  have h := List.all_eq_true.mp h1 c hc
  rcases Bool.eq_false_or_eq_true (isCode c) with hi | hi
  · exact h2 c (List.mem_filter.mpr ⟨hc, hi⟩)
  · simpa [hi] using h
set_option maxRecDepth 65536 in
theorem w_c0 : (Jvm.Cond.code x code maxLocals ret).before args0 about1 = true := code_word (m := ⟨1, 2⟩) (meth := k1m2) (c := k1c2) (by decide +kernel) rfl rfl rfl (by decide +kernel)
set_option maxRecDepth 65536 in
theorem w_c1 : (Jvm.Cond.code ({ cls := "com/example/sheaf/sheaf/engine/InstructionResultFailedPinLaw", name := "pick", desc := "(I)Lcom/example/sheaf/sheaf/engine/Failure;" } : Jvm.MethodName) method_2_code (2 : Nat) (Option.some (Jvm.ClassFile.FieldType.object "com/example/sheaf/sheaf/engine/Failure"))).before args0 about1 = true := code_word (m := ⟨1, 1⟩) (meth := k1m1) (c := k1c1) (by decide +kernel) rfl rfl rfl (by decide +kernel)
set_option maxRecDepth 65536 in
theorem w_c2 : (Jvm.Cond.code ({ cls := "java/lang/String", name := "<init>", desc := "([C)V" } : Jvm.MethodName) jdk_42_method_3_code (2 : Nat) (Option.none : Option Jvm.ClassFile.FieldType)).before args0 about1 = true := code_word (m := ⟨9, 1⟩) (meth := k9m1) (c := k9c1) (by decide +kernel) rfl rfl rfl (by decide +kernel)
set_option maxRecDepth 65536 in
theorem w_c3 : (Jvm.Cond.code ({ cls := "java/lang/String", name := "<init>", desc := "([CIILjava/lang/Void;)V" } : Jvm.MethodName) jdk_42_method_149_code (6 : Nat) (Option.none : Option Jvm.ClassFile.FieldType)).before args0 about1 = true := code_word (m := ⟨9, 4⟩) (meth := k9m4) (c := k9c4) (by decide +kernel) rfl rfl rfl (by decide +kernel)
set_option maxRecDepth 65536 in
theorem w_c4 : (Jvm.Cond.code ({ cls := "java/lang/Object", name := "<init>", desc := "()V" } : Jvm.MethodName) object_method_1_code (1 : Nat) (Option.none : Option Jvm.ClassFile.FieldType)).before args0 about1 = true := code_word (m := ⟨0, 0⟩) (meth := k0m0) (c := k0c0) (by decide +kernel) rfl rfl rfl (by decide +kernel)
set_option maxRecDepth 65536 in
theorem w_c5 : (Jvm.Cond.code ({ cls := "java/lang/StringUTF16", name := "compress", desc := "([CII)[B" } : Jvm.MethodName) jdk_52_method_16_code (6 : Nat) (Option.some (Jvm.ClassFile.FieldType.array Jvm.ClassFile.FieldType.byte))).before args0 about1 = true := code_word (m := ⟨10, 2⟩) (meth := k10m2) (c := k10c2) (by decide +kernel) rfl rfl rfl (by decide +kernel)
set_option maxRecDepth 65536 in
theorem w_c6 : (Jvm.Cond.code ({ cls := "java/lang/StringUTF16", name := "compress", desc := "([CI[BII)I" } : Jvm.MethodName) jdk_52_method_21_code (7 : Nat) (Option.some Jvm.ClassFile.FieldType.int)).before args0 about1 = true := code_word (m := ⟨10, 3⟩) (meth := k10m3) (c := k10c3) (by decide +kernel) rfl rfl rfl (by decide +kernel)
set_option maxRecDepth 65536 in
theorem w_c7 : (Jvm.Cond.code ({ cls := "java/lang/StringUTF16", name := "coderFromArrayLen", desc := "([BI)B" } : Jvm.MethodName) jdk_52_method_15_code (2 : Nat) (Option.some Jvm.ClassFile.FieldType.byte)).before args0 about1 = true := code_word (m := ⟨10, 1⟩) (meth := k10m1) (c := k10c1) (by decide +kernel) rfl rfl rfl (by decide +kernel)
set_option maxRecDepth 65536 in
theorem w_c8 : (Jvm.Cond.code ({ cls := "com/example/sheaf/sheaf/engine/InstructionResult", name := "failed", desc := "(JLcom/example/sheaf/sheaf/engine/Failure;Ljava/lang/String;)Lcom/example/sheaf/sheaf/engine/InstructionResult;" } : Jvm.MethodName) prog_19_method_2_code (4 : Nat) (Option.some (Jvm.ClassFile.FieldType.object "com/example/sheaf/sheaf/engine/InstructionResult"))).before args0 about1 = true := code_word (m := ⟨12, 1⟩) (meth := k12m1) (c := k12c1) (by decide +kernel) rfl rfl rfl (by decide +kernel)
set_option maxRecDepth 65536 in
theorem w_c9 : (Jvm.Cond.code ({ cls := "java/util/List", name := "of", desc := "()Ljava/util/List;" } : Jvm.MethodName) jdk_40_method_36_code (0 : Nat) (Option.some (Jvm.ClassFile.FieldType.object "java/util/List"))).before args0 about1 = true := code_word (m := ⟨16, 1⟩) (meth := k16m1) (c := k16c1) (by decide +kernel) rfl rfl rfl (by decide +kernel)
set_option maxRecDepth 65536 in
theorem w_c10 : (Jvm.Cond.code ({ cls := "com/example/sheaf/sheaf/engine/InstructionResult", name := "<init>", desc := "(JLcom/example/sheaf/sheaf/engine/Failure;Ljava/lang/String;Lcom/example/sheaf/sheaf/engine/OrderState;Ljava/util/List;)V" } : Jvm.MethodName) prog_19_method_1_code (7 : Nat) (Option.none : Option Jvm.ClassFile.FieldType)).before args0 about1 = true := code_word (m := ⟨12, 0⟩) (meth := k12m0) (c := k12c0) (by decide +kernel) rfl rfl rfl (by decide +kernel)
set_option maxRecDepth 65536 in
theorem w_c11 : (Jvm.Cond.code ({ cls := "java/lang/Record", name := "<init>", desc := "()V" } : Jvm.MethodName) jdk_30_method_1_code (1 : Nat) (Option.none : Option Jvm.ClassFile.FieldType)).before args0 about1 = true := code_word (m := ⟨11, 0⟩) (meth := k11m0) (c := k11c0) (by decide +kernel) rfl rfl rfl (by decide +kernel)
set_option maxRecDepth 65536 in
theorem w_c12 : (Jvm.Cond.code ({ cls := "com/example/sheaf/sheaf/engine/InstructionResult", name := "text", desc := "()Ljava/lang/String;" } : Jvm.MethodName) prog_19_method_8_code (1 : Nat) (Option.some (Jvm.ClassFile.FieldType.object "java/lang/String"))).before args0 about1 = true := code_word (m := ⟨12, 4⟩) (meth := k12m4) (c := k12c4) (by decide +kernel) rfl rfl rfl (by decide +kernel)
set_option maxRecDepth 65536 in
theorem w_c13 : (Jvm.Cond.code ({ cls := "java/lang/String", name := "equals", desc := "(Ljava/lang/Object;)Z" } : Jvm.MethodName) jdk_42_method_66_code (3 : Nat) (Option.some Jvm.ClassFile.FieldType.boolean)).before args0 about1 = true := code_word (m := ⟨9, 2⟩) (meth := k9m2) (c := k9c2) (by decide +kernel) rfl rfl rfl (by decide +kernel)
set_option maxRecDepth 65536 in
theorem w_c14 : (Jvm.Cond.code ({ cls := "com/example/sheaf/sheaf/engine/InstructionResult", name := "seq", desc := "()J" } : Jvm.MethodName) prog_19_method_6_code (1 : Nat) (Option.some Jvm.ClassFile.FieldType.long)).before args0 about1 = true := code_word (m := ⟨12, 2⟩) (meth := k12m2) (c := k12c2) (by decide +kernel) rfl rfl rfl (by decide +kernel)
set_option maxRecDepth 65536 in
theorem w_c15 : (Jvm.Cond.code ({ cls := "com/example/sheaf/sheaf/engine/InstructionResult", name := "failure", desc := "()Lcom/example/sheaf/sheaf/engine/Failure;" } : Jvm.MethodName) prog_19_method_7_code (1 : Nat) (Option.some (Jvm.ClassFile.FieldType.object "com/example/sheaf/sheaf/engine/Failure"))).before args0 about1 = true := code_word (m := ⟨12, 3⟩) (meth := k12m3) (c := k12c3) (by decide +kernel) rfl rfl rfl (by decide +kernel)
set_option maxRecDepth 65536 in
theorem w_c16 : (Jvm.Cond.code ({ cls := "com/example/sheaf/sheaf/engine/InstructionResult", name := "order", desc := "()Lcom/example/sheaf/sheaf/engine/OrderState;" } : Jvm.MethodName) prog_19_method_9_code (1 : Nat) (Option.some (Jvm.ClassFile.FieldType.object "com/example/sheaf/sheaf/engine/OrderState"))).before args0 about1 = true := code_word (m := ⟨12, 5⟩) (meth := k12m5) (c := k12c5) (by decide +kernel) rfl rfl rfl (by decide +kernel)
set_option maxRecDepth 65536 in
theorem w_c17 : (Jvm.Cond.code ({ cls := "com/example/sheaf/sheaf/engine/InstructionResult", name := "fills", desc := "()Ljava/util/List;" } : Jvm.MethodName) prog_19_method_10_code (1 : Nat) (Option.some (Jvm.ClassFile.FieldType.object "java/util/List"))).before args0 about1 = true := code_word (m := ⟨12, 6⟩) (meth := k12m6) (c := k12c6) (by decide +kernel) rfl rfl rfl (by decide +kernel)
set_option maxRecDepth 65536 in
theorem w_c18 : (Jvm.Cond.code ({ cls := "java/util/ImmutableCollections$ListN", name := "size", desc := "()I" } : Jvm.MethodName) jdk_45_method_3_code (1 : Nat) (Option.some Jvm.ClassFile.FieldType.int)).before args0 about1 = true := code_word (m := ⟨22, 0⟩) (meth := k22m0) (c := k22c0) (by decide +kernel) rfl rfl rfl (by decide +kernel)
set_option maxRecDepth 65536 in
theorem w_c19 : (Jvm.Cond.code ({ cls := "java/lang/String", name := "valueOf", desc := "(C)Ljava/lang/String;" } : Jvm.MethodName) jdk_42_method_139_code (1 : Nat) (Option.some (Jvm.ClassFile.FieldType.object "java/lang/String"))).before args0 about1 = true := code_word (m := ⟨9, 3⟩) (meth := k9m3) (c := k9c3) (by decide +kernel) rfl rfl rfl (by decide +kernel)
set_option maxRecDepth 65536 in
theorem w_c20 : (Jvm.Cond.code ({ cls := "java/lang/StringLatin1", name := "canEncode", desc := "(C)Z" } : Jvm.MethodName) jdk_43_method_3_code (1 : Nat) (Option.some Jvm.ClassFile.FieldType.boolean)).before args0 about1 = true := code_word (m := ⟨23, 1⟩) (meth := k23m1) (c := k23c1) (by decide +kernel) rfl rfl rfl (by decide +kernel)
set_option maxRecDepth 65536 in
theorem w_c21 : (Jvm.Cond.code ({ cls := "java/lang/StringLatin1", name := "toBytes", desc := "(C)[B" } : Jvm.MethodName) jdk_43_method_46_code (1 : Nat) (Option.some (Jvm.ClassFile.FieldType.array Jvm.ClassFile.FieldType.byte))).before args0 about1 = true := code_word (m := ⟨23, 2⟩) (meth := k23m2) (c := k23c2) (by decide +kernel) rfl rfl rfl (by decide +kernel)
set_option maxRecDepth 65536 in
theorem w_c22 : (Jvm.Cond.code ({ cls := "java/lang/String", name := "<init>", desc := "([BB)V" } : Jvm.MethodName) jdk_42_method_151_code (3 : Nat) (Option.none : Option Jvm.ClassFile.FieldType)).before args0 about1 = true := code_word (m := ⟨9, 5⟩) (meth := k9m5) (c := k9c5) (by decide +kernel) rfl rfl rfl (by decide +kernel)
def codes1 : List Jvm.Cond := [Jvm.Cond.code x code maxLocals ret, Jvm.Cond.code ({ cls := "com/example/sheaf/sheaf/engine/InstructionResultFailedPinLaw", name := "pick", desc := "(I)Lcom/example/sheaf/sheaf/engine/Failure;" } : Jvm.MethodName) method_2_code (2 : Nat) (Option.some (Jvm.ClassFile.FieldType.object "com/example/sheaf/sheaf/engine/Failure")), Jvm.Cond.code ({ cls := "java/lang/String", name := "<init>", desc := "([C)V" } : Jvm.MethodName) jdk_42_method_3_code (2 : Nat) (Option.none : Option Jvm.ClassFile.FieldType), Jvm.Cond.code ({ cls := "java/lang/String", name := "<init>", desc := "([CIILjava/lang/Void;)V" } : Jvm.MethodName) jdk_42_method_149_code (6 : Nat) (Option.none : Option Jvm.ClassFile.FieldType), Jvm.Cond.code ({ cls := "java/lang/Object", name := "<init>", desc := "()V" } : Jvm.MethodName) object_method_1_code (1 : Nat) (Option.none : Option Jvm.ClassFile.FieldType), Jvm.Cond.code ({ cls := "java/lang/StringUTF16", name := "compress", desc := "([CII)[B" } : Jvm.MethodName) jdk_52_method_16_code (6 : Nat) (Option.some (Jvm.ClassFile.FieldType.array Jvm.ClassFile.FieldType.byte)), Jvm.Cond.code ({ cls := "java/lang/StringUTF16", name := "compress", desc := "([CI[BII)I" } : Jvm.MethodName) jdk_52_method_21_code (7 : Nat) (Option.some Jvm.ClassFile.FieldType.int), Jvm.Cond.code ({ cls := "java/lang/StringUTF16", name := "coderFromArrayLen", desc := "([BI)B" } : Jvm.MethodName) jdk_52_method_15_code (2 : Nat) (Option.some Jvm.ClassFile.FieldType.byte), Jvm.Cond.code ({ cls := "com/example/sheaf/sheaf/engine/InstructionResult", name := "failed", desc := "(JLcom/example/sheaf/sheaf/engine/Failure;Ljava/lang/String;)Lcom/example/sheaf/sheaf/engine/InstructionResult;" } : Jvm.MethodName) prog_19_method_2_code (4 : Nat) (Option.some (Jvm.ClassFile.FieldType.object "com/example/sheaf/sheaf/engine/InstructionResult")), Jvm.Cond.code ({ cls := "java/util/List", name := "of", desc := "()Ljava/util/List;" } : Jvm.MethodName) jdk_40_method_36_code (0 : Nat) (Option.some (Jvm.ClassFile.FieldType.object "java/util/List")), Jvm.Cond.code ({ cls := "com/example/sheaf/sheaf/engine/InstructionResult", name := "<init>", desc := "(JLcom/example/sheaf/sheaf/engine/Failure;Ljava/lang/String;Lcom/example/sheaf/sheaf/engine/OrderState;Ljava/util/List;)V" } : Jvm.MethodName) prog_19_method_1_code (7 : Nat) (Option.none : Option Jvm.ClassFile.FieldType), Jvm.Cond.code ({ cls := "java/lang/Record", name := "<init>", desc := "()V" } : Jvm.MethodName) jdk_30_method_1_code (1 : Nat) (Option.none : Option Jvm.ClassFile.FieldType), Jvm.Cond.code ({ cls := "com/example/sheaf/sheaf/engine/InstructionResult", name := "text", desc := "()Ljava/lang/String;" } : Jvm.MethodName) prog_19_method_8_code (1 : Nat) (Option.some (Jvm.ClassFile.FieldType.object "java/lang/String")), Jvm.Cond.code ({ cls := "java/lang/String", name := "equals", desc := "(Ljava/lang/Object;)Z" } : Jvm.MethodName) jdk_42_method_66_code (3 : Nat) (Option.some Jvm.ClassFile.FieldType.boolean), Jvm.Cond.code ({ cls := "com/example/sheaf/sheaf/engine/InstructionResult", name := "seq", desc := "()J" } : Jvm.MethodName) prog_19_method_6_code (1 : Nat) (Option.some Jvm.ClassFile.FieldType.long), Jvm.Cond.code ({ cls := "com/example/sheaf/sheaf/engine/InstructionResult", name := "failure", desc := "()Lcom/example/sheaf/sheaf/engine/Failure;" } : Jvm.MethodName) prog_19_method_7_code (1 : Nat) (Option.some (Jvm.ClassFile.FieldType.object "com/example/sheaf/sheaf/engine/Failure")), Jvm.Cond.code ({ cls := "com/example/sheaf/sheaf/engine/InstructionResult", name := "order", desc := "()Lcom/example/sheaf/sheaf/engine/OrderState;" } : Jvm.MethodName) prog_19_method_9_code (1 : Nat) (Option.some (Jvm.ClassFile.FieldType.object "com/example/sheaf/sheaf/engine/OrderState")), Jvm.Cond.code ({ cls := "com/example/sheaf/sheaf/engine/InstructionResult", name := "fills", desc := "()Ljava/util/List;" } : Jvm.MethodName) prog_19_method_10_code (1 : Nat) (Option.some (Jvm.ClassFile.FieldType.object "java/util/List")), Jvm.Cond.code ({ cls := "java/util/ImmutableCollections$ListN", name := "size", desc := "()I" } : Jvm.MethodName) jdk_45_method_3_code (1 : Nat) (Option.some Jvm.ClassFile.FieldType.int), Jvm.Cond.code ({ cls := "java/lang/String", name := "valueOf", desc := "(C)Ljava/lang/String;" } : Jvm.MethodName) jdk_42_method_139_code (1 : Nat) (Option.some (Jvm.ClassFile.FieldType.object "java/lang/String")), Jvm.Cond.code ({ cls := "java/lang/StringLatin1", name := "canEncode", desc := "(C)Z" } : Jvm.MethodName) jdk_43_method_3_code (1 : Nat) (Option.some Jvm.ClassFile.FieldType.boolean), Jvm.Cond.code ({ cls := "java/lang/StringLatin1", name := "toBytes", desc := "(C)[B" } : Jvm.MethodName) jdk_43_method_46_code (1 : Nat) (Option.some (Jvm.ClassFile.FieldType.array Jvm.ClassFile.FieldType.byte)), Jvm.Cond.code ({ cls := "java/lang/String", name := "<init>", desc := "([BB)V" } : Jvm.MethodName) jdk_42_method_151_code (3 : Nat) (Option.none : Option Jvm.ClassFile.FieldType)]
set_option maxRecDepth 65536 in
theorem codes_eq : words1.filter isCode = codes1 := rfl
theorem w_codes : ∀ c ∈ words1.filter isCode, c.before args0 about1 = true := by
  rw [codes_eq]
  intro c hc
  simp only [codes1, List.mem_cons, List.not_mem_nil, or_false] at hc
  rcases hc with rfl | rfl | rfl | rfl | rfl | rfl | rfl | rfl | rfl | rfl | rfl | rfl | rfl | rfl | rfl | rfl | rfl | rfl | rfl | rfl | rfl | rfl | rfl
  · exact w_c0
  · exact w_c1
  · exact w_c2
  · exact w_c3
  · exact w_c4
  · exact w_c5
  · exact w_c6
  · exact w_c7
  · exact w_c8
  · exact w_c9
  · exact w_c10
  · exact w_c11
  · exact w_c12
  · exact w_c13
  · exact w_c14
  · exact w_c15
  · exact w_c16
  · exact w_c17
  · exact w_c18
  · exact w_c19
  · exact w_c20
  · exact w_c21
  · exact w_c22
set_option maxRecDepth 65536 in
theorem w_t1 : (words1.take 24).all (fun c => isCode c || c.before args0 about1) = true := by decide +kernel
set_option maxRecDepth 65536 in
theorem w_t2 : ((words1.drop 24).take 24).all (fun c => isCode c || c.before args0 about1) = true := by decide +kernel
set_option maxRecDepth 65536 in
theorem w_t3 : (((words1.drop 24).drop 24).take 24).all (fun c => isCode c || c.before args0 about1) = true := by decide +kernel
set_option maxRecDepth 65536 in
theorem w_t4 : ((((words1.drop 24).drop 24).drop 24).take 24).all (fun c => isCode c || c.before args0 about1) = true := by decide +kernel
set_option maxRecDepth 65536 in
theorem w_t5 : (((((words1.drop 24).drop 24).drop 24).drop 24).take 24).all (fun c => isCode c || c.before args0 about1) = true := by decide +kernel
set_option maxRecDepth 65536 in
theorem w_t6 : (((((words1.drop 24).drop 24).drop 24).drop 24).drop 24).all (fun c => isCode c || c.before args0 about1) = true := by decide +kernel
theorem w_tables : (allAtoms (Jvm.Cond.code x code maxLocals ret :: tables_1)).before args0 about1 = true := by
  rw [allAtoms_all]
  show words1.all (fun c => c.before args0 about1) = true
  refine all_split ?_ w_codes
  rw [← List.take_append_drop 24 words1, List.all_append, w_t1, ← List.take_append_drop 24 (words1.drop 24), List.all_append, w_t2, ← List.take_append_drop 24 ((words1.drop 24).drop 24), List.all_append, w_t3, ← List.take_append_drop 24 (((words1.drop 24).drop 24).drop 24), List.all_append, w_t4, ← List.take_append_drop 24 ((((words1.drop 24).drop 24).drop 24).drop 24), List.all_append, w_t5, w_t6]
  rfl
set_option maxRecDepth 65536 in
theorem w_rest : rest_1_c.before args0 about1 = true := by decide +kernel
set_option maxRecDepth 65536 in
theorem w_case : (Jvm.Cond.and given_1 narrow_1).before args0 about1 = true := by decide +kernel
set_option maxRecDepth 65536 in
theorem w_consts : constsHeld consts_1 about1 := Jvm.Lit.constsHeldB_iff.mp (by decide +kernel)
theorem w_applies : (headSpec (Jvm.Cond.code x code maxLocals ret :: tables_1) room_1).applies x e0.platform about1 = true :=
  (Spec.applies_iff w_frames).mpr ⟨w_running, w_runnable, w_alone, w_named, w_hears, w_ripe, w_room, w_tables⟩
theorem atStart : AtStart classFile x code maxLocals ret World_1 tables_1 room_1 Calls_1 rest_1 Pre_1 launch0 p0 e0 about1 theMethod args0 below0 :=
  ⟨lists_1, trivial, launch0.admits_env _ _ _, launch0.least_env, fairChoices_fair.cas, fairChoices_fair.clock, w_frames, w_args, w_heap, w_applies, ⟨w_consts, trivial⟩, w_rest, w_case⟩
end start1
theorem witness_1 : WitnessClaimed_1 := ⟨start1.p0, start1.e0, start1.about1, start1.theMethod, start1.args0, start1.below0, start1.atStart⟩
end Jvm.Pilot.@@N@@
