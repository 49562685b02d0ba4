import JvmDerived
import JvmDerived.Pilot.@@N@@Statement
import JvmDerived.Pilot.@@N@@Code
set_option linter.unusedVariables false
set_option linter.unusedSimpArgs false
namespace Jvm.Pilot.@@N@@
open Jvm Jvm.ClassFile Sem Op Lib Jvm.Free Jvm.Stand Jvm.LawKit Jvm.RoadKit Bundle Jvm.Pilot.@@N@@.Jvm.D
section Own
variable {p : Program} {l : Launch} {e : Env} {R : Room} {s : State} {m : MethodId} {args : Array Value} {below : List Frame} {meth : Method} {c : Code} {T T' : State} {locs : List Loc} {cells slots : Nat} {F : State → Outcome → Prop} {g g' : JFrame} {Z : State} {a0 : Array Value} {h h0 : Heap}
/-- the run from T with g on top ends, and F holds of its end -/
def own_G (p : Program) (e : Env) (below : List Frame) (F : State → Outcome → Prop) (T : State) (g : JFrame) : Prop := ∃ t o, Steps p.tables e below (T.setTop g) t ∧ t.status = .running ∧ Ended t below o ∧ F t o
theorem own_st (h : ∀ t, Steps p.tables e below (T'.setTop g') t → Steps p.tables e below (T.setTop g) t) (k : own_G p e below F T' g') : own_G p e below F T g := by
  obtain ⟨t, o, h1, h2⟩ := k
  exact ⟨t, o, h t h1, h2⟩
theorem own_tr (h : Steps p.tables e below (T.setTop g) (T'.setTop g')) (k : own_G p e below F T' g') : own_G p e below F T g := own_st (fun _ q => h.trans q) k
def own_F (Q : Option Value → Heap → List Loc → Prop) (s : State) (k n : Nat) (t : State) (o : Outcome) : Prop := ∃ v L, o = .returned v ∧ Q v t.heap L ∧ FrameEnd s o t L k n
theorem own_ret {Q : Option Value → Heap → List Loc → Prop} {k n : Nat} {v : Option Value} (X : Stand p l e R s m args below meth c T locs cells slots) (hlk : meth.locks = false) (hv : meth.sig.returnType = none → v = none) (hq : Q v T.heap locs) (h1 : cells ≤ k) (h2 : slots ≤ n)
    (hs : ∀ fs, (∀ (f : JFrame) (acts : List Action), f.method = m → f.locked = none → f.entered = [] → (doReturn e (T.setTop f) acts v).1 = T.setFrames fs) → Steps p.tables e below (T.setTop g) (T.setFrames fs)) : own_G p e below (own_F Q s k n) T g := by
  obtain ⟨fs, hr, hrun, hended, hW, hsame⟩ := X.leave (v := v) hv hlk
  exact ⟨_, _, hs fs hr, hrun, hended, v, locs, rfl, hq, ⟨_, rfl⟩, hW, hsame.mono h1 h2⟩
theorem own_retI {Q : Option Value → Heap → List Loc → Prop} {k n pc : Nat} {Ls : Array Slot} {z : Int32} {rest : List Value} (X : Stand p l e R s m args below meth c T locs cells slots) (hx : p.tables.exec = Jvm.exec) (hlk : meth.locks = false) (hret : meth.sig.returnType = some .int) (hd : decode c.code pc = .ok (.ireturn, 1)) (h1 : cells ≤ k) (h2 : slots ≤ n) (hq : Q (some (.int z)) T.heap locs) :
    own_G p e below (own_F Q s k n) T (mkF m pc Ls (.int z :: rest)) :=
  own_ret X hlk (fun q => by rw [hret] at q; cases q) hq h1 h2 fun fs hr => retOut X hx hret rfl (Or.inl ⟨rfl, Or.inl rfl, _, rfl⟩) hd hr
theorem own_retB {Q : Option Value → Heap → List Loc → Prop} {k n pc : Nat} {Ls : Array Slot} {z w : Int32} {rest : List Value} (X : Stand p l e R s m args below meth c T locs cells slots) (hx : p.tables.exec = Jvm.exec) (hlk : meth.locks = false) (hret : meth.sig.returnType = some .boolean) (hd : decode c.code pc = .ok (.ireturn, 1)) (h1 : cells ≤ k) (h2 : slots ≤ n) (hz : nar .boolean z = w) (hq : Q (some (.int w)) T.heap locs) :
    own_G p e below (own_F Q s k n) T (mkF m pc Ls (.int z :: rest)) := by
  subst hz
  exact own_ret X hlk (fun q => by rw [hret] at q; cases q) hq h1 h2 fun fs hr => retN X hx (t := .boolean) hret (by simp) hd hr
theorem own_retR {Q : Option Value → Heap → List Loc → Prop} {k n pc : Nat} {Ls : Array Slot} {w : Value} {C : String} {rest : List Value} (X : Stand p l e R s m args below meth c T locs cells slots) (hx : p.tables.exec = Jvm.exec) (hlk : meth.locks = false) (hret : meth.sig.returnType = some (.object C)) (hd : decode c.code pc = .ok (.areturn, 1)) (h1 : cells ≤ k) (h2 : slots ≤ n) (hw : w.isRef = true) (hq : Q (some w) T.heap locs) :
    own_G p e below (own_F Q s k n) T (mkF m pc Ls (w :: rest)) :=
  own_ret X hlk (fun q => by rw [hret] at q; cases q) hq h1 h2 fun fs hr => retOut X hx hret rfl (Or.inr (Or.inr (Or.inr (Or.inr ⟨rfl, rfl, hw⟩)))) hd hr
theorem own_retA {Q : Option Value → Heap → List Loc → Prop} {k n pc : Nat} {Ls : Array Slot} {w : Value} {ty : FieldType} {rest : List Value} (X : Stand p l e R s m args below meth c T locs cells slots) (hx : p.tables.exec = Jvm.exec) (hlk : meth.locks = false) (hret : meth.sig.returnType = some (.array ty)) (hd : decode c.code pc = .ok (.areturn, 1)) (h1 : cells ≤ k) (h2 : slots ≤ n) (hw : w.isRef = true) (hq : Q (some w) T.heap locs) :
    own_G p e below (own_F Q s k n) T (mkF m pc Ls (w :: rest)) :=
  own_ret X hlk (fun q => by rw [hret] at q; cases q) hq h1 h2 fun fs hr => retOut X hx hret rfl (Or.inr (Or.inr (Or.inr (Or.inr ⟨rfl, rfl, hw⟩)))) hd hr
theorem own_retJ {Q : Option Value → Heap → List Loc → Prop} {k n pc : Nat} {Ls : Array Slot} {z : Int64} {rest : List Value} (X : Stand p l e R s m args below meth c T locs cells slots) (hx : p.tables.exec = Jvm.exec) (hlk : meth.locks = false) (hret : meth.sig.returnType = some .long) (hd : decode c.code pc = .ok (.lreturn, 1)) (h1 : cells ≤ k) (h2 : slots ≤ n) (hq : Q (some (.long z)) T.heap locs) :
    own_G p e below (own_F Q s k n) T (mkF m pc Ls (.long z :: rest)) :=
  own_ret X hlk (fun q => by rw [hret] at q; cases q) hq h1 h2 fun fs hr => retOut X hx hret rfl (Or.inr (Or.inl ⟨rfl, rfl, _, rfl⟩)) hd hr
theorem own_retV {Q : Option Value → Heap → List Loc → Prop} {k n pc : Nat} {Ls : Array Slot} (X : Stand p l e R s m args below meth c T locs cells slots) (hx : p.tables.exec = Jvm.exec) (hlk : meth.locks = false) (hret : meth.sig.returnType = none) (hd : decode c.code pc = .ok (.return_, 1)) (h1 : cells ≤ k) (h2 : slots ≤ n) (hq : Q none T.heap locs) :
    own_G p e below (own_F Q s k n) T (mkF m pc Ls []) :=
  own_ret X hlk (fun _ => rfl) hq h1 h2 fun fs hr => X.returnOut hx hret hd hr
/-- what a body promises at the heap h0 -/
abbrev own_C (l : Launch) (Z : State) (y : MethodName) (bytes : ByteArray) (ml : Nat) (rt : Option FieldType) (ws : List Jvm.Cond) (rm : Room) (as' : Array Value) (h0 : Heap) (Q : Option Value → Heap → List Loc → Prop) : Prop :=
  MetFree l y (head1 (Jvm.Cond.code y bytes ml rt :: ws) rm) (fun a U => a = as' ∧ Z.Warmed39 U.vm ∧ U.heap = h0) (fun _ _ _ _ _ => True) (fun _ U o U' => ∃ v L, o = .returned v ∧ Q v U'.heap L ∧ FrameEnd U o U' L rm.cells rm.slots)
theorem own_body {y : MethodName} {bytes : ByteArray} {ml : Nat} {rt : Option FieldType} {ws : List Jvm.Cond} {rm : Room} {as' : Array Value} {Q : Option Value → Heap → List Loc → Prop} (pn : plainFor y = true) {f0 : MethodId → JFrame} (hef : ∀ m, entryFrame m as' ml = f0 m)
    (body : ∀ (p : Program) (e : Env) (s : State) (m : MethodId) (below : List Frame) (meth : Method) (c : Code) (s₁ : State), p.tables.exec = Jvm.exec → c.code = bytes → c.maxLocals = ml → s.vm.findClass y.cls = some m.cls → meth.name = y.name → meth.sig.returnType = rt → meth.locks = false → Z.Warmed39 s.vm → Stand p l e rm s m as' below meth c s₁ [] 0 0 → s₁.heap = h0 →
      own_G p e below (own_F Q s rm.cells rm.slots) s₁ (f0 m)) : own_C l Z y bytes ml rt ws rm as' h0 Q := by
  refine MetFree.of_bodySF pn hisR ?_
  intro p e s m args below meth c s₁ Bd hml0 hP hK
  obtain ⟨rfl, hZ, hh⟩ := hP
  have e0 : s₁.heap = h0 := by rw [← hh, Bd.state]; rfl
  have hnm := (name_of_methodNamed Bd.named Bd.method).1
  have q := body p e s m below meth c s₁ Bd.exec Bd.bytes hml0 (findClass_of_methodNamed Bd.named) hnm Bd.returns Bd.notSynchronized hZ (Stand.of_body Bd) e0
  rw [← hef m] at q
  exact q
theorem own_callS {own : String} {index : Nat} {y : MethodName} {bytes : ByteArray} {ml : Nat} {rt : Option FieldType} {rm : Room} {Q : Option Value → Heap → List Loc → Prop} {argsL : List Value} (W : Nat) (rest : List Value)
    (C : own_C l Z y bytes ml rt [] rm argsL.toArray h Q) (X : Stand p l e R s m args below meth c T locs cells slots) (hx : p.tables.exec = Jvm.exec) (hZ : Z.Warmed39 s.vm) (hown : s.vm.findClass own = some m.cls)
    (w1 : (Jvm.Cond.methodLink own index y).before a0 Z = true) (w2 : (Jvm.Cond.static y).before a0 Z = true) (w3 : (Jvm.Cond.initialized y.cls).before a0 Z = true) (w4 : (Jvm.Cond.code y bytes ml rt).before a0 Z = true) (hy : y.cls ≠ "java/lang/invoke/MethodHandle" ∧ y.cls ≠ "java/lang/invoke/VarHandle")
    (hf : rm.frames + 1 ≤ R.frames) (hlo : W + (ml + 11) + rm.locals ≤ R.locals) (hc : cells + rm.cells ≤ R.cells) (hsl : slots + rm.slots ≤ R.slots) (eT : T.heap = h)
    (hg : g.method = m) (hsize : g.locals.size = c.maxLocals) (hlen : ∀ sig, parseMethodDescriptor y.desc = some sig → argsL.length = sig.parameters.length) (hstack : g.stack = argsL.reverse ++ rest) (hW : 2 * g.monitorRoom + (rest.map fun v => v.category).sum ≤ W)
    (hd : decode c.code g.pc = .ok (.invokestatic index, 3)) :
    ∃ v T' L, Q v T'.heap L ∧ Stand p l e R s m args below meth c T' (locs ++ L) (cells + rm.cells) (slots + rm.slots) ∧ ∀ t, Steps p.tables e below (T'.setTop { g with pc := g.pc + 3, stack := v.toList ++ rest }) t → Steps p.tables e below (T.setTop g) t := by
  obtain ⟨v, _, ⟨T4, L4, k4, n4⟩, -, X4, ⟨Lc4, hQ4, l4, y4, z4⟩, st4⟩ := Jvm.LawKit.callS X hx (y := y) hown (mvT hZ w1) (mvT hZ w2) (mvT hZ w3) (mvT hZ w4) hy (backOf (W := W) C hZ w4 w3 hf hlo) hg hsize hlen hstack hW hd (fun _ _ => ⟨rfl, eT, hc, hsl⟩)
  dsimp only [Pt.U, Pt.locs, Pt.cells, Pt.slots] at X4 l4 y4 z4 st4 hQ4
  subst l4 y4 z4
  exact ⟨v, T4, Lc4, hQ4, X4, st4⟩
theorem own_callV {own : String} {index : Nat} {y z : MethodName} {bytes : ByteArray} {ml : Nat} {rt : Option FieldType} {rm : Room} {Q : Option Value → Heap → List Loc → Prop} {b : Addr} {argsL : List Value} (W : Nat) (rest : List Value) {K : String}
    (C : own_C l Z z bytes ml rt [] rm (.ref b :: argsL).toArray h Q) (X : Stand p l e R s m args below meth c T locs cells slots) (hx : p.tables.exec = Jvm.exec) (hZ : Z.Warmed39 s.vm) (hown : s.vm.findClass own = some m.cls)
    (w1 : (Jvm.Cond.methodLink own index y).before a0 Z = true) (w2 : (Jvm.Cond.declares y).before a0 Z = true) (hnf : NotFace s y) (w3 : (Jvm.Cond.selects K y z).before a0 Z = true) (w5 : (Jvm.Cond.instanceMethod z).before a0 Z = true) (w4 : (Jvm.Cond.code z bytes ml rt).before a0 Z = true) (w6 : (Jvm.Cond.initialized z.cls).before a0 Z = true) (hy : y.cls ≠ "java/lang/invoke/MethodHandle" ∧ y.cls ≠ "java/lang/invoke/VarHandle")
    (hf : rm.frames + 1 ≤ R.frames) (hlo : W + (ml + 11) + rm.locals ≤ R.locals) (hc : cells + rm.cells ≤ R.cells) (hsl : slots + rm.slots ≤ R.slots) (eT : T.heap = h) (E : Exa Z h b K)
    (hg : g.method = m) (hsize : g.locals.size = c.maxLocals) (hlen : ∀ sig, parseMethodDescriptor y.desc = some sig → argsL.length = sig.parameters.length) (hstack : g.stack = argsL.reverse ++ .ref b :: rest) (hW : 2 * g.monitorRoom + (rest.map fun v => v.category).sum ≤ W)
    (hd : decode c.code g.pc = .ok (.invokevirtual index, 3)) :
    ∃ v T' L, Q v T'.heap L ∧ Stand p l e R s m args below meth c T' (locs ++ L) (cells + rm.cells) (slots + rm.slots) ∧ ∀ t, Steps p.tables e below (T'.setTop { g with pc := g.pc + 3, stack := v.toList ++ rest }) t → Steps p.tables e below (T.setTop g) t := by
  obtain ⟨cq4, kq4, q4a, q4b, q4c⟩ := isOf hZ eT E
  obtain ⟨v, _, ⟨T4, L4, k4, n4⟩, -, X4, ⟨Lc4, hQ4, l4, y4, z4⟩, st4⟩ := X.virtualBack hx (y := y) (z := z) hown (mvT hZ w1) (mvT hZ w2) hnf (mvT hZ w3) (mvT hZ w5) hy (backOf (W := W) C hZ w4 w6 hf hlo) q4a q4c hg hsize (Steps.refl _) hlen hstack hW hd (fun _ _ => ⟨rfl, eT, hc, hsl⟩)
  dsimp only [Pt.U, Pt.locs, Pt.cells, Pt.slots] at X4 l4 y4 z4 st4 hQ4
  subst l4 y4 z4
  exact ⟨v, T4, Lc4, hQ4, X4, fun t k => st4.trans k⟩
theorem own_callI {own : String} {index : Nat} {y : MethodName} {bytes : ByteArray} {ml : Nat} {rm : Room} {Q : Option Value → Heap → List Loc → Prop} {b : Addr} {argsL : List Value} (W : Nat) (rest : List Value)
    (C : own_C l Z y bytes ml none [] rm (.ref b :: argsL).toArray h Q) (X : Stand p l e R s m args below meth c T locs cells slots) (hx : p.tables.exec = Jvm.exec) (hZ : Z.Warmed39 s.vm) (hown : s.vm.findClass own = some m.cls) (hy1 : y.name = "<init>")
    (w1 : (Jvm.Cond.methodLink own index y).before a0 Z = true) (w5 : (Jvm.Cond.instanceMethod y).before a0 Z = true) (w4 : (Jvm.Cond.code y bytes ml none).before a0 Z = true) (w6 : (Jvm.Cond.initialized y.cls).before a0 Z = true) (hy : y.cls ≠ "java/lang/invoke/MethodHandle" ∧ y.cls ≠ "java/lang/invoke/VarHandle")
    (hf : rm.frames + 1 ≤ R.frames) (hlo : W + (ml + 11) + rm.locals ≤ R.locals) (hc : cells + rm.cells ≤ R.cells) (hsl : slots + rm.slots ≤ R.slots) (eT : T.heap = h)
    (hg : g.method = m) (hsize : g.locals.size = c.maxLocals) (hlen : ∀ sig, parseMethodDescriptor y.desc = some sig → argsL.length = sig.parameters.length) (hstack : g.stack = argsL.reverse ++ .ref b :: rest) (hW : 2 * g.monitorRoom + (rest.map fun v => v.category).sum ≤ W)
    (hd : decode c.code g.pc = .ok (.invokespecial index, 3)) :
    ∃ v T' L, Q v T'.heap L ∧ Stand p l e R s m args below meth c T' (locs ++ L) (cells + rm.cells) (slots + rm.slots) ∧ ∀ t, Steps p.tables e below (T'.setTop { g with pc := g.pc + 3, stack := v.toList ++ rest }) t → Steps p.tables e below (T.setTop g) t := by
  obtain ⟨v, _, ⟨T4, L4, k4, n4⟩, -, X4, ⟨Lc4, hQ4, l4, y4, z4⟩, st4⟩ := X.specialBack hx (y := y) hy1 hown (mvT hZ w1) (mvT hZ w5) (mvT hZ w4) hy (backOf (W := W) C hZ w4 w6 hf hlo) hg hsize (Steps.refl _) (a := b) hlen hstack hW hd (fun _ _ => ⟨rfl, eT, hc, hsl⟩)
  dsimp only [Pt.U, Pt.locs, Pt.cells, Pt.slots] at X4 l4 y4 z4 st4 hQ4
  subst l4 y4 z4
  exact ⟨v, T4, Lc4, hQ4, X4, fun t k => st4.trans k⟩
theorem own_sta {C n d K : String} {args : Array Value} (hx : (Jvm.Cond.exactly (Term.static C n d) K).value args Z none Z [] = some true) (hi : (Jvm.Cond.initialized C).before args Z = true) (hl : (Jvm.Cond.laysStatic C n d).before args Z = true) :
    ∃ a, (Term.static C n d).eval args Z none [] Z = some (.ref a) ∧ Sta Z Z.heap C n d (.ref a) ∧ Exa Z Z.heap a K := by
  obtain ⟨a', c', cell, k, e1, -⟩ := Cond.exactly_spec (Cond.before_iff.mpr hx)
  exact ⟨a', e1, Sta.start e1 (Or.inr ⟨hi, hl⟩), Exa.start e1 hx⟩
theorem own_fld {args : Array Value} {t : Term} {a : Addr} {C n d : String} {z : Int32} (ev : t.eval args Z none [] Z = some (.ref a)) (hx : (Jvm.Cond.eq (Term.field t C n d) (Term.int z)).value args Z none Z [] = some true) : Fld Z Z.heap a C n d (.int z) := by
  apply Fld.start
  cases hf : Z.fieldOf? a C n d with
  | none => simp [Cond.value, Term.eval, ev, hf] at hx
  | some v => cases v <;> simp [Cond.value, Term.eval, ev, hf] at hx ⊢; exact hx
/-- a body that writes nothing: it returns r -/
def own_P (r : Value) (h0 : Heap) (v : Option Value) (h : Heap) (L : List Loc) : Prop := v = some r ∧ h = h0 ∧ L = []
theorem own_ite {q : Prop} [Decidable q] {x y : Addr} {K : String} (h1 : Exa Z h x K) (h2 : Exa Z h y K) : Exa Z h (if q then x else y) K := by split <;> assumption
theorem own_or {q : Prop} [Decidable q] {r x y : α} (h : r = if q then x else y) : r = x ∨ r = y := by rw [h]; split <;> simp
theorem own_bit (x : Int32) : x &&& 1 = 0 ∨ x &&& 1 = 1 := by
  have h1 : (x &&& 1).toBitVec = x.toBitVec &&& 1#32 := rfl
  have h2 : (x.toBitVec &&& 1#32).toNat = x.toBitVec.toNat % 2 := by rw [BitVec.toNat_and]; exact Nat.and_two_pow_sub_one_eq_mod _ 1
  rcases Nat.mod_two_eq_zero_or_one x.toBitVec.toNat with h | h
  · left; apply Int32.toBitVec_inj.mp; apply BitVec.eq_of_toNat_eq; rw [h1, h2, h]; rfl
  · right; apply Int32.toBitVec_inj.mp; apply BitVec.eq_of_toNat_eq; rw [h1, h2, h]; rfl
theorem own_plain {a : Addr} {C : String} (E : Exa Z h a C) : ∀ cell : Cell, h[a]? = some cell → cell.vm.isStatics = false := fun cell hc => by
  obtain ⟨c1, _, h1, -, -, h4, -⟩ := E
  cases h1.symm.trans hc; exact h4
theorem own_sta_keep {h' : Heap} {ws : List Addr} {C n d : String} {v : Value} (F : Sta Z h C n d v) (K : Keep h h' ws) (q : ∀ x ∈ ws, ∀ cell : Cell, h'[x]? = some cell → cell.vm.isStatics = false) : Sta Z h' C n d v := by
  obtain ⟨cf, i, k, f, st, cell, h1, h2, h3, h4, h5, h6, h7⟩ := F
  refine ⟨cf, i, k, f, st, cell, h1, h2, h3, h4, K.2.1 st cell h5 (fun m => ?_), h6, h7⟩
  obtain ⟨c', e1, -, e3, -⟩ := K.2.2 st cell h5
  have := q st m c' e1
  rw [e3, h6] at this; cases this
theorem own_ext {h' : Heap} (K : Keep h h' []) : Ext h h' := ⟨K.1, fun a c q => K.2.1 a c q nin0⟩
theorem own_keep {h' : Heap} (E : Ext h h') : Keep h h' [] := (Keep.refl h []).ext E
/-- a body that returns nothing and writes nothing -/
def own_V (h0 : Heap) (v : Option Value) (h : Heap) (L : List Loc) : Prop := v = none ∧ h = h0 ∧ L = []
theorem own_nar {z : Int32} (h : z = 0 ∨ z = 1) : nar .boolean z = z := by rcases h with rfl | rfl <;> rfl
theorem own_01 {q : Prop} [Decidable q] {x y : Int32} (h1 : x = 0 ∨ x = 1) (h2 : y = 0 ∨ y = 1) : (if q then x else y) = 0 ∨ (if q then x else y) = 1 := by split <;> assumption
end Own
section OwnArv
variable {p : Program} {l : Launch} {e : Env} {R : Room} {s : State} {m : MethodId} {args : Array Value} {below : List Frame} {meth : Method} {c : Code} {T : State} {locs : List Loc} {cells slots : Nat} {Z : State} {a0 : Array Value} {h h' : Heap} {g : JFrame}
theorem own_alen {a : Addr} {k : ClassId} {ty : FieldType} {z : Int32} {vs : List Value} {dv : Value} (A : Arv Z h a k ty z vs dv) (X : Stand p l e R s m args below meth c T locs cells slots) (hx : p.tables.exec = Jvm.exec) (hZ : Z.Warmed39 s.vm) (eT : T.heap = h) (hg : g.method = m) {rest : List Value} (hs : g.stack = .ref a :: rest) (hd : decode c.code g.pc = .ok (.arraylength, 1)) :
    ∀ t, Steps p.tables e below (T.setTop { g with pc := g.pc + 1, stack := .int z :: rest }) t → Steps p.tables e below (T.setTop g) t := by
  obtain ⟨cl, Ar, -, S, N, -, -⟩ := A
  intro t k
  refine X.arraylength hx (by rw [eT]; exact Ar.1) (State.isArrayOf_alike hZ.alike Ar.2.1) hg hs hd t ?_
  rw [len_of S N]; exact k
end OwnArv
section OwnW
variable {p : Program} {l : Launch} {e : Env} {R : Room} {s : State} {m : MethodId} {args : Array Value} {below : List Frame} {meth : Method} {c : Code} {T T' : State} {locs : List Loc} {cells slots : Nat} {F : State → Outcome → Prop} {g g' : JFrame} {Z : State} {a0 : Array Value} {h h0 h' : Heap}
theorem own_callP {own : String} {index : Nat} {y : MethodName} {bytes : ByteArray} {ml : Nat} {rt : Option FieldType} {rm : Room} {Q : Option Value → Heap → List Loc → Prop} {b : Addr} {argsL : List Value} (W : Nat) (rest : List Value) {K : String}
    (C : own_C l Z y bytes ml rt [] rm (.ref b :: argsL).toArray h Q) (X : Stand p l e R s m args below meth c T locs cells slots) (hx : p.tables.exec = Jvm.exec) (hZ : Z.Warmed39 s.vm) (hown : s.vm.findClass own = some m.cls)
    (w1 : (Jvm.Cond.methodLink own index y).before a0 Z = true) (w5 : (Jvm.Cond.instanceMethod y).before a0 Z = true) (w3 : (Jvm.Cond.selects y.cls y y).before a0 Z = true) (w7 : (Jvm.Cond.privateMethod y).before a0 Z = true) (w4 : (Jvm.Cond.code y bytes ml rt).before a0 Z = true) (w6 : (Jvm.Cond.initialized y.cls).before a0 Z = true) (hy : y.cls ≠ "java/lang/invoke/MethodHandle" ∧ y.cls ≠ "java/lang/invoke/VarHandle")
    (hf : rm.frames + 1 ≤ R.frames) (hlo : W + (ml + 11) + rm.locals ≤ R.locals) (hc : cells + rm.cells ≤ R.cells) (hsl : slots + rm.slots ≤ R.slots) (eT : T.heap = h) (E : Exa Z h b K)
    (hg : g.method = m) (hsize : g.locals.size = c.maxLocals) (hlen : ∀ sig, parseMethodDescriptor y.desc = some sig → argsL.length = sig.parameters.length) (hstack : g.stack = argsL.reverse ++ .ref b :: rest) (hW : 2 * g.monitorRoom + (rest.map fun v => v.category).sum ≤ W)
    (hd : decode c.code g.pc = .ok (.invokevirtual index, 3)) :
    ∃ v T' L, Q v T'.heap L ∧ Stand p l e R s m args below meth c T' (locs ++ L) (cells + rm.cells) (slots + rm.slots) ∧ ∀ t, Steps p.tables e below (T'.setTop { g with pc := g.pc + 3, stack := v.toList ++ rest }) t → Steps p.tables e below (T.setTop g) t := by
  obtain ⟨cq, q1, q2⟩ := E.cell
  obtain ⟨v, _, ⟨T4, L4, k4, n4⟩, -, X4, ⟨Lc4, hQ4, l4, y4, z4⟩, st4⟩ := X.privateBack hx (y := y) hown (mvT hZ w1) (mvT hZ w5) (mvT hZ w3) (Cond.privateMethod_at (mvP hZ w7 (args := #[]))) (mvT hZ w4) hy (backOf (W := W) C hZ w4 w6 hf hlo) hg hsize (Steps.refl _) (a := b) (by rw [eT]; exact q1) q2 hlen hstack hW hd (fun _ _ => ⟨rfl, eT, hc, hsl⟩)
  dsimp only [Pt.U, Pt.locs, Pt.cells, Pt.slots] at X4 l4 y4 z4 st4 hQ4
  subst l4 y4 z4
  exact ⟨v, T4, Lc4, hQ4, X4, fun t k => st4.trans k⟩
theorem own_callF {own : String} {index count : Nat} {y z : MethodName} {bytes : ByteArray} {ml : Nat} {rt : Option FieldType} {rm : Room} {Q : Option Value → Heap → List Loc → Prop} {b : Addr} {argsL : List Value} (W : Nat) (rest : List Value) {K : String}
    (C : own_C l Z z bytes ml rt [] rm (.ref b :: argsL).toArray h Q) (X : Stand p l e R s m args below meth c T locs cells slots) (hx : p.tables.exec = Jvm.exec) (hZ : Z.Warmed39 s.vm) (hown : s.vm.findClass own = some m.cls)
    (w1 : (Jvm.Cond.methodLink own index y).before a0 Z = true) (w2 : (Jvm.Cond.declares y).before a0 Z = true) (w8 : (Jvm.Cond.interfaceMethod y.cls y.cls y.name y.desc).before args s = true) (w3 : (Jvm.Cond.selects K y z).before a0 Z = true) (w5 : (Jvm.Cond.instanceMethod z).before a0 Z = true) (w9 : (Jvm.Cond.publicMethod z).before a0 Z = true) (w10 : (Jvm.Cond.unhidden K y.name y.desc).before a0 Z = true) (w11 : (Jvm.Cond.castable K y.cls).before a0 Z = true) (w4 : (Jvm.Cond.code z bytes ml rt).before a0 Z = true) (w6 : (Jvm.Cond.initialized z.cls).before a0 Z = true) (hy : y.cls ≠ "java/lang/invoke/MethodHandle" ∧ y.cls ≠ "java/lang/invoke/VarHandle")
    (hf : rm.frames + 1 ≤ R.frames) (hlo : W + (ml + 11) + rm.locals ≤ R.locals) (hc : cells + rm.cells ≤ R.cells) (hsl : slots + rm.slots ≤ R.slots) (eT : T.heap = h) (E : Exa Z h b K)
    (hg : g.method = m) (hsize : g.locals.size = c.maxLocals) (hlen : ∀ sig, parseMethodDescriptor y.desc = some sig → argsL.length = sig.parameters.length) (hstack : g.stack = argsL.reverse ++ .ref b :: rest) (hW : 2 * g.monitorRoom + (rest.map fun v => v.category).sum ≤ W)
    (hd : decode c.code g.pc = .ok (.invokeinterface index count, 5)) :
    ∃ v T' L, Q v T'.heap L ∧ Stand p l e R s m args below meth c T' (locs ++ L) (cells + rm.cells) (slots + rm.slots) ∧ ∀ t, Steps p.tables e below (T'.setTop { g with pc := g.pc + 5, stack := v.toList ++ rest }) t → Steps p.tables e below (T.setTop g) t := by
  obtain ⟨cq4, kq4, q4a, q4b, q4c⟩ := isOf hZ eT E
  obtain ⟨v, _, ⟨T4, L4, k4, n4⟩, -, X4, ⟨Lc4, hQ4, l4, y4, z4⟩, st4⟩ := X.interfaceBack hx (xi := y) (y := z) hown (mvT hZ w1) (mvT hZ w2) w8 (mvT hZ w3) (mvT hZ w5) (mvT hZ w9) (mvT hZ w10) (mvT hZ w11) hy (backOf (W := W) C hZ w4 w6 hf hlo) q4a q4b q4c hg hsize (Steps.refl _) hlen hstack hW hd (fun _ _ => ⟨rfl, eT, hc, hsl⟩)
  dsimp only [Pt.U, Pt.locs, Pt.cells, Pt.slots] at X4 l4 y4 z4 st4 hQ4
  subst l4 y4 z4
  exact ⟨v, T4, Lc4, hQ4, X4, fun t k => st4.trans k⟩
/-- the end of a body that may have loaded String constants -/
def own_FW (Q : Option Value → Heap → List Loc → Prop) (s : State) (k n : Nat) (t : State) (o : Outcome) : Prop := ∃ v L, o = .returned v ∧ Q v t.heap L ∧ ReturnedEndW s o t L k n
theorem own_mono {s t : State} {o : Outcome} {L : List Loc} {k n k' n' : Nat} (h : ReturnedEndW s o t L k n) (h1 : k ≤ k') (h2 : n ≤ n') : ReturnedEndW s o t L k' n' := ⟨h.1, h.2.1, h.2.2.1, h.2.2.2.mono h1 h2⟩
theorem own_retBW {vm : Vm} {k0 : Nat} {Q : Option Value → Heap → List Loc → Prop} {k n pc : Nat} {Ls : Array Slot} {z w : Int32} {rest : List Value} (X : Stand p l e R (s.setVm vm) m args below meth c T locs cells slots) (hS : s.Since vm k0) (hk : k0 ≤ T.heap.size) (hx : p.tables.exec = Jvm.exec) (hlk : meth.locks = false) (hret : meth.sig.returnType = some .boolean) (hd : decode c.code pc = .ok (.ireturn, 1)) (h1 : cells ≤ k) (h2 : slots ≤ n) (hz : nar .boolean z = w) (hq : Q (some (.int w)) T.heap locs) :
    own_G p e below (own_FW Q s k n) T (mkF m pc Ls (.int z :: rest)) := by
  subst hz
  obtain ⟨fs, hr, hrun, hended, hE⟩ := X.leaveW hS hk (v := some (.int (nar .boolean z))) (fun q => by rw [hret] at q; cases q) hlk
  exact ⟨_, _, retN X hx (t := .boolean) hret (by simp) hd hr, hrun, hended, _, locs, rfl, hq, own_mono hE h1 h2⟩
theorem own_bodyW {y : MethodName} {bytes : ByteArray} {ml : Nat} {rt : Option FieldType} {ws : List Jvm.Cond} {rm : Room} {as' : Array Value} {Q : Option Value → Heap → List Loc → Prop} (pn : plainFor y = true) {f0 : MethodId → JFrame} (hef : ∀ m, entryFrame m as' ml = f0 m)
    (body : ∀ (p : Program) (e : Env) (s : State) (m : MethodId) (below : List Frame) (meth : Method) (c : Code) (s₁ : State), p.tables.exec = Jvm.exec → c.code = bytes → c.maxLocals = ml → s.vm.findClass y.cls = some m.cls → meth.name = y.name → meth.sig.returnType = rt → meth.locks = false → Z.Warmed39 s.vm → Stand p l e rm (s.setVm s.vm) m as' below meth c s₁ [] 0 0 → s₁.heap = h0 → s.Since s.vm 0 →
      own_G p e below (own_FW Q s rm.cells rm.slots) s₁ (f0 m)) :
    MetFree l y (head1 (Jvm.Cond.code y bytes ml rt :: ws) rm) (fun a U => a = as' ∧ Z.Warmed39 U.vm ∧ U.heap = h0) (fun _ _ _ _ _ => True) (fun _ U o U' => ∃ v L, o = .returned v ∧ Q v U'.heap L ∧ ReturnedEndW U o U' L rm.cells rm.slots) := by
  refine MetFree.of_bodySF pn hisR ?_
  intro p e s m args below meth c s₁ Bd hml0 hP hK
  obtain ⟨rfl, hZ, hh⟩ := hP
  have e0 : s₁.heap = h0 := by rw [← hh, Bd.state]; rfl
  have hnm := (name_of_methodNamed Bd.named Bd.method).1
  have X0 := Stand.of_body Bd
  have q := body p e s m below meth c s₁ Bd.exec Bd.bytes hml0 (findClass_of_methodNamed Bd.named) hnm Bd.returns Bd.notSynchronized hZ X0 e0 (State.WarmedH.since (State.WarmedH.refl s) 0)
  rw [← hef m] at q
  exact q
theorem own_narv {z : Int32} (h : z = 0 ∨ z = 1) : narrow .boolean (.int z) = .int z ∧ fits .boolean (.int z) = true := by rcases h with rfl | rfl <;> exact ⟨rfl, rfl⟩
/-- an array of longs by what it holds at each place -/
def own_ls (n : Nat) (P : Nat → Int64) : List Value := (List.range n).map fun i => Value.long (P i)
def own_up (P : Nat → Int64) (j : Nat) (x : Int64) : Nat → Int64 := fun i => if i = j then x else P i
theorem own_ls_get {n j : Nat} {P : Nat → Int64} {d : Value} (h : j < n) : (own_ls n P).getD j d = .long (P j) := by
  simp [own_ls, List.getD_eq_getElem?_getD, h]
theorem own_ls_set {n j : Nat} {P : Nat → Int64} {x : Int64} : (own_ls n P).set j (.long x) = own_ls n (own_up P j x) := by
  apply List.ext_getElem?
  intro i
  simp only [own_ls, own_up, List.getElem?_set, List.getElem?_map, List.length_map, List.length_range]
  by_cases hi : i < n
  · by_cases hj : j = i
    · subst hj; simp [hi]
    · simp [hi, hj, Ne.symm hj]
  · by_cases hj : j = i
    · subst hj; simp [hi]
    · simp [hi, hj]
theorem own_ls_len {n : Nat} {P : Nat → Int64} : (own_ls n P).length = n := by simp [own_ls]
theorem own_lt_nat {j z : Int32} (h : ¬ j < 0 ∧ j < z) : j.toNatClampNeg < z.toNatClampNeg := by
  obtain ⟨h1, h2⟩ := h
  rw [Int32.lt_iff_toInt_lt] at h1 h2
  have : (0 : Int32).toInt = 0 := rfl
  simp only [Int32.toNatClampNeg]; omega
/-- lastore at a place that is told by its bounds -/
theorem own_lst {a : Addr} {k : ClassId} {z j : Int32} {n : Nat} {P : Nat → Int64} {x : Int64} {d : Value} (A : Arv Z h a k .long z (own_ls n P) d) (hz : z.toNatClampNeg = n) (X : Stand p l e R s m args below meth c T locs cells slots) (hx : p.tables.exec = Jvm.exec) (hZ : Z.Warmed39 s.vm) (eT : T.heap = h) (hj : ¬ j < 0 ∧ j < z) (hg : g.method = m) {rest : List Value} (hs : g.stack = .long x :: .int j :: .ref a :: rest) (hd : decode c.code g.pc = .ok (.lastore, 1)) :
    ∃ T' h', Stand p l e R s m args below meth c T' (locs ++ [⟨a, j.toNatClampNeg⟩]) cells slots ∧ T'.heap = h' ∧ Wr h h' a j.toNatClampNeg (.long x) ∧ Arv Z h' a k .long z (own_ls n (own_up P j.toNatClampNeg x)) d ∧ ∀ t, Steps p.tables e below (T'.setTop { g with pc := g.pc + 1, stack := rest }) t → Steps p.tables e below (T.setTop g) t := by
  obtain ⟨cl, Ar, q, S, N, H, G⟩ := A
  have hin := inb_of S hj
  obtain ⟨T', h', X', e', W', st⟩ := stJ X hx hZ eT Ar hin hg hs hd
  refine ⟨T', h', X', e', W', ?_, st⟩
  rw [← own_ls_set]
  exact Arv.set Ar q S N H G rfl W' _ rfl (by rw [own_ls_len, ← hz]; exact own_lt_nat hj)
theorem own_lld {a : Addr} {k : ClassId} {z j : Int32} {n : Nat} {P : Nat → Int64} {d : Value} (A : Arv Z h a k .long z (own_ls n P) d) (hz : z.toNatClampNeg = n) (X : Stand p l e R s m args below meth c T locs cells slots) (hx : p.tables.exec = Jvm.exec) (hZ : Z.Warmed39 s.vm) (eT : T.heap = h) (hj : ¬ j < 0 ∧ j < z) (hg : g.method = m) {rest : List Value} (hs : g.stack = .int j :: .ref a :: rest) (hd : decode c.code g.pc = .ok (.laload, 1)) :
    ∀ t, Steps p.tables e below (T.setTop { g with pc := g.pc + 1, stack := .long (P j.toNatClampNeg) :: rest }) t → Steps p.tables e below (T.setTop g) t := by
  obtain ⟨cl, Ar, q, S, N, H, G⟩ := A
  have hin := inb_of S hj
  exact X.laload hx (by rw [eT]; exact Ar.1) (State.isArrayOf_alike hZ.alike Ar.2.1) Ar.2.2 hin (H.at hin (own_ls_get (by rw [← hz]; exact own_lt_nat hj))) hg hs hd
/-- aastore at a known place -/
theorem own_ast {a y : Addr} {k : ClassId} {z j : Int32} {vs : List Value} {C K : String} (A : Arv Z h a k (.object C) z vs .null) (O : Ovr Z k C) (E : Exa Z h y K) (wc : (Jvm.Cond.castable K C).before a0 Z = true) (X : Stand p l e R s m args below meth c T locs cells slots) (hx : p.tables.exec = Jvm.exec) (hZ : Z.Warmed39 s.vm) (eT : T.heap = h) (hj : ¬ j < 0 ∧ j < z) (hl : j.toNatClampNeg < vs.length) (hg : g.method = m) {rest : List Value} (hs : g.stack = .ref y :: .int j :: .ref a :: rest) (hd : decode c.code g.pc = .ok (.aastore, 1)) :
    ∃ T' h', Stand p l e R s m args below meth c T' (locs ++ [⟨a, j.toNatClampNeg⟩]) cells slots ∧ T'.heap = h' ∧ Wr h h' a j.toNatClampNeg (.ref y) ∧ Arv Z h' a k (.object C) z (vs.set j.toNatClampNeg (.ref y)) .null ∧ ∀ t, Steps p.tables e below (T'.setTop { g with pc := g.pc + 1, stack := rest }) t → Steps p.tables e below (T.setTop g) t := by
  obtain ⟨cl, Ar, q, S, N, H, G⟩ := A
  have hin := inb_of S hj
  obtain ⟨T', h', X', e', W', st⟩ := stR X hx hZ eT Ar hin rfl (Sto.ofV Ar q O (Ins.of_exa E wc)) hg hs hd
  exact ⟨T', h', X', e', W', Arv.set Ar q S N H G rfl W' _ rfl hl, st⟩
end OwnW

theorem own_wS {Z : State} {a0 : Array Value} (hw : ∀ d ∈ tables_1, d.before a0 Z = true) : ∀ a ∈ Bundle.stringAtoms, a.before a0 Z = true := by
  intro a ha
  simp only [Bundle.stringAtoms, Bundle.sN, List.mem_cons, List.not_mem_nil, or_false] at ha
  rcases ha with rfl | rfl | rfl | rfl | rfl | rfl | rfl
  · exact (hw _ (List.mem_of_getElem? (i := 35) rfl))
  · exact (hw _ (List.mem_of_getElem? (i := 36) rfl))
  · exact (hw _ (List.mem_of_getElem? (i := 37) rfl))
  · exact (hw _ (List.mem_of_getElem? (i := 38) rfl))
  · exact (hw _ (List.mem_of_getElem? (i := 39) rfl))
  · exact (hw _ (List.mem_of_getElem? (i := 40) rfl))
  · exact (hw _ (List.mem_of_getElem? (i := 41) rfl))
def own_max (a b : Int32) : Int32 := if a < b then b else a
def own_nlz (p : Int32) : Int32 :=
  if 0 < p then
    let i1 := if p < 65536 then p else (p.toUInt32 >>> ((16 : Int32) &&& 31).toUInt32).toInt32
    let n1 : Int32 := if p < 65536 then 31 else 15
    let i2 := if i1 < 256 then i1 else (i1.toUInt32 >>> ((8 : Int32) &&& 31).toUInt32).toInt32
    let n2 : Int32 := if i1 < 256 then n1 else n1 + (-8)
    let i3 := if i2 < 16 then i2 else (i2.toUInt32 >>> ((4 : Int32) &&& 31).toUInt32).toInt32
    let n3 : Int32 := if i2 < 16 then n2 else n2 + (-4)
    let i4 := if i3 < 4 then i3 else (i3.toUInt32 >>> ((2 : Int32) &&& 31).toUInt32).toInt32
    let n4 : Int32 := if i3 < 4 then n3 else n3 + (-2)
    n4 - (i4.toUInt32 >>> ((1 : Int32) &&& 31).toUInt32).toInt32
  else if p = 0 then 32 else 0
def own_hi (q : Int64) : Int32 := ((q.toUInt64 >>> ((32 : Int32) &&& 0x3f).toInt64.toUInt64).toInt64).toInt32
def own_nlzL (q : Int64) : Int32 := if own_hi q = 0 then 32 + own_nlz q.toInt32 else own_nlz (own_hi q)
def own_bits (z : Int32) (lo up : Int64) : Int32 := if z = 0 then 64 else if lcmpW (up - lo) 0 < 0 then 64 else own_max 1 (64 - own_nlzL (up - lo))
def own_qr (r : Value) (n0 : Nat) (v : Option Value) (h : Heap) (L : List Loc) : Prop := v = some r ∧ Fr n0 L
def own_alo (Z : State) (a : Addr) (m e n : Value) (h : Heap) : Prop := Exa Z h a "java/util/ArrayList" ∧ Fld Z h a "java/util/AbstractList" "modCount" "I" m ∧ Fld Z h a "java/util/ArrayList" "elementData" "[Ljava/lang/Object;" e ∧ Fld Z h a "java/util/ArrayList" "size" "I" n
def own_qal (Z : State) (a : Addr) (m e n : Value) (h0 : Heap) (n0 : Nat) (v : Option Value) (h : Heap) (L : List Loc) : Prop := v = none ∧ Fr n0 L ∧ Keep h0 h [a] ∧ own_alo Z a m e n h
def own_var (Z : State) (a : Addr) (z : Int32) (lo up : Int64) (h : Heap) : Prop := Exa Z h a "com/example/astraea/astraea/lang/Variable" ∧ Fld Z h a "com/example/astraea/astraea/lang/Variable" "bounded" "Z" (.int z) ∧ Fld Z h a "com/example/astraea/astraea/lang/Variable" "lower" "J" (.long lo) ∧ Fld Z h a "com/example/astraea/astraea/lang/Variable" "upper" "J" (.long up)
def own_qv (Z : State) (a : Addr) (z : Int32) (lo up : Int64) (h0 : Heap) (n0 : Nat) (v : Option Value) (h : Heap) (L : List Loc) : Prop := v = none ∧ Fr n0 L ∧ Keep h0 h [a] ∧ own_var Z a z lo up h
def own_qg (Z : State) (a : Addr) (m n : Value) (h0 : Heap) (n0 : Nat) (v : Option Value) (h : Heap) (L : List Loc) : Prop := ∃ b k, v = some (.ref b) ∧ Fr n0 L ∧ Old Z n0 h ∧ Keep h0 h [a] ∧ h0.size ≤ b ∧ own_alo Z a m (.ref b) n h ∧ Arv Z h b k (.object "java/lang/Object") 10 [.null, .null, .null, .null, .null, .null, .null, .null, .null, .null] .null ∧ Ovr Z k "java/lang/Object"
def own_qa0 (Z : State) (a e : Addr) (m : Value) (r : Option Value) (h0 : Heap) (n0 : Nat) (v : Option Value) (h : Heap) (L : List Loc) : Prop := v = r ∧ Fr n0 L ∧ Old Z n0 h ∧ Keep h0 h [a] ∧ ∃ b k, h0.size ≤ b ∧ own_alo Z a m (.ref b) (.int 1) h ∧ Arv Z h b k (.object "java/lang/Object") 10 [(.ref e), .null, .null, .null, .null, .null, .null, .null, .null, .null] .null ∧ Ovr Z k "java/lang/Object"
def own_qa1 (Z : State) (a arr : Addr) (k : ClassId) (x0 : Addr) (e : Addr) (m : Value) (r : Option Value) (h0 : Heap) (n0 : Nat) (v : Option Value) (h : Heap) (L : List Loc) : Prop := v = r ∧ Fr n0 L ∧ Keep h0 h [a, arr] ∧ own_alo Z a m (.ref arr) (.int 2) h ∧ Arv Z h arr k (.object "java/lang/Object") 10 [(.ref x0), (.ref e), .null, .null, .null, .null, .null, .null, .null, .null] .null
def own_qa2 (Z : State) (a arr : Addr) (k : ClassId) (x0 x1 : Addr) (e : Addr) (m : Value) (r : Option Value) (h0 : Heap) (n0 : Nat) (v : Option Value) (h : Heap) (L : List Loc) : Prop := v = r ∧ Fr n0 L ∧ Keep h0 h [a, arr] ∧ own_alo Z a m (.ref arr) (.int 3) h ∧ Arv Z h arr k (.object "java/lang/Object") 10 [(.ref x0), (.ref x1), (.ref e), .null, .null, .null, .null, .null, .null, .null] .null
theorem own_i64 : (64 : Int32).toInt = 64 := rfl
theorem own_64 {b : Int32} (h : 1 ≤ b.toInt ∧ b.toInt ≤ 64) : (64 : Int32) < (64 : Int32) + b := by
  have e : ((64 : Int32) + b).toInt = 64 + b.toInt := by rw [Int32.toInt_add, own_i64]; exact Int.bmod_eq_of_le (by omega) (by omega)
  rw [Int32.lt_iff_toInt_lt, e, own_i64]; omega
def own_sl (Z : State) (a : Addr) (w0 w1 w2 s0 s1 s2 : Int32) (m0 m1 m2 l0 l1 l2 : Int64) (u : Int32) (h : Heap) : Prop := Exa Z h a "com/example/astraea/astraea/explicit/StateLayout" ∧ Fld Z h a "com/example/astraea/astraea/explicit/StateLayout" "words" "I" (.int u) ∧ ∃ aw as_ am al kw ks km kl, Fld Z h a "com/example/astraea/astraea/explicit/StateLayout" "word" "[I" (.ref aw) ∧ Fld Z h a "com/example/astraea/astraea/explicit/StateLayout" "shift" "[I" (.ref as_) ∧ Fld Z h a "com/example/astraea/astraea/explicit/StateLayout" "mask" "[J" (.ref am) ∧ Fld Z h a "com/example/astraea/astraea/explicit/StateLayout" "lower" "[J" (.ref al) ∧ Arv Z h aw kw .int 3 [(.int w0), (.int w1), (.int w2)] (.int (0 : Int32)) ∧ Arv Z h as_ ks .int 3 [(.int s0), (.int s1), (.int s2)] (.int (0 : Int32)) ∧ Arv Z h am km .long 3 [(.long m0), (.long m1), (.long m2)] (.long (0 : Int64)) ∧ Arv Z h al kl .long 3 [(.long l0), (.long l1), (.long l2)] (.long (0 : Int64))
/-- a field of width b at the place s, its mask and the lower bound that is taken off -/
def own_fl (b : Int32) (lo : Int64) (s : Int32) (mk l : Int64) : Prop := (b = 64 ∧ s = 0 ∧ mk = -1 ∧ l = 0) ∨ (¬ b = 64 ∧ 0 ≤ s.toInt ∧ s.toInt + b.toInt ≤ 64 ∧ mk = (((1 : Int64) <<< (b &&& 0x3f).toInt64) - (1 : Int64)) ∧ l = lo)
def own_ap (b s w b' s' w' : Int32) : Prop := w = w' → s.toInt + b.toInt ≤ s'.toInt ∨ s'.toInt + b'.toInt ≤ s.toInt
def own_lay (b0 b1 b2 : Int32) (lo0 lo1 lo2 : Int64) (w0 w1 w2 s0 s1 s2 : Int32) (m0 m1 m2 l0 l1 l2 : Int64) (u : Int32) : Prop := own_fl b0 lo0 s0 m0 l0 ∧ own_fl b1 lo1 s1 m1 l1 ∧ own_fl b2 lo2 s2 m2 l2 ∧ own_ap b0 s0 w0 b1 s1 w1 ∧ own_ap b0 s0 w0 b2 s2 w2 ∧ own_ap b1 s1 w1 b2 s2 w2 ∧ 0 ≤ w0.toInt ∧ w0.toInt < u.toInt ∧ 0 ≤ w1.toInt ∧ w1.toInt < u.toInt ∧ 0 ≤ w2.toInt ∧ w2.toInt < u.toInt ∧ u.toInt ≤ 3
def own_qsl (Z : State) (a : Addr) (b0 b1 b2 : Int32) (lo0 lo1 lo2 : Int64) (h0 : Heap) (n0 : Nat) (v : Option Value) (h : Heap) (L : List Loc) : Prop := v = none ∧ Fr n0 L ∧ Keep h0 h [a] ∧ ∃ w0 w1 w2 s0 s1 s2 m0 m1 m2 l0 l1 l2 u, own_sl Z a w0 w1 w2 s0 s1 s2 m0 m1 m2 l0 l1 l2 u h ∧ own_lay b0 b1 b2 lo0 lo1 lo2 w0 w1 w2 s0 s1 s2 m0 m1 m2 l0 l1 l2 u ∧ (u = 2 ∨ u = 3)
theorem own_sum {a b : Int32} (ha : 1 ≤ a.toInt ∧ a.toInt ≤ 64) (hb : 1 ≤ b.toInt ∧ b.toInt ≤ 64) : (a + b).toInt = a.toInt + b.toInt := by
  rw [Int32.toInt_add]; exact Int.bmod_eq_of_le (by omega) (by omega)
theorem own_layA {b0 b1 b2 : Int32} {lo0 lo1 lo2 : Int64} (hr0 : 1 ≤ b0.toInt ∧ b0.toInt ≤ 64) (hr2 : 1 ≤ b2.toInt ∧ b2.toInt ≤ 64) (h0 : ¬ b0 = 64) (h1 : b1 = 64) (h2 : ¬ b2 = 64) :
    own_lay b0 b1 b2 lo0 lo1 lo2 0 1 2 0 0 0 (((1 : Int64) <<< (b0 &&& 0x3f).toInt64) - (1 : Int64)) (-1) (((1 : Int64) <<< (b2 &&& 0x3f).toInt64) - (1 : Int64)) lo0 0 lo2 3 := by
  have i0 : (0 : Int32).toInt = 0 := rfl
  refine ⟨Or.inr ⟨h0, by rw [i0]; decide, by rw [i0]; omega, rfl, rfl⟩, Or.inl ⟨h1, rfl, rfl, rfl⟩, Or.inr ⟨h2, by rw [i0]; decide, by rw [i0]; omega, rfl, rfl⟩, fun q => absurd q (by decide), fun q => absurd q (by decide), fun q => absurd q (by decide), by decide, by decide, by decide, by decide, by decide, by decide, by decide⟩
theorem own_layB {b0 b1 b2 : Int32} {lo0 lo1 lo2 : Int64} (hr0 : 1 ≤ b0.toInt ∧ b0.toInt ≤ 64) (hr2 : 1 ≤ b2.toInt ∧ b2.toInt ≤ 64) (h0 : ¬ b0 = 64) (h1 : b1 = 64) (h2 : ¬ b2 = 64) (hs : ¬ (64 : Int32) < ((0 : Int32) + b0) + b2) :
    own_lay b0 b1 b2 lo0 lo1 lo2 0 1 0 0 0 ((0 : Int32) + b0) (((1 : Int64) <<< (b0 &&& 0x3f).toInt64) - (1 : Int64)) (-1) (((1 : Int64) <<< (b2 &&& 0x3f).toInt64) - (1 : Int64)) lo0 0 lo2 2 := by
  have i0 : (0 : Int32).toInt = 0 := rfl
  rw [Int32.zero_add] at hs ⊢
  rw [Int32.lt_iff_toInt_lt, own_sum hr0 hr2, own_i64] at hs
  refine ⟨Or.inr ⟨h0, by rw [i0]; decide, by rw [i0]; omega, rfl, rfl⟩, Or.inl ⟨h1, rfl, rfl, rfl⟩, Or.inr ⟨h2, by omega, by omega, rfl, rfl⟩, fun q => absurd q (by decide), fun _ => Or.inl (by rw [i0]; omega), fun q => absurd q (by decide), by decide, by decide, by decide, by decide, by decide, by decide, by decide⟩
def own_pk (P : Nat → Int64) (j : Int32) (v l mk : Int64) (s : Int32) : Nat → Int64 := own_up P j.toNatClampNeg ((P j.toNatClampNeg) ||| (((v - l) &&& mk) <<< (s &&& 0x3f).toInt64))
def own_un (P : Nat → Int64) (j : Int32) (l mk : Int64) (s : Int32) : Int64 := l + (((P j.toNatClampNeg).toUInt64 >>> (s &&& 0x3f).toInt64.toUInt64).toInt64 &&& mk)
def own_qp (Z : State) (a : Addr) (k : ClassId) (P : Nat → Int64) (h0 : Heap) (n0 : Nat) (v : Option Value) (h : Heap) (L : List Loc) : Prop := v = none ∧ Fr n0 L ∧ Keep h0 h [a] ∧ Arv Z h a k .long (8 : Int32) (own_ls 8 P) (.long (0 : Int64))
def own_qu (Z : State) (a : Addr) (k : ClassId) (r0 r1 r2 : Int64) (h0 : Heap) (n0 : Nat) (v : Option Value) (h : Heap) (L : List Loc) : Prop := v = none ∧ Fr n0 L ∧ Keep h0 h [a] ∧ Arv Z h a k .long 3 [.long r0, .long r1, .long r2] (.long (0 : Int64))
theorem own_nat {q : Int32} {k : Nat} (h : q.toInt = k) : q.toBitVec.toNat = k := by
  have h2 : q.toBitVec.toInt = k := h
  rw [BitVec.toInt_eq_toNat_cond] at h2
  have := q.toBitVec.isLt
  split at h2 <;> omega
theorem own_shl (x : Int64) {q : Int32} {k : Nat} (h : q.toInt = k) (hk : k < 64) : (x <<< (q &&& 0x3f).toInt64).toBitVec = x.toBitVec <<< k := by
  have e : q.toBitVec.toNat % 64 = k := by rw [own_nat h]; omega
  show x.toBitVec <<< ((q &&& 0x3f).toInt64.toBitVec.smod 64) = _
  rw [BitVec.shiftLeft_eq', (sm64 q k e).1, smod64 k hk]
theorem own_shr (x : Int64) {q : Int32} {k : Nat} (h : q.toInt = k) (hk : k < 64) : ((x.toUInt64 >>> (q &&& 0x3f).toInt64.toUInt64).toInt64).toBitVec = x.toBitVec >>> k := by
  have e : q.toBitVec.toNat % 64 = k := by rw [own_nat h]; omega
  show x.toBitVec >>> ((q &&& 0x3f).toInt64.toBitVec % 64) = _
  rw [BitVec.ushiftRight_eq', BitVec.toNat_umod, (sm64 q k e).1, BitVec.toNat_ofNat]
  congr 1; show k % 2 ^ 64 % 64 = k; omega
/-- a field's place, width and mask in natural numbers -/
def own_nf (b s : Int32) (mk : Int64) (S B : Nat) : Prop := s.toInt = S ∧ b.toInt = B ∧ S + B ≤ 64 ∧ S < 64 ∧ mk.toBitVec.toNat = 2 ^ B - 1
def own_ok (b : Int32) (lo v : Int64) : Prop := b = 64 ∨ (v - lo).toBitVec.toNat < 2 ^ b.toInt.toNat
theorem own_mk {b : Int32} {B : Nat} (h : b.toInt = B) (hB : B < 64) : (((1 : Int64) <<< (b &&& 0x3f).toInt64) - (1 : Int64)).toBitVec.toNat = 2 ^ B - 1 := by
  have e := own_shl 1 h hB
  show (((1 : Int64) <<< (b &&& 0x3f).toInt64).toBitVec - (1 : Int64).toBitVec).toNat = _
  rw [e, BitVec.toNat_sub, BitVec.toNat_shiftLeft, show (1 : Int64).toBitVec.toNat = 1 from rfl, Nat.shiftLeft_eq, Nat.one_mul]
  have h1 : 2 ^ B ≤ 2 ^ 63 := Nat.pow_le_pow_right (by decide) (by omega)
  have h2 := Nat.two_pow_pos B
  generalize 2 ^ B = Y at *
  omega
theorem own_nf_of {b s : Int32} {lo mk l v : Int64} (hb : 1 ≤ b.toInt ∧ b.toInt ≤ 64) (h : own_fl b lo s mk l) (hv : own_ok b lo v) : ∃ S B : Nat, own_nf b s mk S B ∧ (v - l).toBitVec.toNat < 2 ^ B := by
  rcases h with ⟨rfl, rfl, rfl, rfl⟩ | ⟨h1, h2, h3, rfl, rfl⟩
  · exact ⟨0, 64, ⟨rfl, rfl, by decide, by decide, by decide⟩, (v - 0).toBitVec.isLt⟩
  · have hB : b.toInt = (b.toInt.toNat : Int) := (Int.toNat_of_nonneg (by omega)).symm
    have hS : s.toInt = (s.toInt.toNat : Int) := (Int.toNat_of_nonneg h2).symm
    have h64 : ¬ b.toInt = 64 := fun q => h1 (Int32.toInt_inj.mp q)
    refine ⟨s.toInt.toNat, b.toInt.toNat, ⟨hS, hB, by omega, by omega, own_mk hB (by omega)⟩, ?_⟩
    rcases hv with hv | hv
    · exact absurd hv h1
    · exact hv
theorem own_mbit {b s : Int32} {mk : Int64} {S B : Nat} (h : own_nf b s mk S B) (i : Nat) : mk.toBitVec.getLsbD i = decide (i < B) := by
  rw [BitVec.getLsbD, h.2.2.2.2, Nat.testBit_two_pow_sub_one]
theorem own_xbit {x mk : Int64} {b s : Int32} {S B : Nat} (h : own_nf b s mk S B) (t : Nat) : ((x &&& mk) <<< (s &&& 0x3f).toInt64).toBitVec.getLsbD t = (decide (t < 64) && !decide (t < S) && (x.toBitVec.getLsbD (t - S) && decide (t - S < B))) := by
  rw [own_shl _ h.1 h.2.2.2.1, BitVec.getLsbD_shiftLeft]
  show (_ && _ && (x.toBitVec &&& mk.toBitVec).getLsbD (t - S)) = _
  rw [BitVec.getLsbD_and, own_mbit h]
theorem own_sup {x mk : Int64} {b s : Int32} {S B t : Nat} (h : own_nf b s mk S B) (ht : t < S ∨ S + B ≤ t) : ((x &&& mk) <<< (s &&& 0x3f).toInt64).toBitVec.getLsbD t = false := by
  rw [own_xbit h]
  rcases ht with ht | ht
  · simp [ht]
  · have : ¬ t - S < B := by omega
    simp [this]
theorem own_ex {y v l mk : Int64} {b s : Int32} {S B : Nat} (h : own_nf b s mk S B) (hv : (v - l).toBitVec.toNat < 2 ^ B)
    (hy : ∀ i, i < B → y.toBitVec.getLsbD (S + i) = (((v - l) &&& mk) <<< (s &&& 0x3f).toInt64).toBitVec.getLsbD (S + i)) :
    l + ((y.toUInt64 >>> (s &&& 0x3f).toInt64.toUInt64).toInt64 &&& mk) = v := by
  have e : ((y.toUInt64 >>> (s &&& 0x3f).toInt64.toUInt64).toInt64 &&& mk) = v - l := by
    apply Int64.toBitVec_inj.mp
    apply BitVec.eq_of_getLsbD_eq
    intro i hi
    show (((y.toUInt64 >>> (s &&& 0x3f).toInt64.toUInt64).toInt64).toBitVec &&& mk.toBitVec).getLsbD i = _
    rw [own_shr _ h.1 h.2.2.2.1, BitVec.getLsbD_and, own_mbit h, BitVec.getLsbD_ushiftRight]
    by_cases hB : i < B
    · rw [hy i hB, own_xbit h]
      have h1 : S + i < 64 := by have := h.2.2.1; omega
      have h2 : ¬ S + i < S := by omega
      simp [hB, h1, h2, Nat.add_sub_cancel_left]
    · have : (v - l).toBitVec.getLsbD i = false := by
        rw [BitVec.getLsbD]; exact Nat.testBit_lt_two_pow (Nat.lt_of_lt_of_le hv (Nat.pow_le_pow_right (by decide) (by omega)))
      rw [this]; simp [hB]
  rw [e, Int64.add_comm, Int64.sub_add_cancel]
theorem own_pk_bit (P : Nat → Int64) (j : Int32) (v l mk : Int64) (s : Int32) (n t : Nat) : (own_pk P j v l mk s n).toBitVec.getLsbD t = ((P n).toBitVec.getLsbD t || (decide (n = j.toNatClampNeg) && (((v - l) &&& mk) <<< (s &&& 0x3f).toInt64).toBitVec.getLsbD t)) := by
  unfold own_pk own_up
  by_cases h : n = j.toNatClampNeg
  · rw [if_pos h, h]
    show ((P _).toBitVec ||| _).getLsbD t = _
    rw [BitVec.getLsbD_or]; simp
  · rw [if_neg h]; simp [h]
theorem own_ap_symm {b s w b' s' w' : Int32} (h : own_ap b s w b' s' w') : own_ap b' s' w' b s w := fun q => (h q.symm).symm
theorem own_nn {q w w' : Int32} (n1 : ¬ (q + w) < 0) (n2 : ¬ (q + w') < 0) (h : (q + w).toNatClampNeg = (q + w').toNatClampNeg) : w = w' := by
  have i0 : (0 : Int32).toInt = 0 := rfl
  rw [Int32.lt_iff_toInt_lt, i0] at n1 n2
  simp only [Int32.toNatClampNeg] at h
  have e : (q + w) = (q + w') := Int32.toInt_inj.mp (by omega)
  exact (Int32.add_right_inj q).mp e
theorem own_dj {q w w' b s b' s' : Int32} {mk mk' x : Int64} {S B S' B' i : Nat} (h : own_nf b s mk S B) (h' : own_nf b' s' mk' S' B') (ap : own_ap b s w b' s' w') (n1 : ¬ (q + w) < 0) (n2 : ¬ (q + w') < 0) (hi : i < B) :
    (decide ((q + w).toNatClampNeg = (q + w').toNatClampNeg) && ((x &&& mk') <<< (s' &&& 0x3f).toInt64).toBitVec.getLsbD (S + i)) = false := by
  by_cases e : (q + w).toNatClampNeg = (q + w').toNatClampNeg
  · have a := ap (own_nn n1 n2 e)
    rw [h.1, h.2.1, h'.1, h'.2.1] at a
    rw [own_sup h' (by omega)]; simp
  · simp [e]
/-- what was packed into three fields that don't meet comes back -/
theorem own_packed {b0 b1 b2 : Int32} {lo0 lo1 lo2 : Int64} {w0 w1 w2 s0 s1 s2 : Int32} {m0 m1 m2 l0 l1 l2 : Int64} {u : Int32} (L : own_lay b0 b1 b2 lo0 lo1 lo2 w0 w1 w2 s0 s1 s2 m0 m1 m2 l0 l1 l2 u)
    (hr0 : 1 ≤ b0.toInt ∧ b0.toInt ≤ 64) (hr1 : 1 ≤ b1.toInt ∧ b1.toInt ≤ 64) (hr2 : 1 ≤ b2.toInt ∧ b2.toInt ≤ 64) {q : Int32} (n0 : ¬ (q + w0) < 0) (n1 : ¬ (q + w1) < 0) (n2 : ¬ (q + w2) < 0)
    {v0 v1 v2 : Int64} (k0 : own_ok b0 lo0 v0) (k1 : own_ok b1 lo1 v1) (k2 : own_ok b2 lo2 v2) {P P' : Nat → Int64} (z0 : P (q + w0).toNatClampNeg = 0) (z1 : P (q + w1).toNatClampNeg = 0) (z2 : P (q + w2).toNatClampNeg = 0)
    (hP : P' = own_pk (own_pk (own_pk P (q + w0) v0 l0 m0 s0) (q + w1) v1 l1 m1 s1) (q + w2) v2 l2 m2 s2) :
    own_un P' (q + w0) l0 m0 s0 = v0 ∧ own_un P' (q + w1) l1 m1 s1 = v1 ∧ own_un P' (q + w2) l2 m2 s2 = v2 := by
  subst hP
  obtain ⟨f0, f1, f2, a01, a02, a12, -⟩ := L
  obtain ⟨S0, B0, F0, V0⟩ := own_nf_of hr0 f0 k0
  obtain ⟨S1, B1, F1, V1⟩ := own_nf_of hr1 f1 k1
  obtain ⟨S2, B2, F2, V2⟩ := own_nf_of hr2 f2 k2
  have zb : ∀ t, (0 : Int64).toBitVec.getLsbD t = false := fun t => BitVec.getLsbD_zero
  refine ⟨own_ex F0 V0 fun i hi => ?_, own_ex F1 V1 fun i hi => ?_, own_ex F2 V2 fun i hi => ?_⟩
  · rw [own_pk_bit, own_pk_bit, own_pk_bit, z0, zb, own_dj F0 F1 a01 n0 n1 hi, own_dj F0 F2 a02 n0 n2 hi]; simp
  · rw [own_pk_bit, own_pk_bit, own_pk_bit, z1, zb, own_dj F1 F0 (own_ap_symm a01) n1 n0 hi, own_dj F1 F2 a12 n1 n2 hi]; simp
  · rw [own_pk_bit, own_pk_bit, own_pk_bit, z2, zb, own_dj F2 F0 (own_ap_symm a02) n2 n0 hi, own_dj F2 F1 (own_ap_symm a12) n2 n1 hi]; simp
theorem own_pk_out {P : Nat → Int64} {j : Int32} {v l mk : Int64} {s : Int32} {n : Nat} (h : ¬ n = j.toNatClampNeg) : own_pk P j v l mk s n = P n := by
  unfold own_pk own_up; rw [if_neg h]
-- the number of bits
theorem own_sh {p q : Int32} {k : Nat} (hk : q.toBitVec.toNat % 32 = k) (h0 : 0 < k) (hp : 0 ≤ p.toInt) : ((p.toUInt32 >>> (q &&& 31).toUInt32).toInt32).toInt = p.toInt / (2 ^ k : Nat) := by
  rw [c_iushr p q k hk h0, Int.emod_eq_of_lt hp (by have := p.toInt_lt; omega)]
theorem own_stg {P : Int} {i n c q : Int32} {S k : Nat} (hk : q.toBitVec.toNat % 32 = k) (h0 : 0 < k) (hc : c.toInt = (2 ^ k : Nat)) (hq : q.toInt = k) (hS : S + k ≤ 31) (hn : n.toInt = 31 - S) (hp : P < (i.toInt + 1) * (2 ^ S : Nat)) (hl : i.toInt * (2 ^ S : Nat) ≤ P) (h1 : 1 ≤ i.toInt) (h2 : i.toInt < (2 ^ k : Nat) * (2 ^ k : Nat)) :
    ∃ S', S' ≤ S + k ∧ (if i < c then n else n + (-q)).toInt = 31 - S' ∧ P < ((if i < c then i else ((i.toUInt32 >>> (q &&& 31).toUInt32).toInt32)).toInt + 1) * (2 ^ S' : Nat) ∧ (if i < c then i else ((i.toUInt32 >>> (q &&& 31).toUInt32).toInt32)).toInt * (2 ^ S' : Nat) ≤ P ∧ 1 ≤ (if i < c then i else ((i.toUInt32 >>> (q &&& 31).toUInt32).toInt32)).toInt ∧ (if i < c then i else ((i.toUInt32 >>> (q &&& 31).toUInt32).toInt32)).toInt < (2 ^ k : Nat) := by
  by_cases h : i < c
  · simp only [if_pos h]
    rw [Int32.lt_iff_toInt_lt, hc] at h
    exact ⟨S, by omega, hn, hp, hl, h1, h⟩
  · simp only [if_neg h]
    rw [Int32.lt_iff_toInt_lt, hc] at h
    have e := own_sh (p := i) hk h0 (by omega)
    have ep : ((2 ^ (S + k) : Nat) : Int) = (2 ^ k : Nat) * (2 ^ S : Nat) := by rw [Nat.pow_add, Int.natCast_mul, Int.mul_comm]
    have p1 : (0 : Int) < (2 ^ k : Nat) := by have := Nat.two_pow_pos k; omega
    have p2 : (0 : Int) < (2 ^ S : Nat) := by have := Nat.two_pow_pos S; omega
    refine ⟨S + k, Nat.le_refl _, ?_, ?_, ?_, ?_, ?_⟩
    · have g1 := c_iadd n (-q); have g2 := c_ineg q; have g3 := (n + (-q)).toInt_lt; have g4 := (n + (-q)).le_toInt; have g5 := (-q).toInt_lt; have g6 := (-q).le_toInt
      omega
    · rw [e, ep, ← Int.mul_assoc]
      have d := Int.lt_ediv_add_one_mul_self i.toInt p1
      have d' : i.toInt + 1 ≤ (i.toInt / (2 ^ k : Nat) + 1) * (2 ^ k : Nat) := d
      exact Int.lt_of_lt_of_le hp (Int.mul_le_mul_of_nonneg_right d' (Int.le_of_lt p2))
    · rw [e, ep, ← Int.mul_assoc]
      exact Int.le_trans (Int.mul_le_mul_of_nonneg_right (Int.ediv_mul_le _ (Int.ne_of_gt p1)) (Int.le_of_lt p2)) hl
    · rw [e]; exact Int.le_ediv_of_mul_le p1 (by omega)
    · rw [e]; exact Int.ediv_lt_of_lt_mul p1 h2
theorem own_nlz_pos {p : Int32} (hp : 0 < p.toInt) : ∃ S : Nat, S ≤ 31 ∧ (own_nlz p).toInt = 32 - S ∧ p.toInt < (2 ^ S : Nat) := by
  have pl := p.toInt_lt
  have h0 : (0 : Int32) < p := by rw [Int32.lt_iff_toInt_lt]; exact hp
  unfold own_nlz
  rw [if_pos h0]
  dsimp only
  obtain ⟨S1, a1, b1, c1, d1, e1, f1⟩ := own_stg (P := p.toInt) (i := p) (n := 31) (c := 65536) (q := 16) (S := 0) (k := 16) (by decide) (by decide) (by decide) (by decide) (by decide) (by decide) (by simp; omega) (by simp) (by omega) (by simp; omega)
  rw [show (31 : Int32) + (-16) = 15 by decide] at b1
  generalize (if p < 65536 then p else (p.toUInt32 >>> ((16 : Int32) &&& 31).toUInt32).toInt32) = i1 at *
  generalize (if p < 65536 then (31 : Int32) else 15) = n1 at *
  obtain ⟨S2, a2, b2, c2, d2, e2, f2⟩ := own_stg (P := p.toInt) (i := i1) (n := n1) (c := 256) (q := 8) (S := S1) (k := 8) (by decide) (by decide) (by decide) (by decide) (by omega) b1 c1 d1 e1 (by simpa using f1)
  generalize (if i1 < 256 then i1 else (i1.toUInt32 >>> ((8 : Int32) &&& 31).toUInt32).toInt32) = i2 at *
  generalize (if i1 < 256 then n1 else n1 + (-8)) = n2 at *
  obtain ⟨S3, a3, b3, c3, d3, e3, f3⟩ := own_stg (P := p.toInt) (i := i2) (n := n2) (c := 16) (q := 4) (S := S2) (k := 4) (by decide) (by decide) (by decide) (by decide) (by omega) b2 c2 d2 e2 (by simpa using f2)
  generalize (if i2 < 16 then i2 else (i2.toUInt32 >>> ((4 : Int32) &&& 31).toUInt32).toInt32) = i3 at *
  generalize (if i2 < 16 then n2 else n2 + (-4)) = n3 at *
  obtain ⟨S4, a4, b4, c4, d4, e4, f4⟩ := own_stg (P := p.toInt) (i := i3) (n := n3) (c := 4) (q := 2) (S := S3) (k := 2) (by decide) (by decide) (by decide) (by decide) (by omega) b3 c3 d3 e3 (by simpa using f3)
  generalize (if i3 < 4 then i3 else (i3.toUInt32 >>> ((2 : Int32) &&& 31).toUInt32).toInt32) = i4 at *
  generalize (if i3 < 4 then n3 else n3 + (-2)) = n4 at *
  have eh := own_sh (p := i4) (q := 1) (k := 1) (by decide) (by decide) (by omega)
  generalize ((i4.toUInt32 >>> ((1 : Int32) &&& 31).toUInt32).toInt32) = hh at *
  have g1 := c_isub n4 hh; have g3 := (n4 - hh).toInt_lt; have g4 := (n4 - hh).le_toInt
  simp only [Nat.pow_one] at eh
  have f4' : i4.toInt < 4 := f4
  by_cases h2 : i4.toInt < 2
  · have i1' : i4.toInt = 1 := by omega
    rw [i1'] at c4 eh
    refine ⟨S4 + 1, by omega, by omega, ?_⟩
    rw [Nat.pow_succ, Int.natCast_mul]; omega
  · have p30 : ¬ 30 ≤ S4 := by
      intro z
      have := Nat.pow_le_pow_right (show 0 < 2 by decide) z
      have z2 : i4.toInt * (2 ^ S4 : Nat) ≤ p.toInt := d4
      have z3 : 2 * ((2 ^ S4 : Nat) : Int) ≤ i4.toInt * (2 ^ S4 : Nat) := Int.mul_le_mul_of_nonneg_right (by omega) (Int.natCast_nonneg _)
      omega
    refine ⟨S4 + 2, by omega, by omega, ?_⟩
    have z3 : (i4.toInt + 1) * ((2 ^ S4 : Nat) : Int) ≤ 4 * (2 ^ S4 : Nat) := Int.mul_le_mul_of_nonneg_right (by omega) (Int.natCast_nonneg _)
    rw [Nat.pow_add, Int.natCast_mul]; omega
theorem own_nlz_spec {p : Int32} (hp : 0 ≤ p.toInt) : ∃ S : Nat, S ≤ 31 ∧ (own_nlz p).toInt = 32 - S ∧ p.toInt < (2 ^ S : Nat) := by
  by_cases h : 0 < p.toInt
  · exact own_nlz_pos h
  · have e : p = 0 := Int32.toInt_inj.mp (show p.toInt = 0 by omega)
    subst e; exact ⟨0, by decide, by decide, by decide⟩
theorem own_nlz_neg {p : Int32} (hp : p.toInt < 0) : own_nlz p = 0 := by
  have i0 : (0 : Int32).toInt = 0 := rfl
  unfold own_nlz
  rw [if_neg (by rw [Int32.lt_iff_toInt_lt, i0]; omega), if_neg (fun q => by rw [q, i0] at hp; omega)]
theorem own_hi_eq {q : Int64} (hq : 0 ≤ q.toInt) : (own_hi q).toInt = q.toInt / 4294967296 := by
  have ql := q.toInt_lt
  have a := c_lushr q 32 32 (by decide) (by decide)
  have b := c_l2i ((q.toUInt64 >>> ((32 : Int32) &&& 0x3f).toInt64.toUInt64).toInt64)
  have e : (((q.toUInt64 >>> ((32 : Int32) &&& 0x3f).toInt64.toUInt64).toInt64).toInt32).toInt = (own_hi q).toInt := rfl
  rw [e, a] at b
  have c1 := (own_hi q).toInt_lt; have c2 := (own_hi q).le_toInt
  rw [Int.emod_eq_of_lt hq (by omega)] at b
  simp only [Nat.reducePow] at b
  omega
theorem own_nlzL_spec {q : Int64} (hq : 0 ≤ q.toInt) : ∃ S : Nat, S ≤ 63 ∧ (own_nlzL q).toInt = 64 - S ∧ q.toInt < (2 ^ S : Nat) := by
  have ql := q.toInt_lt
  have hh := own_hi_eq hq
  have i0 : (0 : Int32).toInt = 0 := rfl
  have i32 : (32 : Int32).toInt = 32 := rfl
  unfold own_nlzL
  by_cases h : own_hi q = 0
  · rw [if_pos h]
    rw [h, i0] at hh
    have b := c_l2i q
    have c1 := (q.toInt32).toInt_lt; have c2 := (q.toInt32).le_toInt
    by_cases hn : 0 ≤ q.toInt32.toInt
    · obtain ⟨S, s1, s2, s3⟩ := own_nlz_spec hn
      have g := c_iadd 32 (own_nlz q.toInt32); have g3 := (32 + own_nlz q.toInt32).toInt_lt; have g4 := (32 + own_nlz q.toInt32).le_toInt
      exact ⟨S, by omega, by omega, by omega⟩
    · rw [own_nlz_neg (by omega)]
      exact ⟨32, by decide, by decide, by simp only [Nat.reducePow]; omega⟩
  · rw [if_neg h]
    have hp : ¬ (own_hi q).toInt = 0 := fun z => h (Int32.toInt_inj.mp z)
    obtain ⟨S, s1, s2, s3⟩ := own_nlz_spec (p := own_hi q) (by omega)
    refine ⟨S + 32, by omega, by omega, ?_⟩
    rw [Nat.pow_add, Int.natCast_mul, show ((2 ^ 32 : Nat) : Int) = 4294967296 from rfl]
    omega
theorem own_bits_range {z : Int32} {lo up : Int64} : 1 ≤ (own_bits z lo up).toInt ∧ (own_bits z lo up).toInt ≤ 64 := by
  unfold own_bits
  by_cases h : z = 0
  · rw [if_pos h]; decide
  rw [if_neg h]
  by_cases h2 : lcmpW (up - lo) 0 < 0
  · rw [if_pos h2]; decide
  rw [if_neg h2]
  have h3 : 0 ≤ (up - lo).toInt := by rw [lw_lt, Int64.lt_iff_toInt_lt] at h2; exact Int.not_lt.mp h2
  obtain ⟨S, s1, s2, s3⟩ := own_nlzL_spec h3
  have g := c_isub 64 (own_nlzL (up - lo)); have g3 := (64 - own_nlzL (up - lo)).toInt_lt; have g4 := (64 - own_nlzL (up - lo)).le_toInt
  have i64 : (64 : Int32).toInt = 64 := rfl
  have i1 : (1 : Int32).toInt = 1 := rfl
  unfold own_max
  split
  · rename_i q; rw [Int32.lt_iff_toInt_lt] at q; omega
  · omega
theorem own_bits_big {z : Int32} {lo up : Int64} (hz : ¬ z = 0) (h3 : 0 ≤ (up - lo).toInt) : ¬ own_bits z lo up = 64 ∧ (up - lo).toInt < (2 ^ (own_bits z lo up).toInt.toNat : Nat) := by
  have h2 : ¬ lcmpW (up - lo) 0 < 0 := by rw [lw_lt, Int64.lt_iff_toInt_lt]; exact Int.not_lt.mpr h3
  unfold own_bits
  rw [if_neg hz, if_neg h2]
  obtain ⟨S, s1, s2, s3⟩ := own_nlzL_spec h3
  have g := c_isub 64 (own_nlzL (up - lo)); have g3 := (64 - own_nlzL (up - lo)).toInt_lt; have g4 := (64 - own_nlzL (up - lo)).le_toInt
  have i64 : (64 : Int32).toInt = 64 := rfl
  have i1 : (1 : Int32).toInt = 1 := rfl
  have e : (64 - own_nlzL (up - lo)).toInt = S := by omega
  have ne : ∀ b : Int32, b.toInt < 64 → ¬ b = 64 := fun b hb q => by rw [q, i64] at hb; omega
  unfold own_max
  split
  · rename_i q; rw [e]; exact ⟨ne _ (by omega), by simpa using s3⟩
  · rename_i q; rw [Int32.lt_iff_toInt_lt, e, i1] at q
    refine ⟨ne _ (by decide), ?_⟩
    have : 2 ^ S ≤ 2 ^ 1 := Nat.pow_le_pow_right (by decide) (by omega)
    show _ < ((2 ^ 1 : Nat) : Int)
    omega
/-- a value whose distance from the lower bound is at most the span fits the field -/
theorem own_fits {z : Int32} {lo up v : Int64} (hz : ¬ z = 0) (h3 : 0 ≤ (up - lo).toInt) (h1 : 0 ≤ (v - lo).toInt) (h2 : (v - lo).toInt ≤ (up - lo).toInt) : own_ok (own_bits z lo up) lo v := by
  right
  have g := (own_bits_big hz h3).2
  have e : ((v - lo).toBitVec.toNat : Int) = (v - lo).toInt := by
    show _ = (v - lo).toBitVec.toInt
    change 0 ≤ (v - lo).toBitVec.toInt at h1
    rw [BitVec.toInt_eq_toNat_cond] at h1 ⊢
    have := (v - lo).toBitVec.isLt
    split at h1 <;> split <;> omega
  omega

def own_low (a b : Int64) : Int64 := if 0 < lcmpW a ((9223372036854775807 : Int64) - b) then a - b else a
def own_off (a b : Int64) : Int64 := if lcmpW b (9223372036854775807 : Int64) = 0 then (a &&& (9223372036854775807 : Int64)) else (a &&& (9223372036854775807 : Int64)) - (a &&& (9223372036854775807 : Int64)) / (b + (1 : Int64)) * (b + (1 : Int64))
theorem own_maxi : (9223372036854775807 : Int64).toInt = 9223372036854775807 := by decide
theorem own_one1 {b : Int64} (h : 0 ≤ b.toInt) : ¬ b + (1 : Int64) = 0 := fun q => by
  have g := c_ladd b 1; rw [q, show (1 : Int64).toInt = 1 from rfl, show (0 : Int64).toInt = 0 from rfl] at g
  have := b.toInt_lt; omega
theorem own_asub (a b : Int64) : a + b - a = b := by rw [Int64.add_comm, Int64.add_sub_cancel]
theorem own_off_in {a b : Int64} (h : 0 ≤ b.toInt) : 0 ≤ (own_off a b).toInt ∧ (own_off a b).toInt ≤ b.toInt := by
  have m := c_maskL a (9223372036854775807 : Int64) 63 (by decide) (by decide)
  have m0 : 0 ≤ (a &&& (9223372036854775807 : Int64)).toInt ∧ (a &&& (9223372036854775807 : Int64)).toInt < 9223372036854775808 := by rw [m]; simp only [Nat.reducePow]; omega
  unfold own_off
  by_cases q : lcmpW b (9223372036854775807 : Int64) = 0
  · rw [if_pos q]; rw [lw_eq] at q; rw [q, own_maxi]; omega
  · rw [if_neg q]
    have q2 : ¬ b.toInt = 9223372036854775807 := fun z => q ((lw_eq _ _).mpr (Int64.toInt_inj.mp (by rw [z, own_maxi])))
    have g := c_ladd b 1; rw [show (1 : Int64).toInt = 1 from rfl] at g
    have g1 := (b + 1).toInt_lt; have g2 := (b + 1).le_toInt; have g3 := b.toInt_lt
    have e : (b + 1).toInt = b.toInt + 1 := by omega
    rw [(c_lrem (a &&& (9223372036854775807 : Int64)) (b + 1) (b.toInt + 1) e).1 m0.1]
    have := Int.emod_nonneg (a &&& (9223372036854775807 : Int64)).toInt (show b.toInt + 1 ≠ 0 by omega)
    have := Int.emod_lt_of_pos (a &&& (9223372036854775807 : Int64)).toInt (show 0 < b.toInt + 1 by omega)
    omega
theorem own_okoff {a span lo r v : Int64} {b : Int32} (hs : 0 ≤ span.toInt) (hr : r = own_off a span) (hb : b = own_bits (1 : Int32) lo (lo + span)) (hv : v = lo + r) : own_ok b lo v := by
  subst hb hv hr
  refine own_fits (by decide) ?_ ?_ ?_ <;> simp only [own_asub]
  · exact hs
  · exact (own_off_in hs).1
  · exact (own_off_in hs).2
theorem own_sp (x : Int64) (q : Int32) : 0 ≤ ((((x.toUInt64 >>> ((1 : Int32) &&& 0x3f).toInt64.toUInt64).toInt64).toUInt64 >>> (q &&& 0x3f).toInt64.toUInt64).toInt64).toInt := by
  have e1 := c_lushr x 1 1 (by decide) (by decide)
  generalize ((x.toUInt64 >>> ((1 : Int32) &&& 0x3f).toInt64.toUInt64).toInt64) = y at *
  have y0 : 0 ≤ y.toInt := by rw [e1]; simp only [Nat.reducePow]; omega
  obtain ⟨k, hk⟩ : ∃ k, q.toBitVec.toNat % 64 = k := ⟨_, rfl⟩
  obtain ⟨h1, h2⟩ := sm64 q k hk
  have e2 : ((y.toUInt64 >>> (q &&& 0x3f).toInt64.toUInt64).toInt64).toBitVec.toNat = y.toBitVec.toNat / 2 ^ k := by
    show (y.toBitVec >>> ((q &&& 0x3f).toInt64.toBitVec % 64)).toNat = _
    rw [BitVec.ushiftRight_eq', BitVec.toNat_ushiftRight, Nat.shiftRight_eq_div_pow, BitVec.toNat_umod, h1, BitVec.toNat_ofNat]; congr 2; show k % 2 ^ 64 % 64 = k; omega
  have e3 : y.toBitVec.toNat / 2 ^ k ≤ y.toBitVec.toNat := Nat.div_le_self _ _
  change 0 ≤ y.toBitVec.toInt at y0
  show 0 ≤ ((y.toUInt64 >>> (q &&& 0x3f).toInt64.toUInt64).toInt64).toBitVec.toInt
  rw [BitVec.toInt_eq_toNat_cond] at y0 ⊢
  rw [e2]
  have := y.toBitVec.isLt
  split at y0 <;> split <;> omega
theorem own_hj8 {q w u : Int32} (hq : 0 ≤ q.toInt ∧ q.toInt ≤ 3) (h0 : 0 ≤ w.toInt) (h1 : w.toInt < u.toInt) (h3 : u.toInt ≤ 3) : ¬ (q + w) < 0 ∧ (q + w) < 8 := by
  have g := c_iadd q w; have g1 := (q + w).toInt_lt; have g2 := (q + w).le_toInt
  rw [Int32.lt_iff_toInt_lt, Int32.lt_iff_toInt_lt, show (0 : Int32).toInt = 0 from rfl, show (8 : Int32).toInt = 8 from rfl]; omega
theorem own_hjs {b0 b1 b2 : Int32} {lo0 lo1 lo2 : Int64} {w0 w1 w2 s0 s1 s2 : Int32} {m0 m1 m2 l0 l1 l2 : Int64} {u q : Int32} (L : own_lay b0 b1 b2 lo0 lo1 lo2 w0 w1 w2 s0 s1 s2 m0 m1 m2 l0 l1 l2 u) (hq : 0 ≤ q.toInt ∧ q.toInt ≤ 3) : (¬ (q + w0) < 0 ∧ (q + w0) < 8) ∧ (¬ (q + w1) < 0 ∧ (q + w1) < 8) ∧ (¬ (q + w2) < 0 ∧ (q + w2) < 8) := by
  obtain ⟨-, -, -, -, -, -, a0, a1, b0, b1, c0, c1, h3⟩ := L
  exact ⟨own_hj8 hq a0 a1 h3, own_hj8 hq b0 b1 h3, own_hj8 hq c0 c1 h3⟩
theorem own_nq {i q w u : Int32} (hi : 0 ≤ i.toInt) (hq : 0 ≤ q.toInt ∧ q.toInt ≤ 3) (h0 : 0 ≤ w.toInt) (h1 : w.toInt < u.toInt) (h3 : u.toInt ≤ 3) (n : ¬ (¬ i < q ∧ i < q + u)) : ¬ i.toNatClampNeg = (q + w).toNatClampNeg := by
  intro e
  have g := c_iadd q w; have g1 := (q + w).toInt_lt; have g2 := (q + w).le_toInt
  have f := c_iadd q u; have f1 := (q + u).toInt_lt; have f2 := (q + u).le_toInt
  simp only [Int32.toNatClampNeg] at e
  rw [Int32.lt_iff_toInt_lt, Int32.lt_iff_toInt_lt] at n
  exact n ⟨by omega, by omega⟩
theorem own_clear {b0 b1 b2 : Int32} {lo0 lo1 lo2 : Int64} {w0 w1 w2 s0 s1 s2 : Int32} {m0 m1 m2 l0 l1 l2 v0 v1 v2 : Int64} {u q i : Int32} (L : own_lay b0 b1 b2 lo0 lo1 lo2 w0 w1 w2 s0 s1 s2 m0 m1 m2 l0 l1 l2 u) (hq : 0 ≤ q.toInt ∧ q.toInt ≤ 3) {P P' : Nat → Int64} (hP0 : P = fun _ => 0)
    (hP : P' = own_pk (own_pk (own_pk P (q + w0) v0 l0 m0 s0) (q + w1) v1 l1 m1 s1) (q + w2) v2 l2 m2 s2) (hi : 0 ≤ i.toInt) : (¬ i < q ∧ i < q + u) ∨ P' i.toNatClampNeg = 0 := by
  obtain ⟨-, -, -, -, -, -, a0, a1, b0, b1, c0, c1, h3⟩ := L
  by_cases n : ¬ i < q ∧ i < q + u
  · exact Or.inl n
  · right
    rw [hP, own_pk_out (own_nq hi hq c0 c1 h3 n), own_pk_out (own_nq hi hq b0 b1 h3 n), own_pk_out (own_nq hi hq a0 a1 h3 n), hP0]
theorem own_u2 {u : Int32} (h : u = 2 ∨ u = 3) : ¬ u < (2 : Int32) := by rcases h with rfl | rfl <;> decide
theorem own_u3 {u : Int32} (h : u = 2 ∨ u = 3) : ¬ (3 : Int32) < u := by rcases h with rfl | rfl <;> decide
theorem own_pd0 : parseMethodDescriptor "()V" = some ⟨[], none⟩ := by decide +kernel
theorem own_pd1 : parseMethodDescriptor "(II)I" = some ⟨[.int, .int], some .int⟩ := by decide +kernel
theorem own_pd2 : parseMethodDescriptor "(I)[Ljava/lang/Object;" = some ⟨[.int], some (.array (.object "java/lang/Object"))⟩ := by decide +kernel
theorem own_pd3 : parseMethodDescriptor "()[Ljava/lang/Object;" = some ⟨[], some (.array (.object "java/lang/Object"))⟩ := by decide +kernel
theorem own_pd4 : parseMethodDescriptor "(Ljava/lang/Object;[Ljava/lang/Object;I)V" = some ⟨[(.object "java/lang/Object"), (.array (.object "java/lang/Object")), .int], none⟩ := by decide +kernel
theorem own_pd5 : parseMethodDescriptor "(IILjava/util/function/BiFunction;)I" = some ⟨[.int, .int, (.object "java/util/function/BiFunction")], some .int⟩ := by decide +kernel
theorem own_pd6 : parseMethodDescriptor "(I)Ljava/lang/Object;" = some ⟨[.int], some (.object "java/lang/Object")⟩ := by decide +kernel
theorem own_pd7 : parseMethodDescriptor "(I)I" = some ⟨[.int], some .int⟩ := by decide +kernel
theorem own_pd8 : parseMethodDescriptor "()Z" = some ⟨[], some .boolean⟩ := by decide +kernel
theorem own_pd9 : parseMethodDescriptor "()J" = some ⟨[], some .long⟩ := by decide +kernel
theorem own_pd10 : parseMethodDescriptor "(J)I" = some ⟨[.long], some .int⟩ := by decide +kernel
theorem own_pd11 : parseMethodDescriptor "()I" = some ⟨[], some .int⟩ := by decide +kernel
theorem own_pd12 : parseMethodDescriptor "(Lcom/example/astraea/astraea/lang/Variable;)I" = some ⟨[(.object "com/example/astraea/astraea/lang/Variable")], some .int⟩ := by decide +kernel
theorem own_pd13 : parseMethodDescriptor "(JJ)J" = some ⟨[.long, .long], some .long⟩ := by decide +kernel
theorem own_pd14 : parseMethodDescriptor "(Ljava/lang/String;Lcom/example/astraea/astraea/lang/Type;ZJJLcom/example/astraea/astraea/lang/Position;)V" = some ⟨[(.object "java/lang/String"), (.object "com/example/astraea/astraea/lang/Type"), .boolean, .long, .long, (.object "com/example/astraea/astraea/lang/Position")], none⟩ := by decide +kernel
theorem own_pd15 : parseMethodDescriptor "(Ljava/lang/Object;)Z" = some ⟨[(.object "java/lang/Object")], some .boolean⟩ := by decide +kernel
theorem own_pd16 : parseMethodDescriptor "(Ljava/util/List;)V" = some ⟨[(.object "java/util/List")], none⟩ := by decide +kernel
theorem own_pd17 : parseMethodDescriptor "([J[JI)V" = some ⟨[(.array .long), (.array .long), .int], none⟩ := by decide +kernel
theorem own_pd18 : parseMethodDescriptor "([JI[J)V" = some ⟨[(.array .long), .int, (.array .long)], none⟩ := by decide +kernel
theorem own_pd19 : parseMethodDescriptor "([JIII)Z" = some ⟨[(.array .long), .int, .int, .int], some .boolean⟩ := by decide +kernel
theorem own_d4_0 : decode jdk_22_method_1_code 0 = .ok (.aload_n 0, 1) := by decide +kernel
theorem own_d4_1 : decode jdk_22_method_1_code 1 = .ok (.invokespecial 1, 3) := by decide +kernel
theorem own_d4_4 : decode jdk_22_method_1_code 4 = .ok (.return_, 1) := by decide +kernel
theorem own_pn4 : plainFor (⟨"java/util/AbstractCollection", "<init>", "()V"⟩ : MethodName) = true := plainFor_of_name (show plainName "java/util/AbstractCollection" = true by first | (simp [plainName, overriddenIn]; done) | decide +kernel)
theorem own_ef4 (m : MethodId) (a1 : Addr) : entryFrame m #[(.ref a1)] 1 = (mkF m 0 #[.val (.ref a1)] []) := by first | (simp [entryFrame, mkF, argsToLocals, Value.category]; done) | rfl
set_option maxRecDepth 65536 in
set_option maxHeartbeats 40000000 in
theorem own_rm4 (l : Launch) (Z : State) (a0 : Array Value) (hw : ∀ d ∈ tables_1, d.before a0 Z = true) (h0 : Heap) (n0 : Nat) (Z0 : n0 ≤ h0.size) (a1 : Addr)  :
    own_C l Z (⟨"java/util/AbstractCollection", "<init>", "()V"⟩ : MethodName) jdk_22_method_1_code 1 none [] ({ frames := 1, cells := 0, slots := 0, locals := 12 } : Room) #[(.ref a1)] h0 (own_V h0) := by
  refine own_body own_pn4 (f0 := fun m => (mkF m 0 #[.val (.ref a1)] [])) (fun m => own_ef4 m a1) ?_
  intro p e s m below meth c s₁ hx hby hml hown hnm hret hlk hZ X0 e0
  change own_G p e below (own_F (own_V h0) s 0 0) s₁ (mkF m 0 #[.val (.ref a1)] [])
  have N0 := Fr.nil n0
  refine own_st (T' := s₁) (g' := (mkF m 1 #[.val (.ref a1)] [(.ref a1)])) (fun t k => XS.aloadN X0.here hx rfl (hb hby own_d4_0) rfl rfl k) ?_
  obtain ⟨T1, X1, e1, st1⟩ := initO X0 hx hZ hown (hw _ (List.mem_of_getElem? (i := 23) rfl)) (hw _ (List.mem_of_getElem? (i := 24) rfl)) (hw _ (List.mem_of_getElem? (i := 25) rfl)) e0 (g := (mkF m 1 #[.val (.ref a1)] [(.ref a1)])) rfl (by rw [hml]; rfl) rfl (hb hby own_d4_1) (by decide) (W := 0) (by show 2 * 0 + _ ≤ _; exact Nat.le_of_eq rfl) (by decide)
  refine own_st (T' := T1) (g' := (mkF m 4 #[.val (.ref a1)] [])) st1 ?_
  exact own_retV X1 hx hlk hret (hb hby own_d4_4) (by decide) (by decide) ⟨rfl, e1, rfl⟩
theorem own_d7_0 : decode jdk_30_method_1_code 0 = .ok (.aload_n 0, 1) := by decide +kernel
theorem own_d7_1 : decode jdk_30_method_1_code 1 = .ok (.invokespecial 1, 3) := by decide +kernel
theorem own_d7_4 : decode jdk_30_method_1_code 4 = .ok (.return_, 1) := by decide +kernel
theorem own_pn7 : plainFor (⟨"java/lang/Record", "<init>", "()V"⟩ : MethodName) = true := plainFor_of_name (show plainName "java/lang/Record" = true by first | (simp [plainName, overriddenIn]; done) | decide +kernel)
theorem own_ef7 (m : MethodId) (a1 : Addr) : entryFrame m #[(.ref a1)] 1 = (mkF m 0 #[.val (.ref a1)] []) := by first | (simp [entryFrame, mkF, argsToLocals, Value.category]; done) | rfl
set_option maxRecDepth 65536 in
set_option maxHeartbeats 40000000 in
theorem own_rm7 (l : Launch) (Z : State) (a0 : Array Value) (hw : ∀ d ∈ tables_1, d.before a0 Z = true) (h0 : Heap) (n0 : Nat) (Z0 : n0 ≤ h0.size) (a1 : Addr)  :
    own_C l Z (⟨"java/lang/Record", "<init>", "()V"⟩ : MethodName) jdk_30_method_1_code 1 none [] ({ frames := 1, cells := 0, slots := 0, locals := 12 } : Room) #[(.ref a1)] h0 (own_V h0) := by
  refine own_body own_pn7 (f0 := fun m => (mkF m 0 #[.val (.ref a1)] [])) (fun m => own_ef7 m a1) ?_
  intro p e s m below meth c s₁ hx hby hml hown hnm hret hlk hZ X0 e0
  change own_G p e below (own_F (own_V h0) s 0 0) s₁ (mkF m 0 #[.val (.ref a1)] [])
  have N0 := Fr.nil n0
  refine own_st (T' := s₁) (g' := (mkF m 1 #[.val (.ref a1)] [(.ref a1)])) (fun t k => XS.aloadN X0.here hx rfl (hb hby own_d7_0) rfl rfl k) ?_
  obtain ⟨T1, X1, e1, st1⟩ := initO X0 hx hZ hown (hw _ (List.mem_of_getElem? (i := 53) rfl)) (hw _ (List.mem_of_getElem? (i := 24) rfl)) (hw _ (List.mem_of_getElem? (i := 25) rfl)) e0 (g := (mkF m 1 #[.val (.ref a1)] [(.ref a1)])) rfl (by rw [hml]; rfl) rfl (hb hby own_d7_1) (by decide) (W := 0) (by show 2 * 0 + _ ≤ _; exact Nat.le_of_eq rfl) (by decide)
  refine own_st (T' := T1) (g' := (mkF m 4 #[.val (.ref a1)] [])) st1 ?_
  exact own_retV X1 hx hlk hret (hb hby own_d7_4) (by decide) (by decide) ⟨rfl, e1, rfl⟩
theorem own_d3_0 : decode jdk_39_method_1_code 0 = .ok (.aload_n 0, 1) := by decide +kernel
theorem own_d3_1 : decode jdk_39_method_1_code 1 = .ok (.invokespecial 1, 3) := by decide +kernel
theorem own_d3_4 : decode jdk_39_method_1_code 4 = .ok (.aload_n 0, 1) := by decide +kernel
theorem own_d3_5 : decode jdk_39_method_1_code 5 = .ok (.iconst 0, 1) := by decide +kernel
theorem own_d3_6 : decode jdk_39_method_1_code 6 = .ok (.putfield 7, 3) := by decide +kernel
theorem own_d3_9 : decode jdk_39_method_1_code 9 = .ok (.return_, 1) := by decide +kernel
theorem own_pn3 : plainFor (⟨"java/util/AbstractList", "<init>", "()V"⟩ : MethodName) = true := plainFor_of_name (show plainName "java/util/AbstractList" = true by first | (simp [plainName, overriddenIn]; done) | decide +kernel)
theorem own_ef3 (m : MethodId) (a1 : Addr) : entryFrame m #[(.ref a1)] 1 = (mkF m 0 #[.val (.ref a1)] []) := by first | (simp [entryFrame, mkF, argsToLocals, Value.category]; done) | rfl
set_option maxRecDepth 65536 in
set_option maxHeartbeats 40000000 in
theorem own_rm3 (l : Launch) (Z : State) (a0 : Array Value) (hw : ∀ d ∈ tables_1, d.before a0 Z = true) (h0 : Heap) (n0 : Nat) (Z0 : n0 ≤ h0.size) (a1 : Addr) (um ue un : Value) (E_a1 : Exa Z h0 a1 "java/util/ArrayList") (F_modCount_a1 : Fld Z h0 a1 "java/util/AbstractList" "modCount" "I" um) (F_elementData_a1 : Fld Z h0 a1 "java/util/ArrayList" "elementData" "[Ljava/lang/Object;" ue) (F_size_a1 : Fld Z h0 a1 "java/util/ArrayList" "size" "I" un) (g_a1 : n0 ≤ a1) :
    own_C l Z (⟨"java/util/AbstractList", "<init>", "()V"⟩ : MethodName) jdk_39_method_1_code 1 none [] ({ frames := 2, cells := 0, slots := 0, locals := 24 } : Room) #[(.ref a1)] h0 (own_qal Z a1 (.int 0) ue un h0 n0) := by
  refine own_body own_pn3 (f0 := fun m => (mkF m 0 #[.val (.ref a1)] [])) (fun m => own_ef3 m a1) ?_
  intro p e s m below meth c s₁ hx hby hml hown hnm hret hlk hZ X0 e0
  change own_G p e below (own_F (own_qal Z a1 (.int 0) ue un h0 n0) s 0 0) s₁ (mkF m 0 #[.val (.ref a1)] [])
  have N0 := Fr.nil n0
  refine own_st (T' := s₁) (g' := (mkF m 1 #[.val (.ref a1)] [(.ref a1)])) (fun t k => XS.aloadN X0.here hx rfl (hb hby own_d3_0) rfl rfl k) ?_
  obtain ⟨_, T1, L1, hQ1, X1, st1⟩ := own_callI (y := (⟨"java/util/AbstractCollection", "<init>", "()V"⟩ : MethodName)) (argsL := []) 0 [] (own_rm4 l Z a0 hw h0 n0 Z0 a1) X0 hx hZ hown rfl (hw _ (List.mem_of_getElem? (i := 17) rfl)) (hw _ (List.mem_of_getElem? (i := 18) rfl)) (hw _ (List.mem_of_getElem? (i := 22) rfl)) (hw _ (List.mem_of_getElem? (i := 21) rfl)) (by decide) (by decide) (by decide) (by decide) (by decide) e0 (g := (mkF m 1 #[.val (.ref a1)] [(.ref a1)])) rfl (by rw [hml]; rfl) (lenOf own_pd0 rfl) rfl (by show 2 * 0 + _ ≤ _; exact Nat.le_of_eq rfl) (hb hby own_d3_1)
  obtain ⟨rfl, e1, rfl⟩ := hQ1
  have X1 : Stand p l e ({ frames := 2, cells := 0, slots := 0, locals := 24 } : Room) s m #[(.ref a1)] below meth c T1 [] 0 0 := X1
  refine own_st (T' := T1) (g' := (mkF m 4 #[.val (.ref a1)] [])) st1 ?_
  refine own_st (T' := T1) (g' := (mkF m 5 #[.val (.ref a1)] [(.ref a1)])) (fun t k => XS.aloadN X1.here hx rfl (hb hby own_d3_4) rfl rfl k) ?_
  refine own_st (T' := T1) (g' := (mkF m 6 #[.val (.ref a1)] [(.int (0 : Int32)), (.ref a1)])) (fun t k => XS.iconst X1.here hx rfl (hb hby own_d3_5) k) ?_
  obtain ⟨T2, h2, X2, e2, W2, st2⟩ := putF X1 hx hZ hown (host := "") (Or.inl (hw _ (List.mem_of_getElem? (i := 26) rfl))) Via.refl e1 F_modCount_a1 E_a1 (Or.inl (hw _ (List.mem_of_getElem? (i := 27) rfl))) (hw _ (List.mem_of_getElem? (i := 6) rfl)) (ty := .int) (by decide) rfl rfl (g := (mkF m 6 #[.val (.ref a1)] [(.int (0 : Int32)), (.ref a1)])) rfl rfl (hb hby own_d3_6)
  have E_a1 := E_a1.wr W2
  have F_modCount_a1 := F_modCount_a1.same W2
  have F_elementData_a1 := F_elementData_a1.other W2 (Or.inr (slot_ne (Or.inl (hw _ (List.mem_of_getElem? (i := 30) rfl))) (Or.inl (hw _ (List.mem_of_getElem? (i := 27) rfl))) (by decide) (t := (.array (.object "java/lang/Object"))) (t' := .int) (by decide) (by decide)))
  have F_size_a1 := F_size_a1.other W2 (Or.inr (slot_ne (Or.inl (hw _ (List.mem_of_getElem? (i := 74) rfl))) (Or.inl (hw _ (List.mem_of_getElem? (i := 27) rfl))) (by decide) (t := .int) (t' := .int) (by decide) (by decide)))
  have K0_2 := (Keep.refl h0 [a1]).wr W2 (Or.inl (List.mem_of_getElem? (i := 0) rfl))
  have N2 := Fr.snoc X2 N0 g_a1
  generalize hlc2 : ([] ++ [(⟨a1, Jvm.RoadKit.slotOf Z "java/util/AbstractList" "modCount" "I"⟩ : Loc)] : List Loc) = lc2 at X2 N2
  have Z2 : n0 ≤ h2.size := Nat.le_trans Z0 (Keep.of_wr W2).1
  refine own_st (T' := T2) (g' := (mkF m 9 #[.val (.ref a1)] [])) st2 ?_
  exact own_retV X2 hx hlk hret (hb hby own_d3_9) (by decide) (by decide) (by rw [e2]; exact ⟨rfl, N2, K0_2, E_a1, F_modCount_a1, F_elementData_a1, F_size_a1⟩)
theorem own_d2_0 : decode jdk_38_method_2_code 0 = .ok (.aload_n 0, 1) := by decide +kernel
theorem own_d2_1 : decode jdk_38_method_2_code 1 = .ok (.invokespecial 1, 3) := by decide +kernel
theorem own_d2_4 : decode jdk_38_method_2_code 4 = .ok (.aload_n 0, 1) := by decide +kernel
theorem own_d2_5 : decode jdk_38_method_2_code 5 = .ok (.getstatic 39, 3) := by decide +kernel
theorem own_d2_8 : decode jdk_38_method_2_code 8 = .ok (.putfield 9, 3) := by decide +kernel
theorem own_d2_11 : decode jdk_38_method_2_code 11 = .ok (.return_, 1) := by decide +kernel
theorem own_pn2 : plainFor (⟨"java/util/ArrayList", "<init>", "()V"⟩ : MethodName) = true := plainFor_of_name (show plainName "java/util/ArrayList" = true by first | (simp [plainName, overriddenIn]; done) | decide +kernel)
theorem own_ef2 (m : MethodId) (a1 : Addr) : entryFrame m #[(.ref a1)] 1 = (mkF m 0 #[.val (.ref a1)] []) := by first | (simp [entryFrame, mkF, argsToLocals, Value.category]; done) | rfl
set_option maxRecDepth 65536 in
set_option maxHeartbeats 40000000 in
theorem own_rm2 (l : Launch) (Z : State) (a0 : Array Value) (hw : ∀ d ∈ tables_1, d.before a0 Z = true) (h0 : Heap) (n0 : Nat) (Z0 : n0 ≤ h0.size) (a1 : Addr) (O : Old Z n0 h0) (s_DC : Addr) (S_DC : Sta Z Z.heap "java/util/ArrayList" "DEFAULTCAPACITY_EMPTY_ELEMENTDATA" "[Ljava/lang/Object;" (.ref s_DC)) (k_DC : ClassId) (A_DC : Arv Z Z.heap s_DC k_DC (.object "java/lang/Object") 0 [] .null) (um ue un : Value) (E_a1 : Exa Z h0 a1 "java/util/ArrayList") (F_modCount_a1 : Fld Z h0 a1 "java/util/AbstractList" "modCount" "I" um) (F_elementData_a1 : Fld Z h0 a1 "java/util/ArrayList" "elementData" "[Ljava/lang/Object;" ue) (F_size_a1 : Fld Z h0 a1 "java/util/ArrayList" "size" "I" un) (g_a1 : n0 ≤ a1) :
    own_C l Z (⟨"java/util/ArrayList", "<init>", "()V"⟩ : MethodName) jdk_38_method_2_code 1 none [] ({ frames := 3, cells := 0, slots := 0, locals := 36 } : Room) #[(.ref a1)] h0 (own_qal Z a1 (.int 0) (.ref s_DC) un h0 n0) := by
  refine own_body own_pn2 (f0 := fun m => (mkF m 0 #[.val (.ref a1)] [])) (fun m => own_ef2 m a1) ?_
  intro p e s m below meth c s₁ hx hby hml hown hnm hret hlk hZ X0 e0
  change own_G p e below (own_F (own_qal Z a1 (.int 0) (.ref s_DC) un h0 n0) s 0 0) s₁ (mkF m 0 #[.val (.ref a1)] [])
  have N0 := Fr.nil n0
  refine own_st (T' := s₁) (g' := (mkF m 1 #[.val (.ref a1)] [(.ref a1)])) (fun t k => XS.aloadN X0.here hx rfl (hb hby own_d2_0) rfl rfl k) ?_
  obtain ⟨_, T1, L1, hQ1, X1, st1⟩ := own_callI (y := (⟨"java/util/AbstractList", "<init>", "()V"⟩ : MethodName)) (argsL := []) 0 [] (own_rm3 l Z a0 hw h0 n0 Z0 a1 um ue un E_a1 F_modCount_a1 F_elementData_a1 F_size_a1 g_a1) X0 hx hZ hown rfl (hw _ (List.mem_of_getElem? (i := 11) rfl)) (hw _ (List.mem_of_getElem? (i := 12) rfl)) (hw _ (List.mem_of_getElem? (i := 16) rfl)) (hw _ (List.mem_of_getElem? (i := 15) rfl)) (by decide) (by decide) (by decide) (by decide) (by decide) e0 (g := (mkF m 1 #[.val (.ref a1)] [(.ref a1)])) rfl (by rw [hml]; rfl) (lenOf own_pd0 rfl) rfl (by show 2 * 0 + _ ≤ _; exact Nat.le_of_eq rfl) (hb hby own_d2_1)
  obtain ⟨rfl, N1q, Kq1, E_a1, F_modCount_a1, F_elementData_a1, F_size_a1⟩ := hQ1
  have K0_1 := (Keep.refl h0 [a1]).trans Kq1 (allS (Or.inl (List.mem_of_getElem? (i := 0) rfl)) all0)
  have Z1 : n0 ≤ T1.heap.size := Nat.le_trans Z0 Kq1.1
  have O := O.keep Kq1 (allS g_a1 all0)
  have N1 := Fr.app N0 N1q
  generalize hlc1 : ([] ++ L1 : List Loc) = lc1 at X1 N1
  have X1 : Stand p l e ({ frames := 3, cells := 0, slots := 0, locals := 36 } : Room) s m #[(.ref a1)] below meth c T1 lc1 0 0 := X1
  refine own_st (T' := T1) (g' := (mkF m 4 #[.val (.ref a1)] [])) st1 ?_
  refine own_st (T' := T1) (g' := (mkF m 5 #[.val (.ref a1)] [(.ref a1)])) (fun t k => XS.aloadN X1.here hx rfl (hb hby own_d2_4) rfl rfl k) ?_
  obtain ⟨T2, X2, e2, st2⟩ := getS2 X1 hx hZ hown (host := "") (Or.inl (hw _ (List.mem_of_getElem? (i := 28) rfl))) Via.refl rfl (S_DC.ext O.2) (g := (mkF m 5 #[.val (.ref a1)] [(.ref a1)])) rfl (hb hby own_d2_5)
  refine own_st (T' := T2) (g' := (mkF m 8 #[.val (.ref a1)] [(.ref s_DC), (.ref a1)])) st2 ?_
  obtain ⟨T3, h3, X3, e3, W3, st3⟩ := putF X2 hx hZ hown (host := "") (Or.inl (hw _ (List.mem_of_getElem? (i := 29) rfl))) Via.refl e2 F_elementData_a1 E_a1 (Or.inl (hw _ (List.mem_of_getElem? (i := 30) rfl))) (hw _ (List.mem_of_getElem? (i := 6) rfl)) (ty := (.array (.object "java/lang/Object"))) (by decide) rfl rfl (g := (mkF m 8 #[.val (.ref a1)] [(.ref s_DC), (.ref a1)])) rfl rfl (hb hby own_d2_8)
  have O := O.wr W3 g_a1
  have E_a1 := E_a1.wr W3
  have F_modCount_a1 := F_modCount_a1.other W3 (Or.inr (slot_ne (Or.inl (hw _ (List.mem_of_getElem? (i := 27) rfl))) (Or.inl (hw _ (List.mem_of_getElem? (i := 30) rfl))) (by decide) (t := .int) (t' := (.array (.object "java/lang/Object"))) (by decide) (by decide)))
  have F_elementData_a1 := F_elementData_a1.same W3
  have F_size_a1 := F_size_a1.other W3 (Or.inr (slot_ne (Or.inl (hw _ (List.mem_of_getElem? (i := 74) rfl))) (Or.inl (hw _ (List.mem_of_getElem? (i := 30) rfl))) (by decide) (t := .int) (t' := (.array (.object "java/lang/Object"))) (by decide) (by decide)))
  have K0_3 := K0_1.wr W3 (Or.inl (List.mem_of_getElem? (i := 0) rfl))
  have N3 := Fr.snoc X3 N1 g_a1
  generalize hlc3 : (lc1 ++ [(⟨a1, Jvm.RoadKit.slotOf Z "java/util/ArrayList" "elementData" "[Ljava/lang/Object;"⟩ : Loc)] : List Loc) = lc3 at X3 N3
  have Z3 : n0 ≤ h3.size := Nat.le_trans Z1 (Keep.of_wr W3).1
  refine own_st (T' := T3) (g' := (mkF m 11 #[.val (.ref a1)] [])) st3 ?_
  exact own_retV X3 hx hlk hret (hb hby own_d2_11) (by decide) (by decide) (by rw [e3]; exact ⟨rfl, N3, K0_3, E_a1, F_modCount_a1, F_elementData_a1, F_size_a1⟩)
theorem own_d6_0 : decode prog_83_method_1_code 0 = .ok (.aload_n 0, 1) := by decide +kernel
theorem own_d6_1 : decode prog_83_method_1_code 1 = .ok (.invokespecial 1, 3) := by decide +kernel
theorem own_d6_4 : decode prog_83_method_1_code 4 = .ok (.aload_n 0, 1) := by decide +kernel
theorem own_d6_5 : decode prog_83_method_1_code 5 = .ok (.aload_n 1, 1) := by decide +kernel
theorem own_d6_6 : decode prog_83_method_1_code 6 = .ok (.putfield 7, 3) := by decide +kernel
theorem own_d6_9 : decode prog_83_method_1_code 9 = .ok (.aload_n 0, 1) := by decide +kernel
theorem own_d6_10 : decode prog_83_method_1_code 10 = .ok (.aload_n 2, 1) := by decide +kernel
theorem own_d6_11 : decode prog_83_method_1_code 11 = .ok (.putfield 13, 3) := by decide +kernel
theorem own_d6_14 : decode prog_83_method_1_code 14 = .ok (.aload_n 0, 1) := by decide +kernel
theorem own_d6_15 : decode prog_83_method_1_code 15 = .ok (.iload_n 3, 1) := by decide +kernel
theorem own_d6_16 : decode prog_83_method_1_code 16 = .ok (.putfield 17, 3) := by decide +kernel
theorem own_d6_19 : decode prog_83_method_1_code 19 = .ok (.aload_n 0, 1) := by decide +kernel
theorem own_d6_20 : decode prog_83_method_1_code 20 = .ok (.lload 4, 2) := by decide +kernel
theorem own_d6_22 : decode prog_83_method_1_code 22 = .ok (.putfield 21, 3) := by decide +kernel
theorem own_d6_25 : decode prog_83_method_1_code 25 = .ok (.aload_n 0, 1) := by decide +kernel
theorem own_d6_26 : decode prog_83_method_1_code 26 = .ok (.lload 6, 2) := by decide +kernel
theorem own_d6_28 : decode prog_83_method_1_code 28 = .ok (.putfield 25, 3) := by decide +kernel
theorem own_d6_31 : decode prog_83_method_1_code 31 = .ok (.aload_n 0, 1) := by decide +kernel
theorem own_d6_32 : decode prog_83_method_1_code 32 = .ok (.aload 8, 2) := by decide +kernel
theorem own_d6_34 : decode prog_83_method_1_code 34 = .ok (.putfield 28, 3) := by decide +kernel
theorem own_d6_37 : decode prog_83_method_1_code 37 = .ok (.return_, 1) := by decide +kernel
theorem own_pn6 : plainFor (⟨"com/example/astraea/astraea/lang/Variable", "<init>", "(Ljava/lang/String;Lcom/example/astraea/astraea/lang/Type;ZJJLcom/example/astraea/astraea/lang/Position;)V"⟩ : MethodName) = true := plainFor_of_name (show plainName "com/example/astraea/astraea/lang/Variable" = true by first | (simp [plainName, overriddenIn]; done) | decide +kernel)
theorem own_ef6 (m : MethodId) (a1 : Addr) (a2 : Addr) (a3 : Addr) (p4 : Int32) (q5 : Int64) (q6 : Int64) : entryFrame m #[(.ref a1), (.ref a2), (.ref a3), (.int p4), (.long q5), (.long q6), .null] 9 = (mkF m 0 #[.val (.ref a1), .val (.ref a2), .val (.ref a3), .val (.int p4), .val (.long q5), .second, .val (.long q6), .second, .val .null] []) := by first | (simp [entryFrame, mkF, argsToLocals, Value.category]; done) | rfl
set_option maxRecDepth 65536 in
set_option maxHeartbeats 40000000 in
theorem own_rm6 (l : Launch) (Z : State) (a0 : Array Value) (hw : ∀ d ∈ tables_1, d.before a0 Z = true) (h0 : Heap) (n0 : Nat) (Z0 : n0 ≤ h0.size) (a1 : Addr) (a2 : Addr) (a3 : Addr) (p4 : Int32) (q5 : Int64) (q6 : Int64) (E_a1 : Exa Z h0 a1 "com/example/astraea/astraea/lang/Variable") (g_a1 : n0 ≤ a1) (hbz : p4 = 0 ∨ p4 = 1) (u_name : Value) (F_name_a1 : Fld Z h0 a1 "com/example/astraea/astraea/lang/Variable" "name" "Ljava/lang/String;" u_name) (u_type : Value) (F_type_a1 : Fld Z h0 a1 "com/example/astraea/astraea/lang/Variable" "type" "Lcom/example/astraea/astraea/lang/Type;" u_type) (u_bounded : Value) (F_bounded_a1 : Fld Z h0 a1 "com/example/astraea/astraea/lang/Variable" "bounded" "Z" u_bounded) (u_lower : Value) (F_lower_a1 : Fld Z h0 a1 "com/example/astraea/astraea/lang/Variable" "lower" "J" u_lower) (u_upper : Value) (F_upper_a1 : Fld Z h0 a1 "com/example/astraea/astraea/lang/Variable" "upper" "J" u_upper) (u_position : Value) (F_position_a1 : Fld Z h0 a1 "com/example/astraea/astraea/lang/Variable" "position" "Lcom/example/astraea/astraea/lang/Position;" u_position) :
    own_C l Z (⟨"com/example/astraea/astraea/lang/Variable", "<init>", "(Ljava/lang/String;Lcom/example/astraea/astraea/lang/Type;ZJJLcom/example/astraea/astraea/lang/Position;)V"⟩ : MethodName) prog_83_method_1_code 9 none [] ({ frames := 2, cells := 0, slots := 0, locals := 24 } : Room) #[(.ref a1), (.ref a2), (.ref a3), (.int p4), (.long q5), (.long q6), .null] h0 (own_qv Z a1 p4 q5 q6 h0 n0) := by
  refine own_body own_pn6 (f0 := fun m => (mkF m 0 #[.val (.ref a1), .val (.ref a2), .val (.ref a3), .val (.int p4), .val (.long q5), .second, .val (.long q6), .second, .val .null] [])) (fun m => own_ef6 m a1 a2 a3 p4 q5 q6) ?_
  intro p e s m below meth c s₁ hx hby hml hown hnm hret hlk hZ X0 e0
  change own_G p e below (own_F (own_qv Z a1 p4 q5 q6 h0 n0) s 0 0) s₁ (mkF m 0 #[.val (.ref a1), .val (.ref a2), .val (.ref a3), .val (.int p4), .val (.long q5), .second, .val (.long q6), .second, .val .null] [])
  have N0 := Fr.nil n0
  refine own_st (T' := s₁) (g' := (mkF m 1 #[.val (.ref a1), .val (.ref a2), .val (.ref a3), .val (.int p4), .val (.long q5), .second, .val (.long q6), .second, .val .null] [(.ref a1)])) (fun t k => XS.aloadN X0.here hx rfl (hb hby own_d6_0) rfl rfl k) ?_
  obtain ⟨_, T1, L1, hQ1, X1, st1⟩ := own_callI (y := (⟨"java/lang/Record", "<init>", "()V"⟩ : MethodName)) (argsL := []) 0 [] (own_rm7 l Z a0 hw h0 n0 Z0 a1) X0 hx hZ hown rfl (hw _ (List.mem_of_getElem? (i := 48) rfl)) (hw _ (List.mem_of_getElem? (i := 49) rfl)) (hw _ (List.mem_of_getElem? (i := 52) rfl)) (hw _ (List.mem_of_getElem? (i := 51) rfl)) (by decide) (by decide) (by decide) (by decide) (by decide) e0 (g := (mkF m 1 #[.val (.ref a1), .val (.ref a2), .val (.ref a3), .val (.int p4), .val (.long q5), .second, .val (.long q6), .second, .val .null] [(.ref a1)])) rfl (by rw [hml]; rfl) (lenOf own_pd0 rfl) rfl (by show 2 * 0 + _ ≤ _; exact Nat.le_of_eq rfl) (hb hby own_d6_1)
  obtain ⟨rfl, e1, rfl⟩ := hQ1
  have X1 : Stand p l e ({ frames := 2, cells := 0, slots := 0, locals := 24 } : Room) s m #[(.ref a1), (.ref a2), (.ref a3), (.int p4), (.long q5), (.long q6), .null] below meth c T1 [] 0 0 := X1
  refine own_st (T' := T1) (g' := (mkF m 4 #[.val (.ref a1), .val (.ref a2), .val (.ref a3), .val (.int p4), .val (.long q5), .second, .val (.long q6), .second, .val .null] [])) st1 ?_
  refine own_st (T' := T1) (g' := (mkF m 5 #[.val (.ref a1), .val (.ref a2), .val (.ref a3), .val (.int p4), .val (.long q5), .second, .val (.long q6), .second, .val .null] [(.ref a1)])) (fun t k => XS.aloadN X1.here hx rfl (hb hby own_d6_4) rfl rfl k) ?_
  refine own_st (T' := T1) (g' := (mkF m 6 #[.val (.ref a1), .val (.ref a2), .val (.ref a3), .val (.int p4), .val (.long q5), .second, .val (.long q6), .second, .val .null] [(.ref a2), (.ref a1)])) (fun t k => XS.aloadN X1.here hx rfl (hb hby own_d6_5) rfl rfl k) ?_
  obtain ⟨T2, h2, X2, e2, W2, st2⟩ := putF X1 hx hZ hown (host := "") (Or.inl (hw _ (List.mem_of_getElem? (i := 54) rfl))) Via.refl e1 F_name_a1 E_a1 (Or.inr ⟨(hw _ (List.mem_of_getElem? (i := 55) rfl)), rfl, hnm⟩) (hw _ (List.mem_of_getElem? (i := 32) rfl)) (ty := (.object "java/lang/String")) (by decide) rfl rfl (g := (mkF m 6 #[.val (.ref a1), .val (.ref a2), .val (.ref a3), .val (.int p4), .val (.long q5), .second, .val (.long q6), .second, .val .null] [(.ref a2), (.ref a1)])) rfl rfl (hb hby own_d6_6)
  have E_a1 := E_a1.wr W2
  have F_name_a1 := F_name_a1.same W2
  have F_type_a1 := F_type_a1.other W2 (Or.inr (slot_ne (Or.inr (hw _ (List.mem_of_getElem? (i := 57) rfl))) (Or.inr (hw _ (List.mem_of_getElem? (i := 55) rfl))) (by decide) (t := (.object "com/example/astraea/astraea/lang/Type")) (t' := (.object "java/lang/String")) (by decide) (by decide)))
  have F_bounded_a1 := F_bounded_a1.other W2 (Or.inr (slot_ne (Or.inr (hw _ (List.mem_of_getElem? (i := 59) rfl))) (Or.inr (hw _ (List.mem_of_getElem? (i := 55) rfl))) (by decide) (t := .boolean) (t' := (.object "java/lang/String")) (by decide) (by decide)))
  have F_lower_a1 := F_lower_a1.other W2 (Or.inr (slot_ne (Or.inr (hw _ (List.mem_of_getElem? (i := 61) rfl))) (Or.inr (hw _ (List.mem_of_getElem? (i := 55) rfl))) (by decide) (t := .long) (t' := (.object "java/lang/String")) (by decide) (by decide)))
  have F_upper_a1 := F_upper_a1.other W2 (Or.inr (slot_ne (Or.inr (hw _ (List.mem_of_getElem? (i := 63) rfl))) (Or.inr (hw _ (List.mem_of_getElem? (i := 55) rfl))) (by decide) (t := .long) (t' := (.object "java/lang/String")) (by decide) (by decide)))
  have F_position_a1 := F_position_a1.other W2 (Or.inr (slot_ne (Or.inr (hw _ (List.mem_of_getElem? (i := 65) rfl))) (Or.inr (hw _ (List.mem_of_getElem? (i := 55) rfl))) (by decide) (t := (.object "com/example/astraea/astraea/lang/Position")) (t' := (.object "java/lang/String")) (by decide) (by decide)))
  have K0_2 := (Keep.refl h0 [a1]).wr W2 (Or.inl (List.mem_of_getElem? (i := 0) rfl))
  have N2 := Fr.snoc X2 N0 g_a1
  generalize hlc2 : ([] ++ [(⟨a1, Jvm.RoadKit.slotOf Z "com/example/astraea/astraea/lang/Variable" "name" "Ljava/lang/String;"⟩ : Loc)] : List Loc) = lc2 at X2 N2
  have Z2 : n0 ≤ h2.size := Nat.le_trans Z0 (Keep.of_wr W2).1
  refine own_st (T' := T2) (g' := (mkF m 9 #[.val (.ref a1), .val (.ref a2), .val (.ref a3), .val (.int p4), .val (.long q5), .second, .val (.long q6), .second, .val .null] [])) st2 ?_
  refine own_st (T' := T2) (g' := (mkF m 10 #[.val (.ref a1), .val (.ref a2), .val (.ref a3), .val (.int p4), .val (.long q5), .second, .val (.long q6), .second, .val .null] [(.ref a1)])) (fun t k => XS.aloadN X2.here hx rfl (hb hby own_d6_9) rfl rfl k) ?_
  refine own_st (T' := T2) (g' := (mkF m 11 #[.val (.ref a1), .val (.ref a2), .val (.ref a3), .val (.int p4), .val (.long q5), .second, .val (.long q6), .second, .val .null] [(.ref a3), (.ref a1)])) (fun t k => XS.aloadN X2.here hx rfl (hb hby own_d6_10) rfl rfl k) ?_
  obtain ⟨T3, h3, X3, e3, W3, st3⟩ := putF X2 hx hZ hown (host := "") (Or.inl (hw _ (List.mem_of_getElem? (i := 56) rfl))) Via.refl e2 F_type_a1 E_a1 (Or.inr ⟨(hw _ (List.mem_of_getElem? (i := 57) rfl)), rfl, hnm⟩) (hw _ (List.mem_of_getElem? (i := 32) rfl)) (ty := (.object "com/example/astraea/astraea/lang/Type")) (by decide) rfl rfl (g := (mkF m 11 #[.val (.ref a1), .val (.ref a2), .val (.ref a3), .val (.int p4), .val (.long q5), .second, .val (.long q6), .second, .val .null] [(.ref a3), (.ref a1)])) rfl rfl (hb hby own_d6_11)
  have E_a1 := E_a1.wr W3
  have F_name_a1 := F_name_a1.other W3 (Or.inr (slot_ne (Or.inr (hw _ (List.mem_of_getElem? (i := 55) rfl))) (Or.inr (hw _ (List.mem_of_getElem? (i := 57) rfl))) (by decide) (t := (.object "java/lang/String")) (t' := (.object "com/example/astraea/astraea/lang/Type")) (by decide) (by decide)))
  have F_type_a1 := F_type_a1.same W3
  have F_bounded_a1 := F_bounded_a1.other W3 (Or.inr (slot_ne (Or.inr (hw _ (List.mem_of_getElem? (i := 59) rfl))) (Or.inr (hw _ (List.mem_of_getElem? (i := 57) rfl))) (by decide) (t := .boolean) (t' := (.object "com/example/astraea/astraea/lang/Type")) (by decide) (by decide)))
  have F_lower_a1 := F_lower_a1.other W3 (Or.inr (slot_ne (Or.inr (hw _ (List.mem_of_getElem? (i := 61) rfl))) (Or.inr (hw _ (List.mem_of_getElem? (i := 57) rfl))) (by decide) (t := .long) (t' := (.object "com/example/astraea/astraea/lang/Type")) (by decide) (by decide)))
  have F_upper_a1 := F_upper_a1.other W3 (Or.inr (slot_ne (Or.inr (hw _ (List.mem_of_getElem? (i := 63) rfl))) (Or.inr (hw _ (List.mem_of_getElem? (i := 57) rfl))) (by decide) (t := .long) (t' := (.object "com/example/astraea/astraea/lang/Type")) (by decide) (by decide)))
  have F_position_a1 := F_position_a1.other W3 (Or.inr (slot_ne (Or.inr (hw _ (List.mem_of_getElem? (i := 65) rfl))) (Or.inr (hw _ (List.mem_of_getElem? (i := 57) rfl))) (by decide) (t := (.object "com/example/astraea/astraea/lang/Position")) (t' := (.object "com/example/astraea/astraea/lang/Type")) (by decide) (by decide)))
  have K0_3 := K0_2.wr W3 (Or.inl (List.mem_of_getElem? (i := 0) rfl))
  have N3 := Fr.snoc X3 N2 g_a1
  generalize hlc3 : (lc2 ++ [(⟨a1, Jvm.RoadKit.slotOf Z "com/example/astraea/astraea/lang/Variable" "type" "Lcom/example/astraea/astraea/lang/Type;"⟩ : Loc)] : List Loc) = lc3 at X3 N3
  have Z3 : n0 ≤ h3.size := Nat.le_trans Z2 (Keep.of_wr W3).1
  refine own_st (T' := T3) (g' := (mkF m 14 #[.val (.ref a1), .val (.ref a2), .val (.ref a3), .val (.int p4), .val (.long q5), .second, .val (.long q6), .second, .val .null] [])) st3 ?_
  refine own_st (T' := T3) (g' := (mkF m 15 #[.val (.ref a1), .val (.ref a2), .val (.ref a3), .val (.int p4), .val (.long q5), .second, .val (.long q6), .second, .val .null] [(.ref a1)])) (fun t k => XS.aloadN X3.here hx rfl (hb hby own_d6_14) rfl rfl k) ?_
  refine own_st (T' := T3) (g' := (mkF m 16 #[.val (.ref a1), .val (.ref a2), .val (.ref a3), .val (.int p4), .val (.long q5), .second, .val (.long q6), .second, .val .null] [(.int p4), (.ref a1)])) (fun t k => XS.iloadN X3.here hx rfl (hb hby own_d6_15) rfl k) ?_
  obtain ⟨T4, h4, X4, e4, W4, st4⟩ := putFN X3 hx hZ hown (hw _ (List.mem_of_getElem? (i := 58) rfl)) Via.refl e3 F_bounded_a1 E_a1 (Or.inr ⟨(hw _ (List.mem_of_getElem? (i := 59) rfl)), rfl, hnm⟩) (hw _ (List.mem_of_getElem? (i := 32) rfl)) (ty := .boolean) (v' := (.int p4)) (by decide) (own_narv hbz).1 (own_narv hbz).2 (g := (mkF m 16 #[.val (.ref a1), .val (.ref a2), .val (.ref a3), .val (.int p4), .val (.long q5), .second, .val (.long q6), .second, .val .null] [(.int p4), (.ref a1)])) rfl rfl (hb hby own_d6_16)
  have E_a1 := E_a1.wr W4
  have F_name_a1 := F_name_a1.other W4 (Or.inr (slot_ne (Or.inr (hw _ (List.mem_of_getElem? (i := 55) rfl))) (Or.inr (hw _ (List.mem_of_getElem? (i := 59) rfl))) (by decide) (t := (.object "java/lang/String")) (t' := .boolean) (by decide) (by decide)))
  have F_type_a1 := F_type_a1.other W4 (Or.inr (slot_ne (Or.inr (hw _ (List.mem_of_getElem? (i := 57) rfl))) (Or.inr (hw _ (List.mem_of_getElem? (i := 59) rfl))) (by decide) (t := (.object "com/example/astraea/astraea/lang/Type")) (t' := .boolean) (by decide) (by decide)))
  have F_bounded_a1 := F_bounded_a1.same W4
  have F_lower_a1 := F_lower_a1.other W4 (Or.inr (slot_ne (Or.inr (hw _ (List.mem_of_getElem? (i := 61) rfl))) (Or.inr (hw _ (List.mem_of_getElem? (i := 59) rfl))) (by decide) (t := .long) (t' := .boolean) (by decide) (by decide)))
  have F_upper_a1 := F_upper_a1.other W4 (Or.inr (slot_ne (Or.inr (hw _ (List.mem_of_getElem? (i := 63) rfl))) (Or.inr (hw _ (List.mem_of_getElem? (i := 59) rfl))) (by decide) (t := .long) (t' := .boolean) (by decide) (by decide)))
  have F_position_a1 := F_position_a1.other W4 (Or.inr (slot_ne (Or.inr (hw _ (List.mem_of_getElem? (i := 65) rfl))) (Or.inr (hw _ (List.mem_of_getElem? (i := 59) rfl))) (by decide) (t := (.object "com/example/astraea/astraea/lang/Position")) (t' := .boolean) (by decide) (by decide)))
  have K0_4 := K0_3.wr W4 (Or.inl (List.mem_of_getElem? (i := 0) rfl))
  have N4 := Fr.snoc X4 N3 g_a1
  generalize hlc4 : (lc3 ++ [(⟨a1, Jvm.RoadKit.slotOf Z "com/example/astraea/astraea/lang/Variable" "bounded" "Z"⟩ : Loc)] : List Loc) = lc4 at X4 N4
  have Z4 : n0 ≤ h4.size := Nat.le_trans Z3 (Keep.of_wr W4).1
  refine own_st (T' := T4) (g' := (mkF m 19 #[.val (.ref a1), .val (.ref a2), .val (.ref a3), .val (.int p4), .val (.long q5), .second, .val (.long q6), .second, .val .null] [])) st4 ?_
  refine own_st (T' := T4) (g' := (mkF m 20 #[.val (.ref a1), .val (.ref a2), .val (.ref a3), .val (.int p4), .val (.long q5), .second, .val (.long q6), .second, .val .null] [(.ref a1)])) (fun t k => XS.aloadN X4.here hx rfl (hb hby own_d6_19) rfl rfl k) ?_
  refine own_st (T' := T4) (g' := (mkF m 22 #[.val (.ref a1), .val (.ref a2), .val (.ref a3), .val (.int p4), .val (.long q5), .second, .val (.long q6), .second, .val .null] [(.long q5), (.ref a1)])) (fun t k => XS.lload X4.here hx rfl (hb hby own_d6_20) rfl k) ?_
  obtain ⟨T5, h5, X5, e5, W5, st5⟩ := putF X4 hx hZ hown (host := "") (Or.inl (hw _ (List.mem_of_getElem? (i := 60) rfl))) Via.refl e4 F_lower_a1 E_a1 (Or.inr ⟨(hw _ (List.mem_of_getElem? (i := 61) rfl)), rfl, hnm⟩) (hw _ (List.mem_of_getElem? (i := 32) rfl)) (ty := .long) (by decide) rfl rfl (g := (mkF m 22 #[.val (.ref a1), .val (.ref a2), .val (.ref a3), .val (.int p4), .val (.long q5), .second, .val (.long q6), .second, .val .null] [(.long q5), (.ref a1)])) rfl rfl (hb hby own_d6_22)
  have E_a1 := E_a1.wr W5
  have F_name_a1 := F_name_a1.other W5 (Or.inr (slot_ne (Or.inr (hw _ (List.mem_of_getElem? (i := 55) rfl))) (Or.inr (hw _ (List.mem_of_getElem? (i := 61) rfl))) (by decide) (t := (.object "java/lang/String")) (t' := .long) (by decide) (by decide)))
  have F_type_a1 := F_type_a1.other W5 (Or.inr (slot_ne (Or.inr (hw _ (List.mem_of_getElem? (i := 57) rfl))) (Or.inr (hw _ (List.mem_of_getElem? (i := 61) rfl))) (by decide) (t := (.object "com/example/astraea/astraea/lang/Type")) (t' := .long) (by decide) (by decide)))
  have F_bounded_a1 := F_bounded_a1.other W5 (Or.inr (slot_ne (Or.inr (hw _ (List.mem_of_getElem? (i := 59) rfl))) (Or.inr (hw _ (List.mem_of_getElem? (i := 61) rfl))) (by decide) (t := .boolean) (t' := .long) (by decide) (by decide)))
  have F_lower_a1 := F_lower_a1.same W5
  have F_upper_a1 := F_upper_a1.other W5 (Or.inr (slot_ne (Or.inr (hw _ (List.mem_of_getElem? (i := 63) rfl))) (Or.inr (hw _ (List.mem_of_getElem? (i := 61) rfl))) (by decide) (t := .long) (t' := .long) (by decide) (by decide)))
  have F_position_a1 := F_position_a1.other W5 (Or.inr (slot_ne (Or.inr (hw _ (List.mem_of_getElem? (i := 65) rfl))) (Or.inr (hw _ (List.mem_of_getElem? (i := 61) rfl))) (by decide) (t := (.object "com/example/astraea/astraea/lang/Position")) (t' := .long) (by decide) (by decide)))
  have K0_5 := K0_4.wr W5 (Or.inl (List.mem_of_getElem? (i := 0) rfl))
  have N5 := Fr.snoc X5 N4 g_a1
  generalize hlc5 : (lc4 ++ [(⟨a1, Jvm.RoadKit.slotOf Z "com/example/astraea/astraea/lang/Variable" "lower" "J"⟩ : Loc)] : List Loc) = lc5 at X5 N5
  have Z5 : n0 ≤ h5.size := Nat.le_trans Z4 (Keep.of_wr W5).1
  refine own_st (T' := T5) (g' := (mkF m 25 #[.val (.ref a1), .val (.ref a2), .val (.ref a3), .val (.int p4), .val (.long q5), .second, .val (.long q6), .second, .val .null] [])) st5 ?_
  refine own_st (T' := T5) (g' := (mkF m 26 #[.val (.ref a1), .val (.ref a2), .val (.ref a3), .val (.int p4), .val (.long q5), .second, .val (.long q6), .second, .val .null] [(.ref a1)])) (fun t k => XS.aloadN X5.here hx rfl (hb hby own_d6_25) rfl rfl k) ?_
  refine own_st (T' := T5) (g' := (mkF m 28 #[.val (.ref a1), .val (.ref a2), .val (.ref a3), .val (.int p4), .val (.long q5), .second, .val (.long q6), .second, .val .null] [(.long q6), (.ref a1)])) (fun t k => XS.lload X5.here hx rfl (hb hby own_d6_26) rfl k) ?_
  obtain ⟨T6, h6, X6, e6, W6, st6⟩ := putF X5 hx hZ hown (host := "") (Or.inl (hw _ (List.mem_of_getElem? (i := 62) rfl))) Via.refl e5 F_upper_a1 E_a1 (Or.inr ⟨(hw _ (List.mem_of_getElem? (i := 63) rfl)), rfl, hnm⟩) (hw _ (List.mem_of_getElem? (i := 32) rfl)) (ty := .long) (by decide) rfl rfl (g := (mkF m 28 #[.val (.ref a1), .val (.ref a2), .val (.ref a3), .val (.int p4), .val (.long q5), .second, .val (.long q6), .second, .val .null] [(.long q6), (.ref a1)])) rfl rfl (hb hby own_d6_28)
  have E_a1 := E_a1.wr W6
  have F_name_a1 := F_name_a1.other W6 (Or.inr (slot_ne (Or.inr (hw _ (List.mem_of_getElem? (i := 55) rfl))) (Or.inr (hw _ (List.mem_of_getElem? (i := 63) rfl))) (by decide) (t := (.object "java/lang/String")) (t' := .long) (by decide) (by decide)))
  have F_type_a1 := F_type_a1.other W6 (Or.inr (slot_ne (Or.inr (hw _ (List.mem_of_getElem? (i := 57) rfl))) (Or.inr (hw _ (List.mem_of_getElem? (i := 63) rfl))) (by decide) (t := (.object "com/example/astraea/astraea/lang/Type")) (t' := .long) (by decide) (by decide)))
  have F_bounded_a1 := F_bounded_a1.other W6 (Or.inr (slot_ne (Or.inr (hw _ (List.mem_of_getElem? (i := 59) rfl))) (Or.inr (hw _ (List.mem_of_getElem? (i := 63) rfl))) (by decide) (t := .boolean) (t' := .long) (by decide) (by decide)))
  have F_lower_a1 := F_lower_a1.other W6 (Or.inr (slot_ne (Or.inr (hw _ (List.mem_of_getElem? (i := 61) rfl))) (Or.inr (hw _ (List.mem_of_getElem? (i := 63) rfl))) (by decide) (t := .long) (t' := .long) (by decide) (by decide)))
  have F_upper_a1 := F_upper_a1.same W6
  have F_position_a1 := F_position_a1.other W6 (Or.inr (slot_ne (Or.inr (hw _ (List.mem_of_getElem? (i := 65) rfl))) (Or.inr (hw _ (List.mem_of_getElem? (i := 63) rfl))) (by decide) (t := (.object "com/example/astraea/astraea/lang/Position")) (t' := .long) (by decide) (by decide)))
  have K0_6 := K0_5.wr W6 (Or.inl (List.mem_of_getElem? (i := 0) rfl))
  have N6 := Fr.snoc X6 N5 g_a1
  generalize hlc6 : (lc5 ++ [(⟨a1, Jvm.RoadKit.slotOf Z "com/example/astraea/astraea/lang/Variable" "upper" "J"⟩ : Loc)] : List Loc) = lc6 at X6 N6
  have Z6 : n0 ≤ h6.size := Nat.le_trans Z5 (Keep.of_wr W6).1
  refine own_st (T' := T6) (g' := (mkF m 31 #[.val (.ref a1), .val (.ref a2), .val (.ref a3), .val (.int p4), .val (.long q5), .second, .val (.long q6), .second, .val .null] [])) st6 ?_
  refine own_st (T' := T6) (g' := (mkF m 32 #[.val (.ref a1), .val (.ref a2), .val (.ref a3), .val (.int p4), .val (.long q5), .second, .val (.long q6), .second, .val .null] [(.ref a1)])) (fun t k => XS.aloadN X6.here hx rfl (hb hby own_d6_31) rfl rfl k) ?_
  refine own_st (T' := T6) (g' := (mkF m 34 #[.val (.ref a1), .val (.ref a2), .val (.ref a3), .val (.int p4), .val (.long q5), .second, .val (.long q6), .second, .val .null] [.null, (.ref a1)])) (fun t k => XS.aload X6.here hx rfl (hb hby own_d6_32) rfl rfl k) ?_
  obtain ⟨T7, h7, X7, e7, W7, st7⟩ := putF X6 hx hZ hown (host := "") (Or.inl (hw _ (List.mem_of_getElem? (i := 64) rfl))) Via.refl e6 F_position_a1 E_a1 (Or.inr ⟨(hw _ (List.mem_of_getElem? (i := 65) rfl)), rfl, hnm⟩) (hw _ (List.mem_of_getElem? (i := 32) rfl)) (ty := (.object "com/example/astraea/astraea/lang/Position")) (by decide) rfl rfl (g := (mkF m 34 #[.val (.ref a1), .val (.ref a2), .val (.ref a3), .val (.int p4), .val (.long q5), .second, .val (.long q6), .second, .val .null] [.null, (.ref a1)])) rfl rfl (hb hby own_d6_34)
  have E_a1 := E_a1.wr W7
  have F_name_a1 := F_name_a1.other W7 (Or.inr (slot_ne (Or.inr (hw _ (List.mem_of_getElem? (i := 55) rfl))) (Or.inr (hw _ (List.mem_of_getElem? (i := 65) rfl))) (by decide) (t := (.object "java/lang/String")) (t' := (.object "com/example/astraea/astraea/lang/Position")) (by decide) (by decide)))
  have F_type_a1 := F_type_a1.other W7 (Or.inr (slot_ne (Or.inr (hw _ (List.mem_of_getElem? (i := 57) rfl))) (Or.inr (hw _ (List.mem_of_getElem? (i := 65) rfl))) (by decide) (t := (.object "com/example/astraea/astraea/lang/Type")) (t' := (.object "com/example/astraea/astraea/lang/Position")) (by decide) (by decide)))
  have F_bounded_a1 := F_bounded_a1.other W7 (Or.inr (slot_ne (Or.inr (hw _ (List.mem_of_getElem? (i := 59) rfl))) (Or.inr (hw _ (List.mem_of_getElem? (i := 65) rfl))) (by decide) (t := .boolean) (t' := (.object "com/example/astraea/astraea/lang/Position")) (by decide) (by decide)))
  have F_lower_a1 := F_lower_a1.other W7 (Or.inr (slot_ne (Or.inr (hw _ (List.mem_of_getElem? (i := 61) rfl))) (Or.inr (hw _ (List.mem_of_getElem? (i := 65) rfl))) (by decide) (t := .long) (t' := (.object "com/example/astraea/astraea/lang/Position")) (by decide) (by decide)))
  have F_upper_a1 := F_upper_a1.other W7 (Or.inr (slot_ne (Or.inr (hw _ (List.mem_of_getElem? (i := 63) rfl))) (Or.inr (hw _ (List.mem_of_getElem? (i := 65) rfl))) (by decide) (t := .long) (t' := (.object "com/example/astraea/astraea/lang/Position")) (by decide) (by decide)))
  have F_position_a1 := F_position_a1.same W7
  have K0_7 := K0_6.wr W7 (Or.inl (List.mem_of_getElem? (i := 0) rfl))
  have N7 := Fr.snoc X7 N6 g_a1
  generalize hlc7 : (lc6 ++ [(⟨a1, Jvm.RoadKit.slotOf Z "com/example/astraea/astraea/lang/Variable" "position" "Lcom/example/astraea/astraea/lang/Position;"⟩ : Loc)] : List Loc) = lc7 at X7 N7
  have Z7 : n0 ≤ h7.size := Nat.le_trans Z6 (Keep.of_wr W7).1
  refine own_st (T' := T7) (g' := (mkF m 37 #[.val (.ref a1), .val (.ref a2), .val (.ref a3), .val (.int p4), .val (.long q5), .second, .val (.long q6), .second, .val .null] [])) st7 ?_
  exact own_retV X7 hx hlk hret (hb hby own_d6_37) (by decide) (by decide) (by rw [e7]; exact ⟨rfl, N7, K0_7, E_a1, F_bounded_a1, F_lower_a1, F_upper_a1⟩)
theorem own_d12_0 : decode jdk_29_method_65_code 0 = .ok (.iload_n 0, 1) := by decide +kernel
theorem own_d12_1 : decode jdk_29_method_65_code 1 = .ok (.iload_n 1, 1) := by decide +kernel
theorem own_d12_2 : decode jdk_29_method_65_code 2 = .ok (.if_icmp .lt 7, 3) := by decide +kernel
theorem own_d12_5 : decode jdk_29_method_65_code 5 = .ok (.iload_n 0, 1) := by decide +kernel
theorem own_d12_6 : decode jdk_29_method_65_code 6 = .ok (.goto 4, 3) := by decide +kernel
theorem own_d12_9 : decode jdk_29_method_65_code 9 = .ok (.iload_n 1, 1) := by decide +kernel
theorem own_d12_10 : decode jdk_29_method_65_code 10 = .ok (.ireturn, 1) := by decide +kernel
theorem own_pn12 : plainFor (⟨"java/lang/Math", "max", "(II)I"⟩ : MethodName) = true := by decide +kernel
theorem own_ef12 (m : MethodId) (p1 : Int32) (p2 : Int32) : entryFrame m #[(.int p1), (.int p2)] 2 = (mkF m 0 #[.val (.int p1), .val (.int p2)] []) := by first | (simp [entryFrame, mkF, argsToLocals, Value.category]; done) | rfl
set_option maxRecDepth 65536 in
set_option maxHeartbeats 40000000 in
theorem own_rm12 (l : Launch) (Z : State) (a0 : Array Value) (hw : ∀ d ∈ tables_1, d.before a0 Z = true) (h0 : Heap) (n0 : Nat) (Z0 : n0 ≤ h0.size) (p1 : Int32) (p2 : Int32) (r : Int32) (hr : r = own_max p1 p2) :
    own_C l Z (⟨"java/lang/Math", "max", "(II)I"⟩ : MethodName) jdk_29_method_65_code 2 (some .int) [] ({ frames := 0, cells := 0, slots := 0, locals := 0 } : Room) #[(.int p1), (.int p2)] h0 (own_P (.int r) h0) := by
  refine own_body own_pn12 (f0 := fun m => (mkF m 0 #[.val (.int p1), .val (.int p2)] [])) (fun m => own_ef12 m p1 p2) ?_
  intro p e s m below meth c s₁ hx hby hml hown hnm hret hlk hZ X0 e0
  change own_G p e below (own_F (own_P (.int r) h0) s 0 0) s₁ (mkF m 0 #[.val (.int p1), .val (.int p2)] [])
  have N0 := Fr.nil n0
  refine own_st (T' := s₁) (g' := (mkF m 1 #[.val (.int p1), .val (.int p2)] [(.int p1)])) (fun t k => XS.iloadN X0.here hx rfl (hb hby own_d12_0) rfl k) ?_
  refine own_st (T' := s₁) (g' := (mkF m 2 #[.val (.int p1), .val (.int p2)] [(.int p2), (.int p1)])) (fun t k => XS.iloadN X0.here hx rfl (hb hby own_d12_1) rfl k) ?_
  have K2 : ∀ (v3 : Int32) (hv3 : v3 = (if p1 < p2 then p2 else p1)), own_G p e below (own_F (own_P (.int r) h0) s 0 0) s₁ (mkF m 10 #[.val (.int p1), .val (.int p2)] [(.int v3)]) := by
    intro v3 hv3
    exact own_retI X0 hx hlk hret (hb hby own_d12_10) (by decide) (by decide) ⟨by rw [hr]; simp [own_max, hv3], e0, rfl⟩
  by_cases hc2_1 : p1 < p2
  ·
    refine own_st (T' := s₁) (g' := (mkF m 9 #[.val (.int p1), .val (.int p2)] [])) (fun t k => XS.icmpYes X0.here hx rfl (pc0 := 2) (pc' := 9) rfl (hb hby own_d12_2) rfl (tlt hc2_1).1 (by decide) (by decide) k) ?_
    refine own_st (T' := s₁) (g' := (mkF m 10 #[.val (.int p1), .val (.int p2)] [(.int p2)])) (fun t k => XS.iloadN X0.here hx rfl (hb hby own_d12_9) rfl k) ?_
    exact K2 _ (if_pos hc2_1).symm
  ·
    refine own_st (T' := s₁) (g' := (mkF m 5 #[.val (.int p1), .val (.int p2)] [])) (fun t k => XS.icmpNo X0.here hx rfl (hb hby own_d12_2) rfl (flt hc2_1).1 k) ?_
    refine own_st (T' := s₁) (g' := (mkF m 6 #[.val (.int p1), .val (.int p2)] [(.int p1)])) (fun t k => XS.iloadN X0.here hx rfl (hb hby own_d12_5) rfl k) ?_
    refine own_st (T' := s₁) (g' := (mkF m 10 #[.val (.int p1), .val (.int p2)] [(.int p1)])) (fun t k => XS.goto X0.here hx rfl (pc0 := 6) (pc' := 10) rfl (hb hby own_d12_6) (by decide) (by decide) k) ?_
    exact K2 _ (if_neg hc2_1).symm
theorem own_d11_0 : decode jdk_38_method_6_code 0 = .ok (.aload_n 0, 1) := by decide +kernel
theorem own_d11_1 : decode jdk_38_method_6_code 1 = .ok (.getfield 9, 3) := by decide +kernel
theorem own_d11_4 : decode jdk_38_method_6_code 4 = .ok (.arraylength, 1) := by decide +kernel
theorem own_d11_5 : decode jdk_38_method_6_code 5 = .ok (.istore_n 2, 1) := by decide +kernel
theorem own_d11_6 : decode jdk_38_method_6_code 6 = .ok (.iload_n 2, 1) := by decide +kernel
theorem own_d11_7 : decode jdk_38_method_6_code 7 = .ok (.ifCond .gt 13, 3) := by decide +kernel
theorem own_d11_10 : decode jdk_38_method_6_code 10 = .ok (.aload_n 0, 1) := by decide +kernel
theorem own_d11_11 : decode jdk_38_method_6_code 11 = .ok (.getfield 9, 3) := by decide +kernel
theorem own_d11_14 : decode jdk_38_method_6_code 14 = .ok (.getstatic 39, 3) := by decide +kernel
theorem own_d11_17 : decode jdk_38_method_6_code 17 = .ok (.if_acmp .eq 28, 3) := by decide +kernel
theorem own_d11_45 : decode jdk_38_method_6_code 45 = .ok (.aload_n 0, 1) := by decide +kernel
theorem own_d11_46 : decode jdk_38_method_6_code 46 = .ok (.bipush 10, 2) := by decide +kernel
theorem own_d11_48 : decode jdk_38_method_6_code 48 = .ok (.iload_n 1, 1) := by decide +kernel
theorem own_d11_49 : decode jdk_38_method_6_code 49 = .ok (.invokestatic 79, 3) := by decide +kernel
theorem own_d11_52 : decode jdk_38_method_6_code 52 = .ok (.anewarray 7, 3) := by decide +kernel
theorem own_d11_55 : decode jdk_38_method_6_code 55 = .ok (.dup_x1, 1) := by decide +kernel
theorem own_d11_56 : decode jdk_38_method_6_code 56 = .ok (.putfield 9, 3) := by decide +kernel
theorem own_d11_59 : decode jdk_38_method_6_code 59 = .ok (.areturn, 1) := by decide +kernel
theorem own_pn11 : plainFor (⟨"java/util/ArrayList", "grow", "(I)[Ljava/lang/Object;"⟩ : MethodName) = true := plainFor_of_name (show plainName "java/util/ArrayList" = true by first | (simp [plainName, overriddenIn]; done) | decide +kernel)
theorem own_ef11 (m : MethodId) (a1 : Addr) : entryFrame m #[(.ref a1), (.int (1 : Int32))] 4 = (mkF m 0 #[.val (.ref a1), .val (.int (1 : Int32)), .unset, .unset] []) := by first | (simp [entryFrame, mkF, argsToLocals, Value.category]; done) | rfl
set_option maxRecDepth 65536 in
set_option maxHeartbeats 40000000 in
theorem own_rm11 (l : Launch) (Z : State) (a0 : Array Value) (hw : ∀ d ∈ tables_1, d.before a0 Z = true) (h0 : Heap) (n0 : Nat) (Z0 : n0 ≤ h0.size) (a1 : Addr) (O : Old Z n0 h0) (s_DC : Addr) (S_DC : Sta Z Z.heap "java/util/ArrayList" "DEFAULTCAPACITY_EMPTY_ELEMENTDATA" "[Ljava/lang/Object;" (.ref s_DC)) (k_DC : ClassId) (A_DC : Arv Z Z.heap s_DC k_DC (.object "java/lang/Object") 0 [] .null) (um un : Value) (E_a1 : Exa Z h0 a1 "java/util/ArrayList") (F_modCount_a1 : Fld Z h0 a1 "java/util/AbstractList" "modCount" "I" um) (F_elementData_a1 : Fld Z h0 a1 "java/util/ArrayList" "elementData" "[Ljava/lang/Object;" (.ref s_DC)) (F_size_a1 : Fld Z h0 a1 "java/util/ArrayList" "size" "I" un) (g_a1 : n0 ≤ a1) :
    own_C l Z (⟨"java/util/ArrayList", "grow", "(I)[Ljava/lang/Object;"⟩ : MethodName) jdk_38_method_6_code 4 (some (.array (.object "java/lang/Object"))) [] ({ frames := 1, cells := 1, slots := 10, locals := 30 } : Room) #[(.ref a1), (.int (1 : Int32))] h0 (own_qg Z a1 um un h0 n0) := by
  refine own_body own_pn11 (f0 := fun m => (mkF m 0 #[.val (.ref a1), .val (.int (1 : Int32)), .unset, .unset] [])) (fun m => own_ef11 m a1) ?_
  intro p e s m below meth c s₁ hx hby hml hown hnm hret hlk hZ X0 e0
  change own_G p e below (own_F (own_qg Z a1 um un h0 n0) s 1 10) s₁ (mkF m 0 #[.val (.ref a1), .val (.int (1 : Int32)), .unset, .unset] [])
  have N0 := Fr.nil n0
  refine own_st (T' := s₁) (g' := (mkF m 1 #[.val (.ref a1), .val (.int (1 : Int32)), .unset, .unset] [(.ref a1)])) (fun t k => XS.aloadN X0.here hx rfl (hb hby own_d11_0) rfl rfl k) ?_
  obtain ⟨T1, X1, e1, st1⟩ := getF X0 hx hZ hown (host := "") (Or.inl (hw _ (List.mem_of_getElem? (i := 29) rfl))) Via.refl e0 F_elementData_a1 (g := (mkF m 1 #[.val (.ref a1), .val (.int (1 : Int32)), .unset, .unset] [(.ref a1)])) rfl rfl (hb hby own_d11_1)
  refine own_st (T' := T1) (g' := (mkF m 4 #[.val (.ref a1), .val (.int (1 : Int32)), .unset, .unset] [(.ref s_DC)])) st1 ?_
  refine own_st (T' := T1) (g' := (mkF m 5 #[.val (.ref a1), .val (.int (1 : Int32)), .unset, .unset] [(.int (0 : Int32))])) (own_alen (A_DC.ext O.2) X1 hx hZ e1 (g := (mkF m 4 #[.val (.ref a1), .val (.int (1 : Int32)), .unset, .unset] [(.ref s_DC)])) rfl rfl (hb hby own_d11_4)) ?_
  refine own_st (T' := T1) (g' := (mkF m 6 #[.val (.ref a1), .val (.int (1 : Int32)), .val (.int (0 : Int32)), .unset] [])) (fun t k => XS.istoreN X1.here hx rfl (hb hby own_d11_5) rfl (l' := #[.val (.ref a1), .val (.int (1 : Int32)), .val (.int (0 : Int32)), .unset]) rfl k) ?_
  refine own_st (T' := T1) (g' := (mkF m 7 #[.val (.ref a1), .val (.int (1 : Int32)), .val (.int (0 : Int32)), .unset] [(.int (0 : Int32))])) (fun t k => XS.iloadN X1.here hx rfl (hb hby own_d11_6) rfl k) ?_
  refine own_st (T' := T1) (g' := (mkF m 10 #[.val (.ref a1), .val (.int (1 : Int32)), .val (.int (0 : Int32)), .unset] [])) (fun t k => XS.ifNo X1.here hx rfl (hb hby own_d11_7) rfl ((if0 _ _).trans (flt (by decide)).2.2.1) k) ?_
  refine own_st (T' := T1) (g' := (mkF m 11 #[.val (.ref a1), .val (.int (1 : Int32)), .val (.int (0 : Int32)), .unset] [(.ref a1)])) (fun t k => XS.aloadN X1.here hx rfl (hb hby own_d11_10) rfl rfl k) ?_
  obtain ⟨T2, X2, e2, st2⟩ := getF X1 hx hZ hown (host := "") (Or.inl (hw _ (List.mem_of_getElem? (i := 29) rfl))) Via.refl e1 F_elementData_a1 (g := (mkF m 11 #[.val (.ref a1), .val (.int (1 : Int32)), .val (.int (0 : Int32)), .unset] [(.ref a1)])) rfl rfl (hb hby own_d11_11)
  refine own_st (T' := T2) (g' := (mkF m 14 #[.val (.ref a1), .val (.int (1 : Int32)), .val (.int (0 : Int32)), .unset] [(.ref s_DC)])) st2 ?_
  obtain ⟨T3, X3, e3, st3⟩ := getS2 X2 hx hZ hown (host := "") (Or.inl (hw _ (List.mem_of_getElem? (i := 28) rfl))) Via.refl e2 (S_DC.ext O.2) (g := (mkF m 14 #[.val (.ref a1), .val (.int (1 : Int32)), .val (.int (0 : Int32)), .unset] [(.ref s_DC)])) rfl (hb hby own_d11_14)
  refine own_st (T' := T3) (g' := (mkF m 17 #[.val (.ref a1), .val (.int (1 : Int32)), .val (.int (0 : Int32)), .unset] [(.ref s_DC), (.ref s_DC)])) st3 ?_
  have hk4 : s_DC = s_DC := rfl
  refine own_st (T' := T3) (g' := (mkF m 45 #[.val (.ref a1), .val (.int (1 : Int32)), .val (.int (0 : Int32)), .unset] [])) (fun t k => Jvm.RoadKit.acmp (g := (mkF m 17 #[.val (.ref a1), .val (.int (1 : Int32)), .val (.int (0 : Int32)), .unset] [(.ref s_DC), (.ref s_DC)])) X3 hx rfl rfl rfl (pc0 := 17) (pc' := 45) (same := true) rfl (hb hby own_d11_17) rfl (decide_eq_true (congrArg Value.ref hk4)) (by decide) (by decide) k) ?_
  refine own_st (T' := T3) (g' := (mkF m 46 #[.val (.ref a1), .val (.int (1 : Int32)), .val (.int (0 : Int32)), .unset] [(.ref a1)])) (fun t k => XS.aloadN X3.here hx rfl (hb hby own_d11_45) rfl rfl k) ?_
  refine own_st (T' := T3) (g' := (mkF m 48 #[.val (.ref a1), .val (.int (1 : Int32)), .val (.int (0 : Int32)), .unset] [(.int (10 : Int32)), (.ref a1)])) (fun t k => XS.bipush X3.here hx rfl (hb hby own_d11_46) k) ?_
  refine own_st (T' := T3) (g' := (mkF m 49 #[.val (.ref a1), .val (.int (1 : Int32)), .val (.int (0 : Int32)), .unset] [(.int (1 : Int32)), (.int (10 : Int32)), (.ref a1)])) (fun t k => XS.iloadN X3.here hx rfl (hb hby own_d11_48) rfl k) ?_
  obtain ⟨_, T5, L5, hQ5, X5, st5⟩ := own_callS (y := (⟨"java/lang/Math", "max", "(II)I"⟩ : MethodName)) (argsL := [(.int (10 : Int32)), (.int (1 : Int32))]) 1 [(.ref a1)] (own_rm12 l Z a0 hw h0 n0 Z0 (10 : Int32) (1 : Int32) (10 : Int32) (by decide)) X3 hx hZ hown (hw _ (List.mem_of_getElem? (i := 90) rfl)) (hw _ (List.mem_of_getElem? (i := 91) rfl)) (hw _ (List.mem_of_getElem? (i := 92) rfl)) (hw _ (List.mem_of_getElem? (i := 93) rfl)) (by decide) (by decide) (by decide) (by decide) (by decide) e3 (g := (mkF m 49 #[.val (.ref a1), .val (.int (1 : Int32)), .val (.int (0 : Int32)), .unset] [(.int (1 : Int32)), (.int (10 : Int32)), (.ref a1)])) rfl (by rw [hml]; rfl) (lenOf own_pd1 rfl) rfl (by show 2 * 0 + _ ≤ _; exact Nat.le_of_eq rfl) (hb hby own_d11_49)
  obtain ⟨rfl, e5, rfl⟩ := hQ5
  have X5 : Stand p l e ({ frames := 1, cells := 1, slots := 10, locals := 30 } : Room) s m #[(.ref a1), (.int (1 : Int32))] below meth c T5 [] 0 0 := X5
  refine own_st (T' := T5) (g' := (mkF m 52 #[.val (.ref a1), .val (.int (1 : Int32)), .val (.int (0 : Int32)), .unset] [(.int (10 : Int32)), (.ref a1)])) st5 ?_
  obtain ⟨T6, h6, k6, X6, e6, E6, A6, O6, st6⟩ := newR X5 hx hZ hown (hw _ (List.mem_of_getElem? (i := 94) rfl)) (hw _ (List.mem_of_getElem? (i := 95) rfl)) e5 (g := (mkF m 52 #[.val (.ref a1), .val (.int (1 : Int32)), .val (.int (0 : Int32)), .unset] [(.int (10 : Int32)), (.ref a1)])) rfl (hb hby own_d11_52) rfl (by decide) (cap := 10) (by decide) (by decide) (by decide) (by decide)
  obtain ⟨b6, gb6⟩ : ∃ z, z = h0.size := ⟨_, rfl⟩
  rw [← gb6] at A6 st6
  have ne_a1_b6 : a1 ≠ b6 := by rw [gb6]; exact Nat.ne_of_lt E_a1.lt
  have g_b6 : n0 ≤ b6 := Nat.le_trans Z0 (Nat.le_of_eq gb6.symm)
  have Z6 : n0 ≤ h6.size := Nat.le_trans Z0 E6.1
  have sz_b6 : h0.size ≤ b6 := Nat.le_trans (Keep.refl h0 [a1]).1 (Nat.le_of_eq gb6.symm)
  have K0_6 := (Keep.refl h0 [a1]).ext E6
  have O := O.ext E6
  have E_a1 := E_a1.ext E6
  have F_modCount_a1 := F_modCount_a1.ext E6
  have F_elementData_a1 := F_elementData_a1.ext E6
  have F_size_a1 := F_size_a1.ext E6
  have V_b6 : Arv Z h6 b6 k6 (.object "java/lang/Object") (10 : Int32) [.null, .null, .null, .null, .null, .null, .null, .null, .null, .null] .null := (Arv.new A6 (by decide)).pad (pad_rep [] .null 10)
  have X6 : Stand p l e ({ frames := 1, cells := 1, slots := 10, locals := 30 } : Room) s m #[(.ref a1), (.int (1 : Int32))] below meth c T6 [] 1 10 := X6
  refine own_st (T' := T6) (g' := (mkF m 55 #[.val (.ref a1), .val (.int (1 : Int32)), .val (.int (0 : Int32)), .unset] [(.ref b6), (.ref a1)])) st6 ?_
  refine own_st (T' := T6) (g' := (mkF m 56 #[.val (.ref a1), .val (.int (1 : Int32)), .val (.int (0 : Int32)), .unset] [(.ref b6), (.ref a1), (.ref b6)])) (fun t k => XS.dupX1 X6.here hx rfl (hb hby own_d11_55) rfl rfl rfl k) ?_
  obtain ⟨T7, h7, X7, e7, W7, st7⟩ := putF X6 hx hZ hown (host := "") (Or.inl (hw _ (List.mem_of_getElem? (i := 29) rfl))) Via.refl e6 F_elementData_a1 E_a1 (Or.inl (hw _ (List.mem_of_getElem? (i := 30) rfl))) (hw _ (List.mem_of_getElem? (i := 6) rfl)) (ty := (.array (.object "java/lang/Object"))) (by decide) rfl rfl (g := (mkF m 56 #[.val (.ref a1), .val (.int (1 : Int32)), .val (.int (0 : Int32)), .unset] [(.ref b6), (.ref a1), (.ref b6)])) rfl rfl (hb hby own_d11_56)
  have O := O.wr W7 g_a1
  have E_a1 := E_a1.wr W7
  have F_modCount_a1 := F_modCount_a1.other W7 (Or.inr (slot_ne (Or.inl (hw _ (List.mem_of_getElem? (i := 27) rfl))) (Or.inl (hw _ (List.mem_of_getElem? (i := 30) rfl))) (by decide) (t := .int) (t' := (.array (.object "java/lang/Object"))) (by decide) (by decide)))
  have F_elementData_a1 := F_elementData_a1.same W7
  have F_size_a1 := F_size_a1.other W7 (Or.inr (slot_ne (Or.inl (hw _ (List.mem_of_getElem? (i := 74) rfl))) (Or.inl (hw _ (List.mem_of_getElem? (i := 30) rfl))) (by decide) (t := .int) (t' := (.array (.object "java/lang/Object"))) (by decide) (by decide)))
  have V_b6 := V_b6.other W7 (Ne.symm ne_a1_b6)
  have K0_7 := K0_6.wr W7 (Or.inl (List.mem_of_getElem? (i := 0) rfl))
  have N7 := Fr.snoc X7 N0 g_a1
  generalize hlc7 : ([] ++ [(⟨a1, Jvm.RoadKit.slotOf Z "java/util/ArrayList" "elementData" "[Ljava/lang/Object;"⟩ : Loc)] : List Loc) = lc7 at X7 N7
  have Z7 : n0 ≤ h7.size := Nat.le_trans Z6 (Keep.of_wr W7).1
  refine own_st (T' := T7) (g' := (mkF m 59 #[.val (.ref a1), .val (.int (1 : Int32)), .val (.int (0 : Int32)), .unset] [(.ref b6)])) st7 ?_
  exact own_retA X7 hx hlk hret (hb hby own_d11_59) (by decide) (by decide) rfl (by rw [e7]; exact ⟨b6, k6, rfl, N7, O, K0_7, sz_b6, ⟨E_a1, F_modCount_a1, F_elementData_a1, F_size_a1⟩, V_b6, O6⟩)
theorem own_d10_0 : decode jdk_38_method_7_code 0 = .ok (.aload_n 0, 1) := by decide +kernel
theorem own_d10_1 : decode jdk_38_method_7_code 1 = .ok (.aload_n 0, 1) := by decide +kernel
theorem own_d10_2 : decode jdk_38_method_7_code 2 = .ok (.getfield 48, 3) := by decide +kernel
theorem own_d10_5 : decode jdk_38_method_7_code 5 = .ok (.iconst 1, 1) := by decide +kernel
theorem own_d10_6 : decode jdk_38_method_7_code 6 = .ok (.iadd, 1) := by decide +kernel
theorem own_d10_7 : decode jdk_38_method_7_code 7 = .ok (.invokevirtual 69, 3) := by decide +kernel
theorem own_d10_10 : decode jdk_38_method_7_code 10 = .ok (.areturn, 1) := by decide +kernel
theorem own_pn10 : plainFor (⟨"java/util/ArrayList", "grow", "()[Ljava/lang/Object;"⟩ : MethodName) = true := plainFor_of_name (show plainName "java/util/ArrayList" = true by first | (simp [plainName, overriddenIn]; done) | decide +kernel)
theorem own_ef10 (m : MethodId) (a1 : Addr) : entryFrame m #[(.ref a1)] 1 = (mkF m 0 #[.val (.ref a1)] []) := by first | (simp [entryFrame, mkF, argsToLocals, Value.category]; done) | rfl
set_option maxRecDepth 65536 in
set_option maxHeartbeats 40000000 in
theorem own_rm10 (l : Launch) (Z : State) (a0 : Array Value) (hw : ∀ d ∈ tables_1, d.before a0 Z = true) (h0 : Heap) (n0 : Nat) (Z0 : n0 ≤ h0.size) (a1 : Addr) (O : Old Z n0 h0) (s_DC : Addr) (S_DC : Sta Z Z.heap "java/util/ArrayList" "DEFAULTCAPACITY_EMPTY_ELEMENTDATA" "[Ljava/lang/Object;" (.ref s_DC)) (k_DC : ClassId) (A_DC : Arv Z Z.heap s_DC k_DC (.object "java/lang/Object") 0 [] .null) (um : Value) (E_a1 : Exa Z h0 a1 "java/util/ArrayList") (F_modCount_a1 : Fld Z h0 a1 "java/util/AbstractList" "modCount" "I" um) (F_elementData_a1 : Fld Z h0 a1 "java/util/ArrayList" "elementData" "[Ljava/lang/Object;" (.ref s_DC)) (F_size_a1 : Fld Z h0 a1 "java/util/ArrayList" "size" "I" (.int 0)) (g_a1 : n0 ≤ a1) :
    own_C l Z (⟨"java/util/ArrayList", "grow", "()[Ljava/lang/Object;"⟩ : MethodName) jdk_38_method_7_code 1 (some (.array (.object "java/lang/Object"))) [] ({ frames := 2, cells := 1, slots := 10, locals := 45 } : Room) #[(.ref a1)] h0 (own_qg Z a1 um (.int 0) h0 n0) := by
  refine own_body own_pn10 (f0 := fun m => (mkF m 0 #[.val (.ref a1)] [])) (fun m => own_ef10 m a1) ?_
  intro p e s m below meth c s₁ hx hby hml hown hnm hret hlk hZ X0 e0
  change own_G p e below (own_F (own_qg Z a1 um (.int 0) h0 n0) s 1 10) s₁ (mkF m 0 #[.val (.ref a1)] [])
  have N0 := Fr.nil n0
  refine own_st (T' := s₁) (g' := (mkF m 1 #[.val (.ref a1)] [(.ref a1)])) (fun t k => XS.aloadN X0.here hx rfl (hb hby own_d10_0) rfl rfl k) ?_
  refine own_st (T' := s₁) (g' := (mkF m 2 #[.val (.ref a1)] [(.ref a1), (.ref a1)])) (fun t k => XS.aloadN X0.here hx rfl (hb hby own_d10_1) rfl rfl k) ?_
  obtain ⟨T1, X1, e1, st1⟩ := getF X0 hx hZ hown (host := "") (Or.inl (hw _ (List.mem_of_getElem? (i := 73) rfl))) Via.refl e0 F_size_a1 (g := (mkF m 2 #[.val (.ref a1)] [(.ref a1), (.ref a1)])) rfl rfl (hb hby own_d10_2)
  refine own_st (T' := T1) (g' := (mkF m 5 #[.val (.ref a1)] [(.int (0 : Int32)), (.ref a1)])) st1 ?_
  refine own_st (T' := T1) (g' := (mkF m 6 #[.val (.ref a1)] [(.int (1 : Int32)), (.int (0 : Int32)), (.ref a1)])) (fun t k => XS.iconst X1.here hx rfl (hb hby own_d10_5) k) ?_
  refine own_st (T' := T1) (g' := (mkF m 7 #[.val (.ref a1)] [(.int (1 : Int32)), (.ref a1)])) (fun t k => XS.iadd X1.here hx rfl (hb hby own_d10_6) rfl k) ?_
  have ltA2 := E_a1.lt
  obtain ⟨_, T2, L2, hQ2, X2, st2⟩ := own_callP (y := (⟨"java/util/ArrayList", "grow", "(I)[Ljava/lang/Object;"⟩ : MethodName)) (argsL := [(.int (1 : Int32))]) 0 [] (K := "java/util/ArrayList") (own_rm11 l Z a0 hw h0 n0 Z0 a1 O s_DC S_DC k_DC A_DC um (.int (0 : Int32)) E_a1 F_modCount_a1 F_elementData_a1 F_size_a1 g_a1) X1 hx hZ hown (hw _ (List.mem_of_getElem? (i := 85) rfl)) (hw _ (List.mem_of_getElem? (i := 86) rfl)) (hw _ (List.mem_of_getElem? (i := 88) rfl)) (hw _ (List.mem_of_getElem? (i := 87) rfl)) (hw _ (List.mem_of_getElem? (i := 89) rfl)) (hw _ (List.mem_of_getElem? (i := 7) rfl)) (by decide) (by decide) (by decide) (by decide) (by decide) e1 E_a1 (g := (mkF m 7 #[.val (.ref a1)] [(.int (1 : Int32)), (.ref a1)])) rfl (by rw [hml]; rfl) (lenOf own_pd2 rfl) rfl (by show 2 * 0 + _ ≤ _; exact Nat.le_of_eq rfl) (hb hby own_d10_7)
  obtain ⟨o2, k2, rfl, N2q, O, Kq2, sz_o2, ⟨E_a1, F_modCount_a1, F_elementData_a1, F_size_a1⟩, V_o2, OV_o2⟩ := hQ2
  have K0_2 := (Keep.refl h0 [a1]).trans Kq2 (allS (Or.inl (List.mem_of_getElem? (i := 0) rfl)) all0)
  have Z2 : n0 ≤ T2.heap.size := Nat.le_trans Z0 Kq2.1
  have N2 := Fr.app N0 N2q
  generalize hlc2 : ([] ++ L2 : List Loc) = lc2 at X2 N2
  have X2 : Stand p l e ({ frames := 2, cells := 1, slots := 10, locals := 45 } : Room) s m #[(.ref a1)] below meth c T2 lc2 1 10 := X2
  have g_o2 : n0 ≤ o2 := Nat.le_trans Z0 sz_o2
  have ne_a1_o2 : a1 ≠ o2 := Nat.ne_of_lt (Nat.lt_of_lt_of_le ltA2 sz_o2)
  have sz_o2 := Nat.le_trans (Keep.refl h0 [a1]).1 sz_o2
  refine own_st (T' := T2) (g' := (mkF m 10 #[.val (.ref a1)] [(.ref o2)])) st2 ?_
  exact own_retA X2 hx hlk hret (hb hby own_d10_10) (by decide) (by decide) rfl ⟨o2, k2, rfl, N2, O, K0_2, sz_o2, ⟨E_a1, F_modCount_a1, F_elementData_a1, F_size_a1⟩, V_o2, OV_o2⟩
theorem own_d9_0 : decode jdk_38_method_24_code 0 = .ok (.iload_n 3, 1) := by decide +kernel
theorem own_d9_1 : decode jdk_38_method_24_code 1 = .ok (.aload_n 2, 1) := by decide +kernel
theorem own_d9_2 : decode jdk_38_method_24_code 2 = .ok (.arraylength, 1) := by decide +kernel
theorem own_d9_3 : decode jdk_38_method_24_code 3 = .ok (.if_icmp .ne 8, 3) := by decide +kernel
theorem own_d9_6 : decode jdk_38_method_24_code 6 = .ok (.aload_n 0, 1) := by decide +kernel
theorem own_d9_7 : decode jdk_38_method_24_code 7 = .ok (.invokevirtual 129, 3) := by decide +kernel
theorem own_d9_10 : decode jdk_38_method_24_code 10 = .ok (.astore_n 2, 1) := by decide +kernel
theorem own_d9_11 : decode jdk_38_method_24_code 11 = .ok (.aload_n 2, 1) := by decide +kernel
theorem own_d9_12 : decode jdk_38_method_24_code 12 = .ok (.iload_n 3, 1) := by decide +kernel
theorem own_d9_13 : decode jdk_38_method_24_code 13 = .ok (.aload_n 1, 1) := by decide +kernel
theorem own_d9_14 : decode jdk_38_method_24_code 14 = .ok (.aastore, 1) := by decide +kernel
theorem own_d9_15 : decode jdk_38_method_24_code 15 = .ok (.aload_n 0, 1) := by decide +kernel
theorem own_d9_16 : decode jdk_38_method_24_code 16 = .ok (.iload_n 3, 1) := by decide +kernel
theorem own_d9_17 : decode jdk_38_method_24_code 17 = .ok (.iconst 1, 1) := by decide +kernel
theorem own_d9_18 : decode jdk_38_method_24_code 18 = .ok (.iadd, 1) := by decide +kernel
theorem own_d9_19 : decode jdk_38_method_24_code 19 = .ok (.putfield 48, 3) := by decide +kernel
theorem own_d9_22 : decode jdk_38_method_24_code 22 = .ok (.return_, 1) := by decide +kernel
theorem own_pn9 : plainFor (⟨"java/util/ArrayList", "add", "(Ljava/lang/Object;[Ljava/lang/Object;I)V"⟩ : MethodName) = true := plainFor_of_name (show plainName "java/util/ArrayList" = true by first | (simp [plainName, overriddenIn]; done) | decide +kernel)
theorem own_ef9n0 (m : MethodId) (a1 : Addr) (a2 : Addr) (s_DC : Addr) : entryFrame m #[(.ref a1), (.ref a2), (.ref s_DC), (.int (0 : Int32))] 4 = (mkF m 0 #[.val (.ref a1), .val (.ref a2), .val (.ref s_DC), .val (.int (0 : Int32))] []) := by first | (simp [entryFrame, mkF, argsToLocals, Value.category]; done) | rfl
set_option maxRecDepth 65536 in
set_option maxHeartbeats 40000000 in
theorem own_rm9n0 (l : Launch) (Z : State) (a0 : Array Value) (hw : ∀ d ∈ tables_1, d.before a0 Z = true) (h0 : Heap) (n0 : Nat) (Z0 : n0 ≤ h0.size) (a1 : Addr) (a2 : Addr) (s_DC : Addr) (O : Old Z n0 h0) (S_DC : Sta Z Z.heap "java/util/ArrayList" "DEFAULTCAPACITY_EMPTY_ELEMENTDATA" "[Ljava/lang/Object;" (.ref s_DC)) (k_DC : ClassId) (A_DC : Arv Z Z.heap s_DC k_DC (.object "java/lang/Object") 0 [] .null) (um : Value) (E_a2 : Exa Z h0 a2 "com/example/astraea/astraea/lang/Variable") (ne_a2_a1 : a2 ≠ a1) (E_a1 : Exa Z h0 a1 "java/util/ArrayList") (F_modCount_a1 : Fld Z h0 a1 "java/util/AbstractList" "modCount" "I" um) (F_elementData_a1 : Fld Z h0 a1 "java/util/ArrayList" "elementData" "[Ljava/lang/Object;" (.ref s_DC)) (F_size_a1 : Fld Z h0 a1 "java/util/ArrayList" "size" "I" (.int 0)) (g_a1 : n0 ≤ a1) :
    own_C l Z (⟨"java/util/ArrayList", "add", "(Ljava/lang/Object;[Ljava/lang/Object;I)V"⟩ : MethodName) jdk_38_method_24_code 4 none [] ({ frames := 3, cells := 1, slots := 10, locals := 60 } : Room) #[(.ref a1), (.ref a2), (.ref s_DC), (.int (0 : Int32))] h0 (own_qa0 Z a1 a2 um none h0 n0) := by
  refine own_body own_pn9 (f0 := fun m => (mkF m 0 #[.val (.ref a1), .val (.ref a2), .val (.ref s_DC), .val (.int (0 : Int32))] [])) (fun m => own_ef9n0 m a1 a2 s_DC) ?_
  intro p e s m below meth c s₁ hx hby hml hown hnm hret hlk hZ X0 e0
  change own_G p e below (own_F (own_qa0 Z a1 a2 um none h0 n0) s 1 10) s₁ (mkF m 0 #[.val (.ref a1), .val (.ref a2), .val (.ref s_DC), .val (.int (0 : Int32))] [])
  have N0 := Fr.nil n0
  refine own_st (T' := s₁) (g' := (mkF m 1 #[.val (.ref a1), .val (.ref a2), .val (.ref s_DC), .val (.int (0 : Int32))] [(.int (0 : Int32))])) (fun t k => XS.iloadN X0.here hx rfl (hb hby own_d9_0) rfl k) ?_
  refine own_st (T' := s₁) (g' := (mkF m 2 #[.val (.ref a1), .val (.ref a2), .val (.ref s_DC), .val (.int (0 : Int32))] [(.ref s_DC), (.int (0 : Int32))])) (fun t k => XS.aloadN X0.here hx rfl (hb hby own_d9_1) rfl rfl k) ?_
  refine own_st (T' := s₁) (g' := (mkF m 3 #[.val (.ref a1), .val (.ref a2), .val (.ref s_DC), .val (.int (0 : Int32))] [(.int (0 : Int32)), (.int (0 : Int32))])) (own_alen (A_DC.ext O.2) X0 hx hZ e0 (g := (mkF m 2 #[.val (.ref a1), .val (.ref a2), .val (.ref s_DC), .val (.int (0 : Int32))] [(.ref s_DC), (.int (0 : Int32))])) rfl rfl (hb hby own_d9_2)) ?_
  refine own_st (T' := s₁) (g' := (mkF m 6 #[.val (.ref a1), .val (.ref a2), .val (.ref s_DC), .val (.int (0 : Int32))] [])) (fun t k => XS.icmpNo X0.here hx rfl (hb hby own_d9_3) rfl (teq (by decide)).2 k) ?_
  refine own_st (T' := s₁) (g' := (mkF m 7 #[.val (.ref a1), .val (.ref a2), .val (.ref s_DC), .val (.int (0 : Int32))] [(.ref a1)])) (fun t k => XS.aloadN X0.here hx rfl (hb hby own_d9_6) rfl rfl k) ?_
  have ltA1 := E_a1.lt
  have ltB1_a2 := E_a2.lt
  obtain ⟨_, T1, L1, hQ1, X1, st1⟩ := own_callP (y := (⟨"java/util/ArrayList", "grow", "()[Ljava/lang/Object;"⟩ : MethodName)) (argsL := []) 0 [] (K := "java/util/ArrayList") (own_rm10 l Z a0 hw h0 n0 Z0 a1 O s_DC S_DC k_DC A_DC um E_a1 F_modCount_a1 F_elementData_a1 F_size_a1 g_a1) X0 hx hZ hown (hw _ (List.mem_of_getElem? (i := 80) rfl)) (hw _ (List.mem_of_getElem? (i := 81) rfl)) (hw _ (List.mem_of_getElem? (i := 83) rfl)) (hw _ (List.mem_of_getElem? (i := 82) rfl)) (hw _ (List.mem_of_getElem? (i := 84) rfl)) (hw _ (List.mem_of_getElem? (i := 7) rfl)) (by decide) (by decide) (by decide) (by decide) (by decide) e0 E_a1 (g := (mkF m 7 #[.val (.ref a1), .val (.ref a2), .val (.ref s_DC), .val (.int (0 : Int32))] [(.ref a1)])) rfl (by rw [hml]; rfl) (lenOf own_pd3 rfl) rfl (by show 2 * 0 + _ ≤ _; exact Nat.le_of_eq rfl) (hb hby own_d9_7)
  obtain ⟨o1, k1, rfl, N1q, O, Kq1, sz_o1, ⟨E_a1, F_modCount_a1, F_elementData_a1, F_size_a1⟩, V_o1, OV_o1⟩ := hQ1
  have K0_1 := (Keep.refl h0 [a1]).trans Kq1 (allS (Or.inl (List.mem_of_getElem? (i := 0) rfl)) all0)
  have Z1 : n0 ≤ T1.heap.size := Nat.le_trans Z0 Kq1.1
  have E_a2 := E_a2.keep Kq1
  have N1 := Fr.app N0 N1q
  generalize hlc1 : ([] ++ L1 : List Loc) = lc1 at X1 N1
  have X1 : Stand p l e ({ frames := 3, cells := 1, slots := 10, locals := 60 } : Room) s m #[(.ref a1), (.ref a2), (.ref s_DC), (.int (0 : Int32))] below meth c T1 lc1 1 10 := X1
  have g_o1 : n0 ≤ o1 := Nat.le_trans Z0 sz_o1
  have ne_a1_o1 : a1 ≠ o1 := Nat.ne_of_lt (Nat.lt_of_lt_of_le ltA1 sz_o1)
  have ne_a2_o1 : a2 ≠ o1 := Nat.ne_of_lt (Nat.lt_of_lt_of_le ltB1_a2 sz_o1)
  have sz_o1 := Nat.le_trans (Keep.refl h0 [a1]).1 sz_o1
  refine own_st (T' := T1) (g' := (mkF m 10 #[.val (.ref a1), .val (.ref a2), .val (.ref s_DC), .val (.int (0 : Int32))] [(.ref o1)])) st1 ?_
  refine own_st (T' := T1) (g' := (mkF m 11 #[.val (.ref a1), .val (.ref a2), .val (.ref o1), .val (.int (0 : Int32))] [])) (fun t k => XS.astoreN X1.here hx rfl (hb hby own_d9_10) rfl rfl (l' := #[.val (.ref a1), .val (.ref a2), .val (.ref o1), .val (.int (0 : Int32))]) rfl k) ?_
  refine own_st (T' := T1) (g' := (mkF m 12 #[.val (.ref a1), .val (.ref a2), .val (.ref o1), .val (.int (0 : Int32))] [(.ref o1)])) (fun t k => XS.aloadN X1.here hx rfl (hb hby own_d9_11) rfl rfl k) ?_
  refine own_st (T' := T1) (g' := (mkF m 13 #[.val (.ref a1), .val (.ref a2), .val (.ref o1), .val (.int (0 : Int32))] [(.int (0 : Int32)), (.ref o1)])) (fun t k => XS.iloadN X1.here hx rfl (hb hby own_d9_12) rfl k) ?_
  refine own_st (T' := T1) (g' := (mkF m 14 #[.val (.ref a1), .val (.ref a2), .val (.ref o1), .val (.int (0 : Int32))] [(.ref a2), (.int (0 : Int32)), (.ref o1)])) (fun t k => XS.aloadN X1.here hx rfl (hb hby own_d9_13) rfl rfl k) ?_
  obtain ⟨T2, h2, X2, e2, W2, An2, st2⟩ := own_ast V_o1 OV_o1 E_a2 (hw _ (List.mem_of_getElem? (i := 96) rfl)) X1 hx hZ rfl (j := (0 : Int32)) ⟨by decide, by decide⟩ (Nat.le_of_ble_eq_true rfl) (g := (mkF m 14 #[.val (.ref a1), .val (.ref a2), .val (.ref o1), .val (.int (0 : Int32))] [(.ref a2), (.int (0 : Int32)), (.ref o1)])) rfl rfl (hb hby own_d9_14)
  have E_a1 := E_a1.wr W2
  have F_modCount_a1 := F_modCount_a1.other W2 (Or.inl ne_a1_o1)
  have F_elementData_a1 := F_elementData_a1.other W2 (Or.inl ne_a1_o1)
  have F_size_a1 := F_size_a1.other W2 (Or.inl ne_a1_o1)
  have E_a2 := E_a2.wr W2
  have O := O.wr W2 g_o1
  have V_o1 : Arv Z h2 o1 k1 (.object "java/lang/Object") (10 : Int32) [(.ref a2), .null, .null, .null, .null, .null, .null, .null, .null, .null] .null := An2
  have K0_2 := K0_1.wr W2 (Or.inr sz_o1)
  have N2 := Fr.snoc X2 N1 g_o1
  generalize hlc2 : (lc1 ++ [(⟨o1, ((0 : Int32) : Int32).toNatClampNeg⟩ : Loc)] : List Loc) = lc2 at X2 N2
  have Z2 : n0 ≤ h2.size := Nat.le_trans Z1 (Keep.of_wr W2).1
  refine own_st (T' := T2) (g' := (mkF m 15 #[.val (.ref a1), .val (.ref a2), .val (.ref o1), .val (.int (0 : Int32))] [])) st2 ?_
  refine own_st (T' := T2) (g' := (mkF m 16 #[.val (.ref a1), .val (.ref a2), .val (.ref o1), .val (.int (0 : Int32))] [(.ref a1)])) (fun t k => XS.aloadN X2.here hx rfl (hb hby own_d9_15) rfl rfl k) ?_
  refine own_st (T' := T2) (g' := (mkF m 17 #[.val (.ref a1), .val (.ref a2), .val (.ref o1), .val (.int (0 : Int32))] [(.int (0 : Int32)), (.ref a1)])) (fun t k => XS.iloadN X2.here hx rfl (hb hby own_d9_16) rfl k) ?_
  refine own_st (T' := T2) (g' := (mkF m 18 #[.val (.ref a1), .val (.ref a2), .val (.ref o1), .val (.int (0 : Int32))] [(.int (1 : Int32)), (.int (0 : Int32)), (.ref a1)])) (fun t k => XS.iconst X2.here hx rfl (hb hby own_d9_17) k) ?_
  refine own_st (T' := T2) (g' := (mkF m 19 #[.val (.ref a1), .val (.ref a2), .val (.ref o1), .val (.int (0 : Int32))] [(.int (1 : Int32)), (.ref a1)])) (fun t k => XS.iadd X2.here hx rfl (hb hby own_d9_18) rfl k) ?_
  obtain ⟨T3, h3, X3, e3, W3, st3⟩ := putF X2 hx hZ hown (host := "") (Or.inl (hw _ (List.mem_of_getElem? (i := 73) rfl))) Via.refl e2 F_size_a1 E_a1 (Or.inl (hw _ (List.mem_of_getElem? (i := 74) rfl))) (hw _ (List.mem_of_getElem? (i := 6) rfl)) (ty := .int) (by decide) rfl rfl (g := (mkF m 19 #[.val (.ref a1), .val (.ref a2), .val (.ref o1), .val (.int (0 : Int32))] [(.int (1 : Int32)), (.ref a1)])) rfl rfl (hb hby own_d9_19)
  have E_a1 := E_a1.wr W3
  have F_modCount_a1 := F_modCount_a1.other W3 (Or.inr (slot_ne (Or.inl (hw _ (List.mem_of_getElem? (i := 27) rfl))) (Or.inl (hw _ (List.mem_of_getElem? (i := 74) rfl))) (by decide) (t := .int) (t' := .int) (by decide) (by decide)))
  have F_elementData_a1 := F_elementData_a1.other W3 (Or.inr (slot_ne (Or.inl (hw _ (List.mem_of_getElem? (i := 30) rfl))) (Or.inl (hw _ (List.mem_of_getElem? (i := 74) rfl))) (by decide) (t := (.array (.object "java/lang/Object"))) (t' := .int) (by decide) (by decide)))
  have F_size_a1 := F_size_a1.same W3
  have E_a2 := E_a2.wr W3
  have V_o1 := V_o1.other W3 (Ne.symm ne_a1_o1)
  have O := O.wr W3 g_a1
  have K0_3 := K0_2.wr W3 (Or.inl (List.mem_of_getElem? (i := 0) rfl))
  have N3 := Fr.snoc X3 N2 g_a1
  generalize hlc3 : (lc2 ++ [(⟨a1, Jvm.RoadKit.slotOf Z "java/util/ArrayList" "size" "I"⟩ : Loc)] : List Loc) = lc3 at X3 N3
  have Z3 : n0 ≤ h3.size := Nat.le_trans Z2 (Keep.of_wr W3).1
  refine own_st (T' := T3) (g' := (mkF m 22 #[.val (.ref a1), .val (.ref a2), .val (.ref o1), .val (.int (0 : Int32))] [])) st3 ?_
  exact own_retV X3 hx hlk hret (hb hby own_d9_22) (by decide) (by decide) (by rw [e3]; exact ⟨rfl, N3, O, K0_3, o1, k1, sz_o1, ⟨E_a1, F_modCount_a1, F_elementData_a1, F_size_a1⟩, V_o1, OV_o1⟩)
theorem own_d8_0 : decode jdk_38_method_25_code 0 = .ok (.aload_n 0, 1) := by decide +kernel
theorem own_d8_1 : decode jdk_38_method_25_code 1 = .ok (.dup, 1) := by decide +kernel
theorem own_d8_2 : decode jdk_38_method_25_code 2 = .ok (.getfield 63, 3) := by decide +kernel
theorem own_d8_5 : decode jdk_38_method_25_code 5 = .ok (.iconst 1, 1) := by decide +kernel
theorem own_d8_6 : decode jdk_38_method_25_code 6 = .ok (.iadd, 1) := by decide +kernel
theorem own_d8_7 : decode jdk_38_method_25_code 7 = .ok (.putfield 63, 3) := by decide +kernel
theorem own_d8_10 : decode jdk_38_method_25_code 10 = .ok (.aload_n 0, 1) := by decide +kernel
theorem own_d8_11 : decode jdk_38_method_25_code 11 = .ok (.aload_n 1, 1) := by decide +kernel
theorem own_d8_12 : decode jdk_38_method_25_code 12 = .ok (.aload_n 0, 1) := by decide +kernel
theorem own_d8_13 : decode jdk_38_method_25_code 13 = .ok (.getfield 9, 3) := by decide +kernel
theorem own_d8_16 : decode jdk_38_method_25_code 16 = .ok (.aload_n 0, 1) := by decide +kernel
theorem own_d8_17 : decode jdk_38_method_25_code 17 = .ok (.getfield 48, 3) := by decide +kernel
theorem own_d8_20 : decode jdk_38_method_25_code 20 = .ok (.invokevirtual 131, 3) := by decide +kernel
theorem own_d8_23 : decode jdk_38_method_25_code 23 = .ok (.iconst 1, 1) := by decide +kernel
theorem own_d8_24 : decode jdk_38_method_25_code 24 = .ok (.ireturn, 1) := by decide +kernel
theorem own_pn8 : plainFor (⟨"java/util/ArrayList", "add", "(Ljava/lang/Object;)Z"⟩ : MethodName) = true := plainFor_of_name (show plainName "java/util/ArrayList" = true by first | (simp [plainName, overriddenIn]; done) | decide +kernel)
theorem own_ef8n0 (m : MethodId) (a1 : Addr) (a2 : Addr) : entryFrame m #[(.ref a1), (.ref a2)] 2 = (mkF m 0 #[.val (.ref a1), .val (.ref a2)] []) := by first | (simp [entryFrame, mkF, argsToLocals, Value.category]; done) | rfl
set_option maxRecDepth 65536 in
set_option maxHeartbeats 40000000 in
theorem own_rm8n0 (l : Launch) (Z : State) (a0 : Array Value) (hw : ∀ d ∈ tables_1, d.before a0 Z = true) (h0 : Heap) (n0 : Nat) (Z0 : n0 ≤ h0.size) (a1 : Addr) (a2 : Addr) (O : Old Z n0 h0) (s_DC : Addr) (S_DC : Sta Z Z.heap "java/util/ArrayList" "DEFAULTCAPACITY_EMPTY_ELEMENTDATA" "[Ljava/lang/Object;" (.ref s_DC)) (k_DC : ClassId) (A_DC : Arv Z Z.heap s_DC k_DC (.object "java/lang/Object") 0 [] .null) (mc : Int32) (E_a2 : Exa Z h0 a2 "com/example/astraea/astraea/lang/Variable") (ne_a2_a1 : a2 ≠ a1) (E_a1 : Exa Z h0 a1 "java/util/ArrayList") (F_modCount_a1 : Fld Z h0 a1 "java/util/AbstractList" "modCount" "I" (.int mc)) (F_elementData_a1 : Fld Z h0 a1 "java/util/ArrayList" "elementData" "[Ljava/lang/Object;" (.ref s_DC)) (F_size_a1 : Fld Z h0 a1 "java/util/ArrayList" "size" "I" (.int 0)) (g_a1 : n0 ≤ a1) :
    own_C l Z (⟨"java/util/ArrayList", "add", "(Ljava/lang/Object;)Z"⟩ : MethodName) jdk_38_method_25_code 2 (some .boolean) [] ({ frames := 4, cells := 1, slots := 10, locals := 80 } : Room) #[(.ref a1), (.ref a2)] h0 (own_qa0 Z a1 a2 (.int (mc + 1)) (some (.int 1)) h0 n0) := by
  refine own_body own_pn8 (f0 := fun m => (mkF m 0 #[.val (.ref a1), .val (.ref a2)] [])) (fun m => own_ef8n0 m a1 a2) ?_
  intro p e s m below meth c s₁ hx hby hml hown hnm hret hlk hZ X0 e0
  change own_G p e below (own_F (own_qa0 Z a1 a2 (.int (mc + 1)) (some (.int 1)) h0 n0) s 1 10) s₁ (mkF m 0 #[.val (.ref a1), .val (.ref a2)] [])
  have N0 := Fr.nil n0
  refine own_st (T' := s₁) (g' := (mkF m 1 #[.val (.ref a1), .val (.ref a2)] [(.ref a1)])) (fun t k => XS.aloadN X0.here hx rfl (hb hby own_d8_0) rfl rfl k) ?_
  refine own_st (T' := s₁) (g' := (mkF m 2 #[.val (.ref a1), .val (.ref a2)] [(.ref a1), (.ref a1)])) (fun t k => XS.dup X0.here hx rfl (hb hby own_d8_1) rfl rfl k) ?_
  obtain ⟨T1, X1, e1, st1⟩ := getF X0 hx hZ hown (host := "") (Or.inl (hw _ (List.mem_of_getElem? (i := 71) rfl))) (Via.of (hw _ (List.mem_of_getElem? (i := 72) rfl))) e0 F_modCount_a1 (g := (mkF m 2 #[.val (.ref a1), .val (.ref a2)] [(.ref a1), (.ref a1)])) rfl rfl (hb hby own_d8_2)
  refine own_st (T' := T1) (g' := (mkF m 5 #[.val (.ref a1), .val (.ref a2)] [(.int mc), (.ref a1)])) st1 ?_
  refine own_st (T' := T1) (g' := (mkF m 6 #[.val (.ref a1), .val (.ref a2)] [(.int (1 : Int32)), (.int mc), (.ref a1)])) (fun t k => XS.iconst X1.here hx rfl (hb hby own_d8_5) k) ?_
  refine own_st (T' := T1) (g' := (mkF m 7 #[.val (.ref a1), .val (.ref a2)] [(.int (mc + (1 : Int32))), (.ref a1)])) (fun t k => XS.iadd X1.here hx rfl (hb hby own_d8_6) rfl k) ?_
  obtain ⟨T2, h2, X2, e2, W2, st2⟩ := putF X1 hx hZ hown (host := "") (Or.inl (hw _ (List.mem_of_getElem? (i := 71) rfl))) (Via.of (hw _ (List.mem_of_getElem? (i := 72) rfl))) e1 F_modCount_a1 E_a1 (Or.inl (hw _ (List.mem_of_getElem? (i := 27) rfl))) (hw _ (List.mem_of_getElem? (i := 6) rfl)) (ty := .int) (by decide) rfl rfl (g := (mkF m 7 #[.val (.ref a1), .val (.ref a2)] [(.int (mc + (1 : Int32))), (.ref a1)])) rfl rfl (hb hby own_d8_7)
  have O := O.wr W2 g_a1
  have E_a1 := E_a1.wr W2
  have F_modCount_a1 := F_modCount_a1.same W2
  have F_elementData_a1 := F_elementData_a1.other W2 (Or.inr (slot_ne (Or.inl (hw _ (List.mem_of_getElem? (i := 30) rfl))) (Or.inl (hw _ (List.mem_of_getElem? (i := 27) rfl))) (by decide) (t := (.array (.object "java/lang/Object"))) (t' := .int) (by decide) (by decide)))
  have F_size_a1 := F_size_a1.other W2 (Or.inr (slot_ne (Or.inl (hw _ (List.mem_of_getElem? (i := 74) rfl))) (Or.inl (hw _ (List.mem_of_getElem? (i := 27) rfl))) (by decide) (t := .int) (t' := .int) (by decide) (by decide)))
  have E_a2 := E_a2.wr W2
  have K0_2 := (Keep.refl h0 [a1]).wr W2 (Or.inl (List.mem_of_getElem? (i := 0) rfl))
  have N2 := Fr.snoc X2 N0 g_a1
  generalize hlc2 : ([] ++ [(⟨a1, Jvm.RoadKit.slotOf Z "java/util/AbstractList" "modCount" "I"⟩ : Loc)] : List Loc) = lc2 at X2 N2
  have Z2 : n0 ≤ h2.size := Nat.le_trans Z0 (Keep.of_wr W2).1
  refine own_st (T' := T2) (g' := (mkF m 10 #[.val (.ref a1), .val (.ref a2)] [])) st2 ?_
  refine own_st (T' := T2) (g' := (mkF m 11 #[.val (.ref a1), .val (.ref a2)] [(.ref a1)])) (fun t k => XS.aloadN X2.here hx rfl (hb hby own_d8_10) rfl rfl k) ?_
  refine own_st (T' := T2) (g' := (mkF m 12 #[.val (.ref a1), .val (.ref a2)] [(.ref a2), (.ref a1)])) (fun t k => XS.aloadN X2.here hx rfl (hb hby own_d8_11) rfl rfl k) ?_
  refine own_st (T' := T2) (g' := (mkF m 13 #[.val (.ref a1), .val (.ref a2)] [(.ref a1), (.ref a2), (.ref a1)])) (fun t k => XS.aloadN X2.here hx rfl (hb hby own_d8_12) rfl rfl k) ?_
  obtain ⟨T3, X3, e3, st3⟩ := getF X2 hx hZ hown (host := "") (Or.inl (hw _ (List.mem_of_getElem? (i := 29) rfl))) Via.refl e2 F_elementData_a1 (g := (mkF m 13 #[.val (.ref a1), .val (.ref a2)] [(.ref a1), (.ref a2), (.ref a1)])) rfl rfl (hb hby own_d8_13)
  refine own_st (T' := T3) (g' := (mkF m 16 #[.val (.ref a1), .val (.ref a2)] [(.ref s_DC), (.ref a2), (.ref a1)])) st3 ?_
  refine own_st (T' := T3) (g' := (mkF m 17 #[.val (.ref a1), .val (.ref a2)] [(.ref a1), (.ref s_DC), (.ref a2), (.ref a1)])) (fun t k => XS.aloadN X3.here hx rfl (hb hby own_d8_16) rfl rfl k) ?_
  obtain ⟨T4, X4, e4, st4⟩ := getF X3 hx hZ hown (host := "") (Or.inl (hw _ (List.mem_of_getElem? (i := 73) rfl))) Via.refl e3 F_size_a1 (g := (mkF m 17 #[.val (.ref a1), .val (.ref a2)] [(.ref a1), (.ref s_DC), (.ref a2), (.ref a1)])) rfl rfl (hb hby own_d8_17)
  refine own_st (T' := T4) (g' := (mkF m 20 #[.val (.ref a1), .val (.ref a2)] [(.int (0 : Int32)), (.ref s_DC), (.ref a2), (.ref a1)])) st4 ?_
  have ltA5 := E_a1.lt
  have ltB5_a2 := E_a2.lt
  obtain ⟨_, T5, L5, hQ5, X5, st5⟩ := own_callP (y := (⟨"java/util/ArrayList", "add", "(Ljava/lang/Object;[Ljava/lang/Object;I)V"⟩ : MethodName)) (argsL := [(.ref a2), (.ref s_DC), (.int (0 : Int32))]) 0 [] (K := "java/util/ArrayList") (own_rm9n0 l Z a0 hw h2 n0 Z2 a1 a2 s_DC O S_DC k_DC A_DC (.int (mc + (1 : Int32))) E_a2 ne_a2_a1 E_a1 F_modCount_a1 F_elementData_a1 F_size_a1 g_a1) X4 hx hZ hown (hw _ (List.mem_of_getElem? (i := 75) rfl)) (hw _ (List.mem_of_getElem? (i := 76) rfl)) (hw _ (List.mem_of_getElem? (i := 78) rfl)) (hw _ (List.mem_of_getElem? (i := 77) rfl)) (hw _ (List.mem_of_getElem? (i := 79) rfl)) (hw _ (List.mem_of_getElem? (i := 7) rfl)) (by decide) (by decide) (by decide) (by decide) (by decide) e4 E_a1 (g := (mkF m 20 #[.val (.ref a1), .val (.ref a2)] [(.int (0 : Int32)), (.ref s_DC), (.ref a2), (.ref a1)])) rfl (by rw [hml]; rfl) (lenOf own_pd4 rfl) rfl (by show 2 * 0 + _ ≤ _; exact Nat.le_of_eq rfl) (hb hby own_d8_20)
  obtain ⟨rfl, N5q, O, Kq5, o5, k5, sz_o5, ⟨E_a1, F_modCount_a1, F_elementData_a1, F_size_a1⟩, V_o5, OV_o5⟩ := hQ5
  have K0_5 := K0_2.trans Kq5 (allS (Or.inl (List.mem_of_getElem? (i := 0) rfl)) all0)
  have Z5 : n0 ≤ T5.heap.size := Nat.le_trans Z2 Kq5.1
  have E_a2 := E_a2.keep Kq5
  have N5 := Fr.app N2 N5q
  generalize hlc5 : (lc2 ++ L5 : List Loc) = lc5 at X5 N5
  have X5 : Stand p l e ({ frames := 4, cells := 1, slots := 10, locals := 80 } : Room) s m #[(.ref a1), (.ref a2)] below meth c T5 lc5 1 10 := X5
  have g_o5 : n0 ≤ o5 := Nat.le_trans Z2 sz_o5
  have ne_a1_o5 : a1 ≠ o5 := Nat.ne_of_lt (Nat.lt_of_lt_of_le ltA5 sz_o5)
  have ne_a2_o5 : a2 ≠ o5 := Nat.ne_of_lt (Nat.lt_of_lt_of_le ltB5_a2 sz_o5)
  have sz_o5 := Nat.le_trans K0_2.1 sz_o5
  refine own_st (T' := T5) (g' := (mkF m 23 #[.val (.ref a1), .val (.ref a2)] [])) st5 ?_
  refine own_st (T' := T5) (g' := (mkF m 24 #[.val (.ref a1), .val (.ref a2)] [(.int (1 : Int32))])) (fun t k => XS.iconst X5.here hx rfl (hb hby own_d8_23) k) ?_
  exact own_retB X5 hx hlk hret (hb hby own_d8_24) (by decide) (by decide) rfl ⟨rfl, N5, O, K0_5, o5, k5, sz_o5, ⟨E_a1, F_modCount_a1, F_elementData_a1, F_size_a1⟩, V_o5, OV_o5⟩
theorem own_ef9n1 (m : MethodId) (a1 : Addr) (a2 : Addr) (a3 : Addr) : entryFrame m #[(.ref a1), (.ref a2), (.ref a3), (.int (1 : Int32))] 4 = (mkF m 0 #[.val (.ref a1), .val (.ref a2), .val (.ref a3), .val (.int (1 : Int32))] []) := by first | (simp [entryFrame, mkF, argsToLocals, Value.category]; done) | rfl
set_option maxRecDepth 65536 in
set_option maxHeartbeats 40000000 in
theorem own_rm9n1 (l : Launch) (Z : State) (a0 : Array Value) (hw : ∀ d ∈ tables_1, d.before a0 Z = true) (h0 : Heap) (n0 : Nat) (Z0 : n0 ≤ h0.size) (a1 : Addr) (a2 : Addr) (a3 : Addr) (k : ClassId) (x0 : Addr) (um : Value) (E_a2 : Exa Z h0 a2 "com/example/astraea/astraea/lang/Variable") (ne_a2_a1 : a2 ≠ a1) (ne_a2_a3 : a2 ≠ a3) (ne_a3_a1 : a3 ≠ a1) (V_a3 : Arv Z h0 a3 k (.object "java/lang/Object") 10 [(.ref x0), .null, .null, .null, .null, .null, .null, .null, .null, .null] .null) (OV_a3 : Ovr Z k "java/lang/Object") (g_a3 : n0 ≤ a3) (E_a1 : Exa Z h0 a1 "java/util/ArrayList") (F_modCount_a1 : Fld Z h0 a1 "java/util/AbstractList" "modCount" "I" um) (F_elementData_a1 : Fld Z h0 a1 "java/util/ArrayList" "elementData" "[Ljava/lang/Object;" (.ref a3)) (F_size_a1 : Fld Z h0 a1 "java/util/ArrayList" "size" "I" (.int (1 : Int32))) (g_a1 : n0 ≤ a1) :
    own_C l Z (⟨"java/util/ArrayList", "add", "(Ljava/lang/Object;[Ljava/lang/Object;I)V"⟩ : MethodName) jdk_38_method_24_code 4 none [] ({ frames := 0, cells := 0, slots := 0, locals := 0 } : Room) #[(.ref a1), (.ref a2), (.ref a3), (.int (1 : Int32))] h0 (own_qa1 Z a1 a3 k x0 a2 um none h0 n0) := by
  refine own_body own_pn9 (f0 := fun m => (mkF m 0 #[.val (.ref a1), .val (.ref a2), .val (.ref a3), .val (.int (1 : Int32))] [])) (fun m => own_ef9n1 m a1 a2 a3) ?_
  intro p e s m below meth c s₁ hx hby hml hown hnm hret hlk hZ X0 e0
  change own_G p e below (own_F (own_qa1 Z a1 a3 k x0 a2 um none h0 n0) s 0 0) s₁ (mkF m 0 #[.val (.ref a1), .val (.ref a2), .val (.ref a3), .val (.int (1 : Int32))] [])
  have N0 := Fr.nil n0
  refine own_st (T' := s₁) (g' := (mkF m 1 #[.val (.ref a1), .val (.ref a2), .val (.ref a3), .val (.int (1 : Int32))] [(.int (1 : Int32))])) (fun t k => XS.iloadN X0.here hx rfl (hb hby own_d9_0) rfl k) ?_
  refine own_st (T' := s₁) (g' := (mkF m 2 #[.val (.ref a1), .val (.ref a2), .val (.ref a3), .val (.int (1 : Int32))] [(.ref a3), (.int (1 : Int32))])) (fun t k => XS.aloadN X0.here hx rfl (hb hby own_d9_1) rfl rfl k) ?_
  refine own_st (T' := s₁) (g' := (mkF m 3 #[.val (.ref a1), .val (.ref a2), .val (.ref a3), .val (.int (1 : Int32))] [(.int (10 : Int32)), (.int (1 : Int32))])) (own_alen V_a3 X0 hx hZ e0 (g := (mkF m 2 #[.val (.ref a1), .val (.ref a2), .val (.ref a3), .val (.int (1 : Int32))] [(.ref a3), (.int (1 : Int32))])) rfl rfl (hb hby own_d9_2)) ?_
  refine own_st (T' := s₁) (g' := (mkF m 11 #[.val (.ref a1), .val (.ref a2), .val (.ref a3), .val (.int (1 : Int32))] [])) (fun t k => XS.icmpYes X0.here hx rfl (pc0 := 3) (pc' := 11) rfl (hb hby own_d9_3) rfl (feq (by decide)).2 (by decide) (by decide) k) ?_
  refine own_st (T' := s₁) (g' := (mkF m 12 #[.val (.ref a1), .val (.ref a2), .val (.ref a3), .val (.int (1 : Int32))] [(.ref a3)])) (fun t k => XS.aloadN X0.here hx rfl (hb hby own_d9_11) rfl rfl k) ?_
  refine own_st (T' := s₁) (g' := (mkF m 13 #[.val (.ref a1), .val (.ref a2), .val (.ref a3), .val (.int (1 : Int32))] [(.int (1 : Int32)), (.ref a3)])) (fun t k => XS.iloadN X0.here hx rfl (hb hby own_d9_12) rfl k) ?_
  refine own_st (T' := s₁) (g' := (mkF m 14 #[.val (.ref a1), .val (.ref a2), .val (.ref a3), .val (.int (1 : Int32))] [(.ref a2), (.int (1 : Int32)), (.ref a3)])) (fun t k => XS.aloadN X0.here hx rfl (hb hby own_d9_13) rfl rfl k) ?_
  obtain ⟨T1, h1, X1, e1, W1, An1, st1⟩ := own_ast V_a3 OV_a3 E_a2 (hw _ (List.mem_of_getElem? (i := 96) rfl)) X0 hx hZ e0 (j := (1 : Int32)) ⟨by decide, by decide⟩ (Nat.le_of_ble_eq_true rfl) (g := (mkF m 14 #[.val (.ref a1), .val (.ref a2), .val (.ref a3), .val (.int (1 : Int32))] [(.ref a2), (.int (1 : Int32)), (.ref a3)])) rfl rfl (hb hby own_d9_14)
  have E_a1 := E_a1.wr W1
  have F_modCount_a1 := F_modCount_a1.other W1 (Or.inl (Ne.symm ne_a3_a1))
  have F_elementData_a1 := F_elementData_a1.other W1 (Or.inl (Ne.symm ne_a3_a1))
  have F_size_a1 := F_size_a1.other W1 (Or.inl (Ne.symm ne_a3_a1))
  have E_a2 := E_a2.wr W1
  have V_a3 : Arv Z h1 a3 k (.object "java/lang/Object") (10 : Int32) [(.ref x0), (.ref a2), .null, .null, .null, .null, .null, .null, .null, .null] .null := An1
  have K0_1 := (Keep.refl h0 [a1, a3]).wr W1 (Or.inl (List.mem_of_getElem? (i := 1) rfl))
  have N1 := Fr.snoc X1 N0 g_a3
  generalize hlc1 : ([] ++ [(⟨a3, ((1 : Int32) : Int32).toNatClampNeg⟩ : Loc)] : List Loc) = lc1 at X1 N1
  have Z1 : n0 ≤ h1.size := Nat.le_trans Z0 (Keep.of_wr W1).1
  refine own_st (T' := T1) (g' := (mkF m 15 #[.val (.ref a1), .val (.ref a2), .val (.ref a3), .val (.int (1 : Int32))] [])) st1 ?_
  refine own_st (T' := T1) (g' := (mkF m 16 #[.val (.ref a1), .val (.ref a2), .val (.ref a3), .val (.int (1 : Int32))] [(.ref a1)])) (fun t k => XS.aloadN X1.here hx rfl (hb hby own_d9_15) rfl rfl k) ?_
  refine own_st (T' := T1) (g' := (mkF m 17 #[.val (.ref a1), .val (.ref a2), .val (.ref a3), .val (.int (1 : Int32))] [(.int (1 : Int32)), (.ref a1)])) (fun t k => XS.iloadN X1.here hx rfl (hb hby own_d9_16) rfl k) ?_
  refine own_st (T' := T1) (g' := (mkF m 18 #[.val (.ref a1), .val (.ref a2), .val (.ref a3), .val (.int (1 : Int32))] [(.int (1 : Int32)), (.int (1 : Int32)), (.ref a1)])) (fun t k => XS.iconst X1.here hx rfl (hb hby own_d9_17) k) ?_
  refine own_st (T' := T1) (g' := (mkF m 19 #[.val (.ref a1), .val (.ref a2), .val (.ref a3), .val (.int (1 : Int32))] [(.int (2 : Int32)), (.ref a1)])) (fun t k => XS.iadd X1.here hx rfl (hb hby own_d9_18) rfl k) ?_
  obtain ⟨T2, h2, X2, e2, W2, st2⟩ := putF X1 hx hZ hown (host := "") (Or.inl (hw _ (List.mem_of_getElem? (i := 73) rfl))) Via.refl e1 F_size_a1 E_a1 (Or.inl (hw _ (List.mem_of_getElem? (i := 74) rfl))) (hw _ (List.mem_of_getElem? (i := 6) rfl)) (ty := .int) (by decide) rfl rfl (g := (mkF m 19 #[.val (.ref a1), .val (.ref a2), .val (.ref a3), .val (.int (1 : Int32))] [(.int (2 : Int32)), (.ref a1)])) rfl rfl (hb hby own_d9_19)
  have E_a1 := E_a1.wr W2
  have F_modCount_a1 := F_modCount_a1.other W2 (Or.inr (slot_ne (Or.inl (hw _ (List.mem_of_getElem? (i := 27) rfl))) (Or.inl (hw _ (List.mem_of_getElem? (i := 74) rfl))) (by decide) (t := .int) (t' := .int) (by decide) (by decide)))
  have F_elementData_a1 := F_elementData_a1.other W2 (Or.inr (slot_ne (Or.inl (hw _ (List.mem_of_getElem? (i := 30) rfl))) (Or.inl (hw _ (List.mem_of_getElem? (i := 74) rfl))) (by decide) (t := (.array (.object "java/lang/Object"))) (t' := .int) (by decide) (by decide)))
  have F_size_a1 := F_size_a1.same W2
  have E_a2 := E_a2.wr W2
  have V_a3 := V_a3.other W2 ne_a3_a1
  have K0_2 := K0_1.wr W2 (Or.inl (List.mem_of_getElem? (i := 0) rfl))
  have N2 := Fr.snoc X2 N1 g_a1
  generalize hlc2 : (lc1 ++ [(⟨a1, Jvm.RoadKit.slotOf Z "java/util/ArrayList" "size" "I"⟩ : Loc)] : List Loc) = lc2 at X2 N2
  have Z2 : n0 ≤ h2.size := Nat.le_trans Z1 (Keep.of_wr W2).1
  refine own_st (T' := T2) (g' := (mkF m 22 #[.val (.ref a1), .val (.ref a2), .val (.ref a3), .val (.int (1 : Int32))] [])) st2 ?_
  exact own_retV X2 hx hlk hret (hb hby own_d9_22) (by decide) (by decide) (by rw [e2]; exact ⟨rfl, N2, K0_2, ⟨E_a1, F_modCount_a1, F_elementData_a1, F_size_a1⟩, V_a3⟩)
theorem own_ef8n1 (m : MethodId) (a1 : Addr) (a2 : Addr) : entryFrame m #[(.ref a1), (.ref a2)] 2 = (mkF m 0 #[.val (.ref a1), .val (.ref a2)] []) := by first | (simp [entryFrame, mkF, argsToLocals, Value.category]; done) | rfl
set_option maxRecDepth 65536 in
set_option maxHeartbeats 40000000 in
theorem own_rm8n1 (l : Launch) (Z : State) (a0 : Array Value) (hw : ∀ d ∈ tables_1, d.before a0 Z = true) (h0 : Heap) (n0 : Nat) (Z0 : n0 ≤ h0.size) (a1 : Addr) (a2 : Addr) (arr : Addr) (k : ClassId) (x0 : Addr) (mc : Int32) (E_a2 : Exa Z h0 a2 "com/example/astraea/astraea/lang/Variable") (ne_a2_a1 : a2 ≠ a1) (ne_a2_arr : a2 ≠ arr) (ne_arr_a1 : arr ≠ a1) (V_arr : Arv Z h0 arr k (.object "java/lang/Object") 10 [(.ref x0), .null, .null, .null, .null, .null, .null, .null, .null, .null] .null) (OV_arr : Ovr Z k "java/lang/Object") (g_arr : n0 ≤ arr) (E_a1 : Exa Z h0 a1 "java/util/ArrayList") (F_modCount_a1 : Fld Z h0 a1 "java/util/AbstractList" "modCount" "I" (.int mc)) (F_elementData_a1 : Fld Z h0 a1 "java/util/ArrayList" "elementData" "[Ljava/lang/Object;" (.ref arr)) (F_size_a1 : Fld Z h0 a1 "java/util/ArrayList" "size" "I" (.int (1 : Int32))) (g_a1 : n0 ≤ a1) :
    own_C l Z (⟨"java/util/ArrayList", "add", "(Ljava/lang/Object;)Z"⟩ : MethodName) jdk_38_method_25_code 2 (some .boolean) [] ({ frames := 1, cells := 0, slots := 0, locals := 20 } : Room) #[(.ref a1), (.ref a2)] h0 (own_qa1 Z a1 arr k x0 a2 (.int (mc + 1)) (some (.int 1)) h0 n0) := by
  refine own_body own_pn8 (f0 := fun m => (mkF m 0 #[.val (.ref a1), .val (.ref a2)] [])) (fun m => own_ef8n1 m a1 a2) ?_
  intro p e s m below meth c s₁ hx hby hml hown hnm hret hlk hZ X0 e0
  change own_G p e below (own_F (own_qa1 Z a1 arr k x0 a2 (.int (mc + 1)) (some (.int 1)) h0 n0) s 0 0) s₁ (mkF m 0 #[.val (.ref a1), .val (.ref a2)] [])
  have N0 := Fr.nil n0
  refine own_st (T' := s₁) (g' := (mkF m 1 #[.val (.ref a1), .val (.ref a2)] [(.ref a1)])) (fun t k => XS.aloadN X0.here hx rfl (hb hby own_d8_0) rfl rfl k) ?_
  refine own_st (T' := s₁) (g' := (mkF m 2 #[.val (.ref a1), .val (.ref a2)] [(.ref a1), (.ref a1)])) (fun t k => XS.dup X0.here hx rfl (hb hby own_d8_1) rfl rfl k) ?_
  obtain ⟨T1, X1, e1, st1⟩ := getF X0 hx hZ hown (host := "") (Or.inl (hw _ (List.mem_of_getElem? (i := 71) rfl))) (Via.of (hw _ (List.mem_of_getElem? (i := 72) rfl))) e0 F_modCount_a1 (g := (mkF m 2 #[.val (.ref a1), .val (.ref a2)] [(.ref a1), (.ref a1)])) rfl rfl (hb hby own_d8_2)
  refine own_st (T' := T1) (g' := (mkF m 5 #[.val (.ref a1), .val (.ref a2)] [(.int mc), (.ref a1)])) st1 ?_
  refine own_st (T' := T1) (g' := (mkF m 6 #[.val (.ref a1), .val (.ref a2)] [(.int (1 : Int32)), (.int mc), (.ref a1)])) (fun t k => XS.iconst X1.here hx rfl (hb hby own_d8_5) k) ?_
  refine own_st (T' := T1) (g' := (mkF m 7 #[.val (.ref a1), .val (.ref a2)] [(.int (mc + (1 : Int32))), (.ref a1)])) (fun t k => XS.iadd X1.here hx rfl (hb hby own_d8_6) rfl k) ?_
  obtain ⟨T2, h2, X2, e2, W2, st2⟩ := putF X1 hx hZ hown (host := "") (Or.inl (hw _ (List.mem_of_getElem? (i := 71) rfl))) (Via.of (hw _ (List.mem_of_getElem? (i := 72) rfl))) e1 F_modCount_a1 E_a1 (Or.inl (hw _ (List.mem_of_getElem? (i := 27) rfl))) (hw _ (List.mem_of_getElem? (i := 6) rfl)) (ty := .int) (by decide) rfl rfl (g := (mkF m 7 #[.val (.ref a1), .val (.ref a2)] [(.int (mc + (1 : Int32))), (.ref a1)])) rfl rfl (hb hby own_d8_7)
  have E_a1 := E_a1.wr W2
  have F_modCount_a1 := F_modCount_a1.same W2
  have F_elementData_a1 := F_elementData_a1.other W2 (Or.inr (slot_ne (Or.inl (hw _ (List.mem_of_getElem? (i := 30) rfl))) (Or.inl (hw _ (List.mem_of_getElem? (i := 27) rfl))) (by decide) (t := (.array (.object "java/lang/Object"))) (t' := .int) (by decide) (by decide)))
  have F_size_a1 := F_size_a1.other W2 (Or.inr (slot_ne (Or.inl (hw _ (List.mem_of_getElem? (i := 74) rfl))) (Or.inl (hw _ (List.mem_of_getElem? (i := 27) rfl))) (by decide) (t := .int) (t' := .int) (by decide) (by decide)))
  have E_a2 := E_a2.wr W2
  have V_arr := V_arr.other W2 ne_arr_a1
  have K0_2 := (Keep.refl h0 [a1, arr]).wr W2 (Or.inl (List.mem_of_getElem? (i := 0) rfl))
  have N2 := Fr.snoc X2 N0 g_a1
  generalize hlc2 : ([] ++ [(⟨a1, Jvm.RoadKit.slotOf Z "java/util/AbstractList" "modCount" "I"⟩ : Loc)] : List Loc) = lc2 at X2 N2
  have Z2 : n0 ≤ h2.size := Nat.le_trans Z0 (Keep.of_wr W2).1
  refine own_st (T' := T2) (g' := (mkF m 10 #[.val (.ref a1), .val (.ref a2)] [])) st2 ?_
  refine own_st (T' := T2) (g' := (mkF m 11 #[.val (.ref a1), .val (.ref a2)] [(.ref a1)])) (fun t k => XS.aloadN X2.here hx rfl (hb hby own_d8_10) rfl rfl k) ?_
  refine own_st (T' := T2) (g' := (mkF m 12 #[.val (.ref a1), .val (.ref a2)] [(.ref a2), (.ref a1)])) (fun t k => XS.aloadN X2.here hx rfl (hb hby own_d8_11) rfl rfl k) ?_
  refine own_st (T' := T2) (g' := (mkF m 13 #[.val (.ref a1), .val (.ref a2)] [(.ref a1), (.ref a2), (.ref a1)])) (fun t k => XS.aloadN X2.here hx rfl (hb hby own_d8_12) rfl rfl k) ?_
  obtain ⟨T3, X3, e3, st3⟩ := getF X2 hx hZ hown (host := "") (Or.inl (hw _ (List.mem_of_getElem? (i := 29) rfl))) Via.refl e2 F_elementData_a1 (g := (mkF m 13 #[.val (.ref a1), .val (.ref a2)] [(.ref a1), (.ref a2), (.ref a1)])) rfl rfl (hb hby own_d8_13)
  refine own_st (T' := T3) (g' := (mkF m 16 #[.val (.ref a1), .val (.ref a2)] [(.ref arr), (.ref a2), (.ref a1)])) st3 ?_
  refine own_st (T' := T3) (g' := (mkF m 17 #[.val (.ref a1), .val (.ref a2)] [(.ref a1), (.ref arr), (.ref a2), (.ref a1)])) (fun t k => XS.aloadN X3.here hx rfl (hb hby own_d8_16) rfl rfl k) ?_
  obtain ⟨T4, X4, e4, st4⟩ := getF X3 hx hZ hown (host := "") (Or.inl (hw _ (List.mem_of_getElem? (i := 73) rfl))) Via.refl e3 F_size_a1 (g := (mkF m 17 #[.val (.ref a1), .val (.ref a2)] [(.ref a1), (.ref arr), (.ref a2), (.ref a1)])) rfl rfl (hb hby own_d8_17)
  refine own_st (T' := T4) (g' := (mkF m 20 #[.val (.ref a1), .val (.ref a2)] [(.int (1 : Int32)), (.ref arr), (.ref a2), (.ref a1)])) st4 ?_
  obtain ⟨_, T5, L5, hQ5, X5, st5⟩ := own_callP (y := (⟨"java/util/ArrayList", "add", "(Ljava/lang/Object;[Ljava/lang/Object;I)V"⟩ : MethodName)) (argsL := [(.ref a2), (.ref arr), (.int (1 : Int32))]) 0 [] (K := "java/util/ArrayList") (own_rm9n1 l Z a0 hw h2 n0 Z2 a1 a2 arr k x0 (.int (mc + (1 : Int32))) E_a2 ne_a2_a1 ne_a2_arr ne_arr_a1 V_arr OV_arr g_arr E_a1 F_modCount_a1 F_elementData_a1 F_size_a1 g_a1) X4 hx hZ hown (hw _ (List.mem_of_getElem? (i := 75) rfl)) (hw _ (List.mem_of_getElem? (i := 76) rfl)) (hw _ (List.mem_of_getElem? (i := 78) rfl)) (hw _ (List.mem_of_getElem? (i := 77) rfl)) (hw _ (List.mem_of_getElem? (i := 79) rfl)) (hw _ (List.mem_of_getElem? (i := 7) rfl)) (by decide) (by decide) (by decide) (by decide) (by decide) e4 E_a1 (g := (mkF m 20 #[.val (.ref a1), .val (.ref a2)] [(.int (1 : Int32)), (.ref arr), (.ref a2), (.ref a1)])) rfl (by rw [hml]; rfl) (lenOf own_pd4 rfl) rfl (by show 2 * 0 + _ ≤ _; exact Nat.le_of_eq rfl) (hb hby own_d8_20)
  obtain ⟨rfl, N5q, Kq5, ⟨E_a1, F_modCount_a1, F_elementData_a1, F_size_a1⟩, V_arr⟩ := hQ5
  have K0_5 := K0_2.trans Kq5 (allS (Or.inl (List.mem_of_getElem? (i := 0) rfl)) (allS (Or.inl (List.mem_of_getElem? (i := 1) rfl)) all0))
  have Z5 : n0 ≤ T5.heap.size := Nat.le_trans Z2 Kq5.1
  have E_a2 := E_a2.keep Kq5
  have N5 := Fr.app N2 N5q
  generalize hlc5 : (lc2 ++ L5 : List Loc) = lc5 at X5 N5
  have X5 : Stand p l e ({ frames := 1, cells := 0, slots := 0, locals := 20 } : Room) s m #[(.ref a1), (.ref a2)] below meth c T5 lc5 0 0 := X5
  refine own_st (T' := T5) (g' := (mkF m 23 #[.val (.ref a1), .val (.ref a2)] [])) st5 ?_
  refine own_st (T' := T5) (g' := (mkF m 24 #[.val (.ref a1), .val (.ref a2)] [(.int (1 : Int32))])) (fun t k => XS.iconst X5.here hx rfl (hb hby own_d8_23) k) ?_
  exact own_retB X5 hx hlk hret (hb hby own_d8_24) (by decide) (by decide) rfl ⟨rfl, N5, K0_5, ⟨E_a1, F_modCount_a1, F_elementData_a1, F_size_a1⟩, V_arr⟩
theorem own_ef9n2 (m : MethodId) (a1 : Addr) (a2 : Addr) (a3 : Addr) : entryFrame m #[(.ref a1), (.ref a2), (.ref a3), (.int (2 : Int32))] 4 = (mkF m 0 #[.val (.ref a1), .val (.ref a2), .val (.ref a3), .val (.int (2 : Int32))] []) := by first | (simp [entryFrame, mkF, argsToLocals, Value.category]; done) | rfl
set_option maxRecDepth 65536 in
set_option maxHeartbeats 40000000 in
theorem own_rm9n2 (l : Launch) (Z : State) (a0 : Array Value) (hw : ∀ d ∈ tables_1, d.before a0 Z = true) (h0 : Heap) (n0 : Nat) (Z0 : n0 ≤ h0.size) (a1 : Addr) (a2 : Addr) (a3 : Addr) (k : ClassId) (x0 x1 : Addr) (um : Value) (E_a2 : Exa Z h0 a2 "com/example/astraea/astraea/lang/Variable") (ne_a2_a1 : a2 ≠ a1) (ne_a2_a3 : a2 ≠ a3) (ne_a3_a1 : a3 ≠ a1) (V_a3 : Arv Z h0 a3 k (.object "java/lang/Object") 10 [(.ref x0), (.ref x1), .null, .null, .null, .null, .null, .null, .null, .null] .null) (OV_a3 : Ovr Z k "java/lang/Object") (g_a3 : n0 ≤ a3) (E_a1 : Exa Z h0 a1 "java/util/ArrayList") (F_modCount_a1 : Fld Z h0 a1 "java/util/AbstractList" "modCount" "I" um) (F_elementData_a1 : Fld Z h0 a1 "java/util/ArrayList" "elementData" "[Ljava/lang/Object;" (.ref a3)) (F_size_a1 : Fld Z h0 a1 "java/util/ArrayList" "size" "I" (.int (2 : Int32))) (g_a1 : n0 ≤ a1) :
    own_C l Z (⟨"java/util/ArrayList", "add", "(Ljava/lang/Object;[Ljava/lang/Object;I)V"⟩ : MethodName) jdk_38_method_24_code 4 none [] ({ frames := 0, cells := 0, slots := 0, locals := 0 } : Room) #[(.ref a1), (.ref a2), (.ref a3), (.int (2 : Int32))] h0 (own_qa2 Z a1 a3 k x0 x1 a2 um none h0 n0) := by
  refine own_body own_pn9 (f0 := fun m => (mkF m 0 #[.val (.ref a1), .val (.ref a2), .val (.ref a3), .val (.int (2 : Int32))] [])) (fun m => own_ef9n2 m a1 a2 a3) ?_
  intro p e s m below meth c s₁ hx hby hml hown hnm hret hlk hZ X0 e0
  change own_G p e below (own_F (own_qa2 Z a1 a3 k x0 x1 a2 um none h0 n0) s 0 0) s₁ (mkF m 0 #[.val (.ref a1), .val (.ref a2), .val (.ref a3), .val (.int (2 : Int32))] [])
  have N0 := Fr.nil n0
  refine own_st (T' := s₁) (g' := (mkF m 1 #[.val (.ref a1), .val (.ref a2), .val (.ref a3), .val (.int (2 : Int32))] [(.int (2 : Int32))])) (fun t k => XS.iloadN X0.here hx rfl (hb hby own_d9_0) rfl k) ?_
  refine own_st (T' := s₁) (g' := (mkF m 2 #[.val (.ref a1), .val (.ref a2), .val (.ref a3), .val (.int (2 : Int32))] [(.ref a3), (.int (2 : Int32))])) (fun t k => XS.aloadN X0.here hx rfl (hb hby own_d9_1) rfl rfl k) ?_
  refine own_st (T' := s₁) (g' := (mkF m 3 #[.val (.ref a1), .val (.ref a2), .val (.ref a3), .val (.int (2 : Int32))] [(.int (10 : Int32)), (.int (2 : Int32))])) (own_alen V_a3 X0 hx hZ e0 (g := (mkF m 2 #[.val (.ref a1), .val (.ref a2), .val (.ref a3), .val (.int (2 : Int32))] [(.ref a3), (.int (2 : Int32))])) rfl rfl (hb hby own_d9_2)) ?_
  refine own_st (T' := s₁) (g' := (mkF m 11 #[.val (.ref a1), .val (.ref a2), .val (.ref a3), .val (.int (2 : Int32))] [])) (fun t k => XS.icmpYes X0.here hx rfl (pc0 := 3) (pc' := 11) rfl (hb hby own_d9_3) rfl (feq (by decide)).2 (by decide) (by decide) k) ?_
  refine own_st (T' := s₁) (g' := (mkF m 12 #[.val (.ref a1), .val (.ref a2), .val (.ref a3), .val (.int (2 : Int32))] [(.ref a3)])) (fun t k => XS.aloadN X0.here hx rfl (hb hby own_d9_11) rfl rfl k) ?_
  refine own_st (T' := s₁) (g' := (mkF m 13 #[.val (.ref a1), .val (.ref a2), .val (.ref a3), .val (.int (2 : Int32))] [(.int (2 : Int32)), (.ref a3)])) (fun t k => XS.iloadN X0.here hx rfl (hb hby own_d9_12) rfl k) ?_
  refine own_st (T' := s₁) (g' := (mkF m 14 #[.val (.ref a1), .val (.ref a2), .val (.ref a3), .val (.int (2 : Int32))] [(.ref a2), (.int (2 : Int32)), (.ref a3)])) (fun t k => XS.aloadN X0.here hx rfl (hb hby own_d9_13) rfl rfl k) ?_
  obtain ⟨T1, h1, X1, e1, W1, An1, st1⟩ := own_ast V_a3 OV_a3 E_a2 (hw _ (List.mem_of_getElem? (i := 96) rfl)) X0 hx hZ e0 (j := (2 : Int32)) ⟨by decide, by decide⟩ (Nat.le_of_ble_eq_true rfl) (g := (mkF m 14 #[.val (.ref a1), .val (.ref a2), .val (.ref a3), .val (.int (2 : Int32))] [(.ref a2), (.int (2 : Int32)), (.ref a3)])) rfl rfl (hb hby own_d9_14)
  have E_a1 := E_a1.wr W1
  have F_modCount_a1 := F_modCount_a1.other W1 (Or.inl (Ne.symm ne_a3_a1))
  have F_elementData_a1 := F_elementData_a1.other W1 (Or.inl (Ne.symm ne_a3_a1))
  have F_size_a1 := F_size_a1.other W1 (Or.inl (Ne.symm ne_a3_a1))
  have E_a2 := E_a2.wr W1
  have V_a3 : Arv Z h1 a3 k (.object "java/lang/Object") (10 : Int32) [(.ref x0), (.ref x1), (.ref a2), .null, .null, .null, .null, .null, .null, .null] .null := An1
  have K0_1 := (Keep.refl h0 [a1, a3]).wr W1 (Or.inl (List.mem_of_getElem? (i := 1) rfl))
  have N1 := Fr.snoc X1 N0 g_a3
  generalize hlc1 : ([] ++ [(⟨a3, ((2 : Int32) : Int32).toNatClampNeg⟩ : Loc)] : List Loc) = lc1 at X1 N1
  have Z1 : n0 ≤ h1.size := Nat.le_trans Z0 (Keep.of_wr W1).1
  refine own_st (T' := T1) (g' := (mkF m 15 #[.val (.ref a1), .val (.ref a2), .val (.ref a3), .val (.int (2 : Int32))] [])) st1 ?_
  refine own_st (T' := T1) (g' := (mkF m 16 #[.val (.ref a1), .val (.ref a2), .val (.ref a3), .val (.int (2 : Int32))] [(.ref a1)])) (fun t k => XS.aloadN X1.here hx rfl (hb hby own_d9_15) rfl rfl k) ?_
  refine own_st (T' := T1) (g' := (mkF m 17 #[.val (.ref a1), .val (.ref a2), .val (.ref a3), .val (.int (2 : Int32))] [(.int (2 : Int32)), (.ref a1)])) (fun t k => XS.iloadN X1.here hx rfl (hb hby own_d9_16) rfl k) ?_
  refine own_st (T' := T1) (g' := (mkF m 18 #[.val (.ref a1), .val (.ref a2), .val (.ref a3), .val (.int (2 : Int32))] [(.int (1 : Int32)), (.int (2 : Int32)), (.ref a1)])) (fun t k => XS.iconst X1.here hx rfl (hb hby own_d9_17) k) ?_
  refine own_st (T' := T1) (g' := (mkF m 19 #[.val (.ref a1), .val (.ref a2), .val (.ref a3), .val (.int (2 : Int32))] [(.int (3 : Int32)), (.ref a1)])) (fun t k => XS.iadd X1.here hx rfl (hb hby own_d9_18) rfl k) ?_
  obtain ⟨T2, h2, X2, e2, W2, st2⟩ := putF X1 hx hZ hown (host := "") (Or.inl (hw _ (List.mem_of_getElem? (i := 73) rfl))) Via.refl e1 F_size_a1 E_a1 (Or.inl (hw _ (List.mem_of_getElem? (i := 74) rfl))) (hw _ (List.mem_of_getElem? (i := 6) rfl)) (ty := .int) (by decide) rfl rfl (g := (mkF m 19 #[.val (.ref a1), .val (.ref a2), .val (.ref a3), .val (.int (2 : Int32))] [(.int (3 : Int32)), (.ref a1)])) rfl rfl (hb hby own_d9_19)
  have E_a1 := E_a1.wr W2
  have F_modCount_a1 := F_modCount_a1.other W2 (Or.inr (slot_ne (Or.inl (hw _ (List.mem_of_getElem? (i := 27) rfl))) (Or.inl (hw _ (List.mem_of_getElem? (i := 74) rfl))) (by decide) (t := .int) (t' := .int) (by decide) (by decide)))
  have F_elementData_a1 := F_elementData_a1.other W2 (Or.inr (slot_ne (Or.inl (hw _ (List.mem_of_getElem? (i := 30) rfl))) (Or.inl (hw _ (List.mem_of_getElem? (i := 74) rfl))) (by decide) (t := (.array (.object "java/lang/Object"))) (t' := .int) (by decide) (by decide)))
  have F_size_a1 := F_size_a1.same W2
  have E_a2 := E_a2.wr W2
  have V_a3 := V_a3.other W2 ne_a3_a1
  have K0_2 := K0_1.wr W2 (Or.inl (List.mem_of_getElem? (i := 0) rfl))
  have N2 := Fr.snoc X2 N1 g_a1
  generalize hlc2 : (lc1 ++ [(⟨a1, Jvm.RoadKit.slotOf Z "java/util/ArrayList" "size" "I"⟩ : Loc)] : List Loc) = lc2 at X2 N2
  have Z2 : n0 ≤ h2.size := Nat.le_trans Z1 (Keep.of_wr W2).1
  refine own_st (T' := T2) (g' := (mkF m 22 #[.val (.ref a1), .val (.ref a2), .val (.ref a3), .val (.int (2 : Int32))] [])) st2 ?_
  exact own_retV X2 hx hlk hret (hb hby own_d9_22) (by decide) (by decide) (by rw [e2]; exact ⟨rfl, N2, K0_2, ⟨E_a1, F_modCount_a1, F_elementData_a1, F_size_a1⟩, V_a3⟩)
theorem own_ef8n2 (m : MethodId) (a1 : Addr) (a2 : Addr) : entryFrame m #[(.ref a1), (.ref a2)] 2 = (mkF m 0 #[.val (.ref a1), .val (.ref a2)] []) := by first | (simp [entryFrame, mkF, argsToLocals, Value.category]; done) | rfl
set_option maxRecDepth 65536 in
set_option maxHeartbeats 40000000 in
theorem own_rm8n2 (l : Launch) (Z : State) (a0 : Array Value) (hw : ∀ d ∈ tables_1, d.before a0 Z = true) (h0 : Heap) (n0 : Nat) (Z0 : n0 ≤ h0.size) (a1 : Addr) (a2 : Addr) (arr : Addr) (k : ClassId) (x0 x1 : Addr) (mc : Int32) (E_a2 : Exa Z h0 a2 "com/example/astraea/astraea/lang/Variable") (ne_a2_a1 : a2 ≠ a1) (ne_a2_arr : a2 ≠ arr) (ne_arr_a1 : arr ≠ a1) (V_arr : Arv Z h0 arr k (.object "java/lang/Object") 10 [(.ref x0), (.ref x1), .null, .null, .null, .null, .null, .null, .null, .null] .null) (OV_arr : Ovr Z k "java/lang/Object") (g_arr : n0 ≤ arr) (E_a1 : Exa Z h0 a1 "java/util/ArrayList") (F_modCount_a1 : Fld Z h0 a1 "java/util/AbstractList" "modCount" "I" (.int mc)) (F_elementData_a1 : Fld Z h0 a1 "java/util/ArrayList" "elementData" "[Ljava/lang/Object;" (.ref arr)) (F_size_a1 : Fld Z h0 a1 "java/util/ArrayList" "size" "I" (.int (2 : Int32))) (g_a1 : n0 ≤ a1) :
    own_C l Z (⟨"java/util/ArrayList", "add", "(Ljava/lang/Object;)Z"⟩ : MethodName) jdk_38_method_25_code 2 (some .boolean) [] ({ frames := 1, cells := 0, slots := 0, locals := 20 } : Room) #[(.ref a1), (.ref a2)] h0 (own_qa2 Z a1 arr k x0 x1 a2 (.int (mc + 1)) (some (.int 1)) h0 n0) := by
  refine own_body own_pn8 (f0 := fun m => (mkF m 0 #[.val (.ref a1), .val (.ref a2)] [])) (fun m => own_ef8n2 m a1 a2) ?_
  intro p e s m below meth c s₁ hx hby hml hown hnm hret hlk hZ X0 e0
  change own_G p e below (own_F (own_qa2 Z a1 arr k x0 x1 a2 (.int (mc + 1)) (some (.int 1)) h0 n0) s 0 0) s₁ (mkF m 0 #[.val (.ref a1), .val (.ref a2)] [])
  have N0 := Fr.nil n0
  refine own_st (T' := s₁) (g' := (mkF m 1 #[.val (.ref a1), .val (.ref a2)] [(.ref a1)])) (fun t k => XS.aloadN X0.here hx rfl (hb hby own_d8_0) rfl rfl k) ?_
  refine own_st (T' := s₁) (g' := (mkF m 2 #[.val (.ref a1), .val (.ref a2)] [(.ref a1), (.ref a1)])) (fun t k => XS.dup X0.here hx rfl (hb hby own_d8_1) rfl rfl k) ?_
  obtain ⟨T1, X1, e1, st1⟩ := getF X0 hx hZ hown (host := "") (Or.inl (hw _ (List.mem_of_getElem? (i := 71) rfl))) (Via.of (hw _ (List.mem_of_getElem? (i := 72) rfl))) e0 F_modCount_a1 (g := (mkF m 2 #[.val (.ref a1), .val (.ref a2)] [(.ref a1), (.ref a1)])) rfl rfl (hb hby own_d8_2)
  refine own_st (T' := T1) (g' := (mkF m 5 #[.val (.ref a1), .val (.ref a2)] [(.int mc), (.ref a1)])) st1 ?_
  refine own_st (T' := T1) (g' := (mkF m 6 #[.val (.ref a1), .val (.ref a2)] [(.int (1 : Int32)), (.int mc), (.ref a1)])) (fun t k => XS.iconst X1.here hx rfl (hb hby own_d8_5) k) ?_
  refine own_st (T' := T1) (g' := (mkF m 7 #[.val (.ref a1), .val (.ref a2)] [(.int (mc + (1 : Int32))), (.ref a1)])) (fun t k => XS.iadd X1.here hx rfl (hb hby own_d8_6) rfl k) ?_
  obtain ⟨T2, h2, X2, e2, W2, st2⟩ := putF X1 hx hZ hown (host := "") (Or.inl (hw _ (List.mem_of_getElem? (i := 71) rfl))) (Via.of (hw _ (List.mem_of_getElem? (i := 72) rfl))) e1 F_modCount_a1 E_a1 (Or.inl (hw _ (List.mem_of_getElem? (i := 27) rfl))) (hw _ (List.mem_of_getElem? (i := 6) rfl)) (ty := .int) (by decide) rfl rfl (g := (mkF m 7 #[.val (.ref a1), .val (.ref a2)] [(.int (mc + (1 : Int32))), (.ref a1)])) rfl rfl (hb hby own_d8_7)
  have E_a1 := E_a1.wr W2
  have F_modCount_a1 := F_modCount_a1.same W2
  have F_elementData_a1 := F_elementData_a1.other W2 (Or.inr (slot_ne (Or.inl (hw _ (List.mem_of_getElem? (i := 30) rfl))) (Or.inl (hw _ (List.mem_of_getElem? (i := 27) rfl))) (by decide) (t := (.array (.object "java/lang/Object"))) (t' := .int) (by decide) (by decide)))
  have F_size_a1 := F_size_a1.other W2 (Or.inr (slot_ne (Or.inl (hw _ (List.mem_of_getElem? (i := 74) rfl))) (Or.inl (hw _ (List.mem_of_getElem? (i := 27) rfl))) (by decide) (t := .int) (t' := .int) (by decide) (by decide)))
  have E_a2 := E_a2.wr W2
  have V_arr := V_arr.other W2 ne_arr_a1
  have K0_2 := (Keep.refl h0 [a1, arr]).wr W2 (Or.inl (List.mem_of_getElem? (i := 0) rfl))
  have N2 := Fr.snoc X2 N0 g_a1
  generalize hlc2 : ([] ++ [(⟨a1, Jvm.RoadKit.slotOf Z "java/util/AbstractList" "modCount" "I"⟩ : Loc)] : List Loc) = lc2 at X2 N2
  have Z2 : n0 ≤ h2.size := Nat.le_trans Z0 (Keep.of_wr W2).1
  refine own_st (T' := T2) (g' := (mkF m 10 #[.val (.ref a1), .val (.ref a2)] [])) st2 ?_
  refine own_st (T' := T2) (g' := (mkF m 11 #[.val (.ref a1), .val (.ref a2)] [(.ref a1)])) (fun t k => XS.aloadN X2.here hx rfl (hb hby own_d8_10) rfl rfl k) ?_
  refine own_st (T' := T2) (g' := (mkF m 12 #[.val (.ref a1), .val (.ref a2)] [(.ref a2), (.ref a1)])) (fun t k => XS.aloadN X2.here hx rfl (hb hby own_d8_11) rfl rfl k) ?_
  refine own_st (T' := T2) (g' := (mkF m 13 #[.val (.ref a1), .val (.ref a2)] [(.ref a1), (.ref a2), (.ref a1)])) (fun t k => XS.aloadN X2.here hx rfl (hb hby own_d8_12) rfl rfl k) ?_
  obtain ⟨T3, X3, e3, st3⟩ := getF X2 hx hZ hown (host := "") (Or.inl (hw _ (List.mem_of_getElem? (i := 29) rfl))) Via.refl e2 F_elementData_a1 (g := (mkF m 13 #[.val (.ref a1), .val (.ref a2)] [(.ref a1), (.ref a2), (.ref a1)])) rfl rfl (hb hby own_d8_13)
  refine own_st (T' := T3) (g' := (mkF m 16 #[.val (.ref a1), .val (.ref a2)] [(.ref arr), (.ref a2), (.ref a1)])) st3 ?_
  refine own_st (T' := T3) (g' := (mkF m 17 #[.val (.ref a1), .val (.ref a2)] [(.ref a1), (.ref arr), (.ref a2), (.ref a1)])) (fun t k => XS.aloadN X3.here hx rfl (hb hby own_d8_16) rfl rfl k) ?_
  obtain ⟨T4, X4, e4, st4⟩ := getF X3 hx hZ hown (host := "") (Or.inl (hw _ (List.mem_of_getElem? (i := 73) rfl))) Via.refl e3 F_size_a1 (g := (mkF m 17 #[.val (.ref a1), .val (.ref a2)] [(.ref a1), (.ref arr), (.ref a2), (.ref a1)])) rfl rfl (hb hby own_d8_17)
  refine own_st (T' := T4) (g' := (mkF m 20 #[.val (.ref a1), .val (.ref a2)] [(.int (2 : Int32)), (.ref arr), (.ref a2), (.ref a1)])) st4 ?_
  obtain ⟨_, T5, L5, hQ5, X5, st5⟩ := own_callP (y := (⟨"java/util/ArrayList", "add", "(Ljava/lang/Object;[Ljava/lang/Object;I)V"⟩ : MethodName)) (argsL := [(.ref a2), (.ref arr), (.int (2 : Int32))]) 0 [] (K := "java/util/ArrayList") (own_rm9n2 l Z a0 hw h2 n0 Z2 a1 a2 arr k x0 x1 (.int (mc + (1 : Int32))) E_a2 ne_a2_a1 ne_a2_arr ne_arr_a1 V_arr OV_arr g_arr E_a1 F_modCount_a1 F_elementData_a1 F_size_a1 g_a1) X4 hx hZ hown (hw _ (List.mem_of_getElem? (i := 75) rfl)) (hw _ (List.mem_of_getElem? (i := 76) rfl)) (hw _ (List.mem_of_getElem? (i := 78) rfl)) (hw _ (List.mem_of_getElem? (i := 77) rfl)) (hw _ (List.mem_of_getElem? (i := 79) rfl)) (hw _ (List.mem_of_getElem? (i := 7) rfl)) (by decide) (by decide) (by decide) (by decide) (by decide) e4 E_a1 (g := (mkF m 20 #[.val (.ref a1), .val (.ref a2)] [(.int (2 : Int32)), (.ref arr), (.ref a2), (.ref a1)])) rfl (by rw [hml]; rfl) (lenOf own_pd4 rfl) rfl (by show 2 * 0 + _ ≤ _; exact Nat.le_of_eq rfl) (hb hby own_d8_20)
  obtain ⟨rfl, N5q, Kq5, ⟨E_a1, F_modCount_a1, F_elementData_a1, F_size_a1⟩, V_arr⟩ := hQ5
  have K0_5 := K0_2.trans Kq5 (allS (Or.inl (List.mem_of_getElem? (i := 0) rfl)) (allS (Or.inl (List.mem_of_getElem? (i := 1) rfl)) all0))
  have Z5 : n0 ≤ T5.heap.size := Nat.le_trans Z2 Kq5.1
  have E_a2 := E_a2.keep Kq5
  have N5 := Fr.app N2 N5q
  generalize hlc5 : (lc2 ++ L5 : List Loc) = lc5 at X5 N5
  have X5 : Stand p l e ({ frames := 1, cells := 0, slots := 0, locals := 20 } : Room) s m #[(.ref a1), (.ref a2)] below meth c T5 lc5 0 0 := X5
  refine own_st (T' := T5) (g' := (mkF m 23 #[.val (.ref a1), .val (.ref a2)] [])) st5 ?_
  refine own_st (T' := T5) (g' := (mkF m 24 #[.val (.ref a1), .val (.ref a2)] [(.int (1 : Int32))])) (fun t k => XS.iconst X5.here hx rfl (hb hby own_d8_23) k) ?_
  exact own_retB X5 hx hlk hret (hb hby own_d8_24) (by decide) (by decide) rfl ⟨rfl, N5, K0_5, ⟨E_a1, F_modCount_a1, F_elementData_a1, F_size_a1⟩, V_arr⟩
theorem own_d14_0 : decode jdk_38_method_8_code 0 = .ok (.aload_n 0, 1) := by decide +kernel
theorem own_d14_1 : decode jdk_38_method_8_code 1 = .ok (.getfield 48, 3) := by decide +kernel
theorem own_d14_4 : decode jdk_38_method_8_code 4 = .ok (.ireturn, 1) := by decide +kernel
theorem own_pn14 : plainFor (⟨"java/util/ArrayList", "size", "()I"⟩ : MethodName) = true := plainFor_of_name (show plainName "java/util/ArrayList" = true by first | (simp [plainName, overriddenIn]; done) | decide +kernel)
theorem own_ef14 (m : MethodId) (a1 : Addr) : entryFrame m #[(.ref a1)] 1 = (mkF m 0 #[.val (.ref a1)] []) := by first | (simp [entryFrame, mkF, argsToLocals, Value.category]; done) | rfl
set_option maxRecDepth 65536 in
set_option maxHeartbeats 40000000 in
theorem own_rm14 (l : Launch) (Z : State) (a0 : Array Value) (hw : ∀ d ∈ tables_1, d.before a0 Z = true) (h0 : Heap) (n0 : Nat) (Z0 : n0 ≤ h0.size) (a1 : Addr) (z : Int32) (F_size_a1 : Fld Z h0 a1 "java/util/ArrayList" "size" "I" (.int z)) :
    own_C l Z (⟨"java/util/ArrayList", "size", "()I"⟩ : MethodName) jdk_38_method_8_code 1 (some .int) [] ({ frames := 0, cells := 0, slots := 0, locals := 0 } : Room) #[(.ref a1)] h0 (own_P (.int z) h0) := by
  refine own_body own_pn14 (f0 := fun m => (mkF m 0 #[.val (.ref a1)] [])) (fun m => own_ef14 m a1) ?_
  intro p e s m below meth c s₁ hx hby hml hown hnm hret hlk hZ X0 e0
  change own_G p e below (own_F (own_P (.int z) h0) s 0 0) s₁ (mkF m 0 #[.val (.ref a1)] [])
  have N0 := Fr.nil n0
  refine own_st (T' := s₁) (g' := (mkF m 1 #[.val (.ref a1)] [(.ref a1)])) (fun t k => XS.aloadN X0.here hx rfl (hb hby own_d14_0) rfl rfl k) ?_
  obtain ⟨T1, X1, e1, st1⟩ := getF X0 hx hZ hown (host := "") (Or.inl (hw _ (List.mem_of_getElem? (i := 73) rfl))) Via.refl e0 F_size_a1 (g := (mkF m 1 #[.val (.ref a1)] [(.ref a1)])) rfl rfl (hb hby own_d14_1)
  refine own_st (T' := T1) (g' := (mkF m 4 #[.val (.ref a1)] [(.int z)])) st1 ?_
  exact own_retI X1 hx hlk hret (hb hby own_d14_4) (by decide) (by decide) ⟨rfl, e1, rfl⟩
theorem own_d17_0 : decode jdk_41_method_11_code 0 = .ok (.iload_n 0, 1) := by decide +kernel
theorem own_d17_1 : decode jdk_41_method_11_code 1 = .ok (.ifCond .lt 8, 3) := by decide +kernel
theorem own_d17_4 : decode jdk_41_method_11_code 4 = .ok (.iload_n 0, 1) := by decide +kernel
theorem own_d17_5 : decode jdk_41_method_11_code 5 = .ok (.iload_n 1, 1) := by decide +kernel
theorem own_d17_6 : decode jdk_41_method_11_code 6 = .ok (.if_icmp .lt 10, 3) := by decide +kernel
theorem own_d17_16 : decode jdk_41_method_11_code 16 = .ok (.iload_n 0, 1) := by decide +kernel
theorem own_d17_17 : decode jdk_41_method_11_code 17 = .ok (.ireturn, 1) := by decide +kernel
theorem own_pn17 : plainFor (⟨"jdk/internal/util/Preconditions", "checkIndex", "(IILjava/util/function/BiFunction;)I"⟩ : MethodName) = true := plainFor_of_name (show plainName "jdk/internal/util/Preconditions" = true by first | (simp [plainName, overriddenIn]; done) | decide +kernel)
theorem own_ef17 (m : MethodId) (p1 : Int32) (p2 : Int32) : entryFrame m #[(.int p1), (.int p2), .null] 3 = (mkF m 0 #[.val (.int p1), .val (.int p2), .val .null] []) := by first | (simp [entryFrame, mkF, argsToLocals, Value.category]; done) | rfl
set_option maxRecDepth 65536 in
set_option maxHeartbeats 40000000 in
theorem own_rm17 (l : Launch) (Z : State) (a0 : Array Value) (hw : ∀ d ∈ tables_1, d.before a0 Z = true) (h0 : Heap) (n0 : Nat) (Z0 : n0 ≤ h0.size) (p1 : Int32) (p2 : Int32) (h1 : ¬ p1 < 0) (h2 : p1 < p2) :
    own_C l Z (⟨"jdk/internal/util/Preconditions", "checkIndex", "(IILjava/util/function/BiFunction;)I"⟩ : MethodName) jdk_41_method_11_code 3 (some .int) [] ({ frames := 0, cells := 0, slots := 0, locals := 0 } : Room) #[(.int p1), (.int p2), .null] h0 (own_P (.int p1) h0) := by
  refine own_body own_pn17 (f0 := fun m => (mkF m 0 #[.val (.int p1), .val (.int p2), .val .null] [])) (fun m => own_ef17 m p1 p2) ?_
  intro p e s m below meth c s₁ hx hby hml hown hnm hret hlk hZ X0 e0
  change own_G p e below (own_F (own_P (.int p1) h0) s 0 0) s₁ (mkF m 0 #[.val (.int p1), .val (.int p2), .val .null] [])
  have N0 := Fr.nil n0
  refine own_st (T' := s₁) (g' := (mkF m 1 #[.val (.int p1), .val (.int p2), .val .null] [(.int p1)])) (fun t k => XS.iloadN X0.here hx rfl (hb hby own_d17_0) rfl k) ?_
  have hk1 : ¬ (p1 < (0 : Int32)) := h1
  refine own_st (T' := s₁) (g' := (mkF m 4 #[.val (.int p1), .val (.int p2), .val .null] [])) (fun t k => XS.ifNo X0.here hx rfl (hb hby own_d17_1) rfl ((if0 _ _).trans (flt hk1).1) k) ?_
  refine own_st (T' := s₁) (g' := (mkF m 5 #[.val (.int p1), .val (.int p2), .val .null] [(.int p1)])) (fun t k => XS.iloadN X0.here hx rfl (hb hby own_d17_4) rfl k) ?_
  refine own_st (T' := s₁) (g' := (mkF m 6 #[.val (.int p1), .val (.int p2), .val .null] [(.int p2), (.int p1)])) (fun t k => XS.iloadN X0.here hx rfl (hb hby own_d17_5) rfl k) ?_
  have hk2 : p1 < p2 := h2
  refine own_st (T' := s₁) (g' := (mkF m 16 #[.val (.int p1), .val (.int p2), .val .null] [])) (fun t k => XS.icmpYes X0.here hx rfl (pc0 := 6) (pc' := 16) rfl (hb hby own_d17_6) rfl (tlt hk2).1 (by decide) (by decide) k) ?_
  refine own_st (T' := s₁) (g' := (mkF m 17 #[.val (.int p1), .val (.int p2), .val .null] [(.int p1)])) (fun t k => XS.iloadN X0.here hx rfl (hb hby own_d17_16) rfl k) ?_
  exact own_retI X0 hx hlk hret (hb hby own_d17_17) (by decide) (by decide) ⟨rfl, e0, rfl⟩
theorem own_d16_0 : decode jdk_31_method_17_code 0 = .ok (.iload_n 0, 1) := by decide +kernel
theorem own_d16_1 : decode jdk_31_method_17_code 1 = .ok (.iload_n 1, 1) := by decide +kernel
theorem own_d16_2 : decode jdk_31_method_17_code 2 = .ok (.aconst_null, 1) := by decide +kernel
theorem own_d16_3 : decode jdk_31_method_17_code 3 = .ok (.invokestatic 105, 3) := by decide +kernel
theorem own_d16_6 : decode jdk_31_method_17_code 6 = .ok (.ireturn, 1) := by decide +kernel
theorem own_pn16 : plainFor (⟨"java/util/Objects", "checkIndex", "(II)I"⟩ : MethodName) = true := plainFor_of_name (show plainName "java/util/Objects" = true by first | (simp [plainName, overriddenIn]; done) | decide +kernel)
theorem own_ef16 (m : MethodId) (p1 : Int32) (p2 : Int32) : entryFrame m #[(.int p1), (.int p2)] 2 = (mkF m 0 #[.val (.int p1), .val (.int p2)] []) := by first | (simp [entryFrame, mkF, argsToLocals, Value.category]; done) | rfl
set_option maxRecDepth 65536 in
set_option maxHeartbeats 40000000 in
theorem own_rm16 (l : Launch) (Z : State) (a0 : Array Value) (hw : ∀ d ∈ tables_1, d.before a0 Z = true) (h0 : Heap) (n0 : Nat) (Z0 : n0 ≤ h0.size) (p1 : Int32) (p2 : Int32) (h1 : ¬ p1 < 0) (h2 : p1 < p2) :
    own_C l Z (⟨"java/util/Objects", "checkIndex", "(II)I"⟩ : MethodName) jdk_31_method_17_code 2 (some .int) [] ({ frames := 1, cells := 0, slots := 0, locals := 14 } : Room) #[(.int p1), (.int p2)] h0 (own_P (.int p1) h0) := by
  refine own_body own_pn16 (f0 := fun m => (mkF m 0 #[.val (.int p1), .val (.int p2)] [])) (fun m => own_ef16 m p1 p2) ?_
  intro p e s m below meth c s₁ hx hby hml hown hnm hret hlk hZ X0 e0
  change own_G p e below (own_F (own_P (.int p1) h0) s 0 0) s₁ (mkF m 0 #[.val (.int p1), .val (.int p2)] [])
  have N0 := Fr.nil n0
  refine own_st (T' := s₁) (g' := (mkF m 1 #[.val (.int p1), .val (.int p2)] [(.int p1)])) (fun t k => XS.iloadN X0.here hx rfl (hb hby own_d16_0) rfl k) ?_
  refine own_st (T' := s₁) (g' := (mkF m 2 #[.val (.int p1), .val (.int p2)] [(.int p2), (.int p1)])) (fun t k => XS.iloadN X0.here hx rfl (hb hby own_d16_1) rfl k) ?_
  refine own_st (T' := s₁) (g' := (mkF m 3 #[.val (.int p1), .val (.int p2)] [.null, (.int p2), (.int p1)])) (fun t k => XS.aconstNull X0.here hx rfl (hb hby own_d16_2) k) ?_
  obtain ⟨_, T1, L1, hQ1, X1, st1⟩ := own_callS (y := (⟨"jdk/internal/util/Preconditions", "checkIndex", "(IILjava/util/function/BiFunction;)I"⟩ : MethodName)) (argsL := [(.int p1), (.int p2), .null]) 0 [] (own_rm17 l Z a0 hw h0 n0 Z0 p1 p2 h1 h2) X0 hx hZ hown (hw _ (List.mem_of_getElem? (i := 137) rfl)) (hw _ (List.mem_of_getElem? (i := 138) rfl)) (hw _ (List.mem_of_getElem? (i := 139) rfl)) (hw _ (List.mem_of_getElem? (i := 140) rfl)) (by decide) (by decide) (by decide) (by decide) (by decide) e0 (g := (mkF m 3 #[.val (.int p1), .val (.int p2)] [.null, (.int p2), (.int p1)])) rfl (by rw [hml]; rfl) (lenOf own_pd5 rfl) rfl (by show 2 * 0 + _ ≤ _; exact Nat.le_of_eq rfl) (hb hby own_d16_3)
  obtain ⟨rfl, e1, rfl⟩ := hQ1
  have X1 : Stand p l e ({ frames := 1, cells := 0, slots := 0, locals := 14 } : Room) s m #[(.int p1), (.int p2)] below meth c T1 [] 0 0 := X1
  refine own_st (T' := T1) (g' := (mkF m 6 #[.val (.int p1), .val (.int p2)] [(.int p1)])) st1 ?_
  exact own_retI X1 hx hlk hret (hb hby own_d16_6) (by decide) (by decide) ⟨rfl, e1, rfl⟩
theorem own_d18_0 : decode jdk_38_method_18_code 0 = .ok (.aload_n 0, 1) := by decide +kernel
theorem own_d18_1 : decode jdk_38_method_18_code 1 = .ok (.getfield 9, 3) := by decide +kernel
theorem own_d18_4 : decode jdk_38_method_18_code 4 = .ok (.iload_n 1, 1) := by decide +kernel
theorem own_d18_5 : decode jdk_38_method_18_code 5 = .ok (.aaload, 1) := by decide +kernel
theorem own_d18_6 : decode jdk_38_method_18_code 6 = .ok (.areturn, 1) := by decide +kernel
theorem own_pn18 : plainFor (⟨"java/util/ArrayList", "elementData", "(I)Ljava/lang/Object;"⟩ : MethodName) = true := plainFor_of_name (show plainName "java/util/ArrayList" = true by first | (simp [plainName, overriddenIn]; done) | decide +kernel)
theorem own_ef18n0 (m : MethodId) (a1 : Addr) : entryFrame m #[(.ref a1), (.int (0 : Int32))] 2 = (mkF m 0 #[.val (.ref a1), .val (.int (0 : Int32))] []) := by first | (simp [entryFrame, mkF, argsToLocals, Value.category]; done) | rfl
set_option maxRecDepth 65536 in
set_option maxHeartbeats 40000000 in
theorem own_rm18n0 (l : Launch) (Z : State) (a0 : Array Value) (hw : ∀ d ∈ tables_1, d.before a0 Z = true) (h0 : Heap) (n0 : Nat) (Z0 : n0 ≤ h0.size) (a1 : Addr) (ar x0 x1 x2 : Addr) (k : ClassId) (E_a1 : Exa Z h0 a1 "java/util/ArrayList") (F_size_a1 : Fld Z h0 a1 "java/util/ArrayList" "size" "I" (.int 3)) (F_elementData_a1 : Fld Z h0 a1 "java/util/ArrayList" "elementData" "[Ljava/lang/Object;" (.ref ar)) (V_ar : Arv Z h0 ar k (.object "java/lang/Object") 10 [(.ref x0), (.ref x1), (.ref x2), .null, .null, .null, .null, .null, .null, .null] .null) :
    own_C l Z (⟨"java/util/ArrayList", "elementData", "(I)Ljava/lang/Object;"⟩ : MethodName) jdk_38_method_18_code 2 (some (.object "java/lang/Object")) [] ({ frames := 0, cells := 0, slots := 0, locals := 0 } : Room) #[(.ref a1), (.int (0 : Int32))] h0 (own_P (.ref x0) h0) := by
  refine own_body own_pn18 (f0 := fun m => (mkF m 0 #[.val (.ref a1), .val (.int (0 : Int32))] [])) (fun m => own_ef18n0 m a1) ?_
  intro p e s m below meth c s₁ hx hby hml hown hnm hret hlk hZ X0 e0
  change own_G p e below (own_F (own_P (.ref x0) h0) s 0 0) s₁ (mkF m 0 #[.val (.ref a1), .val (.int (0 : Int32))] [])
  have N0 := Fr.nil n0
  refine own_st (T' := s₁) (g' := (mkF m 1 #[.val (.ref a1), .val (.int (0 : Int32))] [(.ref a1)])) (fun t k => XS.aloadN X0.here hx rfl (hb hby own_d18_0) rfl rfl k) ?_
  obtain ⟨T1, X1, e1, st1⟩ := getF X0 hx hZ hown (host := "") (Or.inl (hw _ (List.mem_of_getElem? (i := 29) rfl))) Via.refl e0 F_elementData_a1 (g := (mkF m 1 #[.val (.ref a1), .val (.int (0 : Int32))] [(.ref a1)])) rfl rfl (hb hby own_d18_1)
  refine own_st (T' := T1) (g' := (mkF m 4 #[.val (.ref a1), .val (.int (0 : Int32))] [(.ref ar)])) st1 ?_
  refine own_st (T' := T1) (g' := (mkF m 5 #[.val (.ref a1), .val (.int (0 : Int32))] [(.int (0 : Int32)), (.ref ar)])) (fun t k => XS.iloadN X1.here hx rfl (hb hby own_d18_4) rfl k) ?_
  obtain ⟨cl2, Ar2, q2, S2, N2n, H2, G2⟩ := V_ar
  have hin2 : ¬ ((0 : Int32) < 0 ∨ cl2.slots.size ≤ ((0 : Int32) : Int32).toNatClampNeg) := inb_of S2 ⟨by decide, by decide⟩
  have hat3 := H2.at hin2 (v := (.ref x0)) rfl
  have V_ar : Arv Z h0 ar k (.object "java/lang/Object") (10 : Int32) [(.ref x0), (.ref x1), (.ref x2), .null, .null, .null, .null, .null, .null, .null] .null := ⟨cl2, Ar2, q2, S2, N2n, H2, G2⟩
  refine own_st (T' := T1) (g' := (mkF m 6 #[.val (.ref a1), .val (.int (0 : Int32))] [(.ref x0)])) (X1.aaload hx (j := (0 : Int32)) (v := (.ref x0)) (by rw [e1]; exact Ar2.1) (State.isArrayOf_alike hZ.alike Ar2.2.1) rfl Ar2.2.2 hin2 hat3 (g := (mkF m 5 #[.val (.ref a1), .val (.int (0 : Int32))] [(.int (0 : Int32)), (.ref ar)])) rfl rfl (hb hby own_d18_5)) ?_
  exact own_retR X1 hx hlk hret (hb hby own_d18_6) (by decide) (by decide) rfl ⟨rfl, e1, rfl⟩
theorem own_d15_0 : decode jdk_38_method_20_code 0 = .ok (.iload_n 1, 1) := by decide +kernel
theorem own_d15_1 : decode jdk_38_method_20_code 1 = .ok (.aload_n 0, 1) := by decide +kernel
theorem own_d15_2 : decode jdk_38_method_20_code 2 = .ok (.getfield 48, 3) := by decide +kernel
theorem own_d15_5 : decode jdk_38_method_20_code 5 = .ok (.invokestatic 118, 3) := by decide +kernel
theorem own_d15_8 : decode jdk_38_method_20_code 8 = .ok (.pop, 1) := by decide +kernel
theorem own_d15_9 : decode jdk_38_method_20_code 9 = .ok (.aload_n 0, 1) := by decide +kernel
theorem own_d15_10 : decode jdk_38_method_20_code 10 = .ok (.iload_n 1, 1) := by decide +kernel
theorem own_d15_11 : decode jdk_38_method_20_code 11 = .ok (.invokevirtual 123, 3) := by decide +kernel
theorem own_d15_14 : decode jdk_38_method_20_code 14 = .ok (.areturn, 1) := by decide +kernel
theorem own_pn15 : plainFor (⟨"java/util/ArrayList", "get", "(I)Ljava/lang/Object;"⟩ : MethodName) = true := plainFor_of_name (show plainName "java/util/ArrayList" = true by first | (simp [plainName, overriddenIn]; done) | decide +kernel)
theorem own_ef15n0 (m : MethodId) (a1 : Addr) : entryFrame m #[(.ref a1), (.int (0 : Int32))] 2 = (mkF m 0 #[.val (.ref a1), .val (.int (0 : Int32))] []) := by first | (simp [entryFrame, mkF, argsToLocals, Value.category]; done) | rfl
set_option maxRecDepth 65536 in
set_option maxHeartbeats 40000000 in
theorem own_rm15n0 (l : Launch) (Z : State) (a0 : Array Value) (hw : ∀ d ∈ tables_1, d.before a0 Z = true) (h0 : Heap) (n0 : Nat) (Z0 : n0 ≤ h0.size) (a1 : Addr) (ar x0 x1 x2 : Addr) (k : ClassId) (E_a1 : Exa Z h0 a1 "java/util/ArrayList") (F_size_a1 : Fld Z h0 a1 "java/util/ArrayList" "size" "I" (.int 3)) (F_elementData_a1 : Fld Z h0 a1 "java/util/ArrayList" "elementData" "[Ljava/lang/Object;" (.ref ar)) (V_ar : Arv Z h0 ar k (.object "java/lang/Object") 10 [(.ref x0), (.ref x1), (.ref x2), .null, .null, .null, .null, .null, .null, .null] .null) :
    own_C l Z (⟨"java/util/ArrayList", "get", "(I)Ljava/lang/Object;"⟩ : MethodName) jdk_38_method_20_code 2 (some (.object "java/lang/Object")) [] ({ frames := 2, cells := 0, slots := 0, locals := 28 } : Room) #[(.ref a1), (.int (0 : Int32))] h0 (own_P (.ref x0) h0) := by
  refine own_body own_pn15 (f0 := fun m => (mkF m 0 #[.val (.ref a1), .val (.int (0 : Int32))] [])) (fun m => own_ef15n0 m a1) ?_
  intro p e s m below meth c s₁ hx hby hml hown hnm hret hlk hZ X0 e0
  change own_G p e below (own_F (own_P (.ref x0) h0) s 0 0) s₁ (mkF m 0 #[.val (.ref a1), .val (.int (0 : Int32))] [])
  have N0 := Fr.nil n0
  refine own_st (T' := s₁) (g' := (mkF m 1 #[.val (.ref a1), .val (.int (0 : Int32))] [(.int (0 : Int32))])) (fun t k => XS.iloadN X0.here hx rfl (hb hby own_d15_0) rfl k) ?_
  refine own_st (T' := s₁) (g' := (mkF m 2 #[.val (.ref a1), .val (.int (0 : Int32))] [(.ref a1), (.int (0 : Int32))])) (fun t k => XS.aloadN X0.here hx rfl (hb hby own_d15_1) rfl rfl k) ?_
  obtain ⟨T1, X1, e1, st1⟩ := getF X0 hx hZ hown (host := "") (Or.inl (hw _ (List.mem_of_getElem? (i := 73) rfl))) Via.refl e0 F_size_a1 (g := (mkF m 2 #[.val (.ref a1), .val (.int (0 : Int32))] [(.ref a1), (.int (0 : Int32))])) rfl rfl (hb hby own_d15_2)
  refine own_st (T' := T1) (g' := (mkF m 5 #[.val (.ref a1), .val (.int (0 : Int32))] [(.int (3 : Int32)), (.int (0 : Int32))])) st1 ?_
  obtain ⟨_, T2, L2, hQ2, X2, st2⟩ := own_callS (y := (⟨"java/util/Objects", "checkIndex", "(II)I"⟩ : MethodName)) (argsL := [(.int (0 : Int32)), (.int (3 : Int32))]) 0 [] (own_rm16 l Z a0 hw h0 n0 Z0 (0 : Int32) (3 : Int32) (by decide) (by decide)) X1 hx hZ hown (hw _ (List.mem_of_getElem? (i := 133) rfl)) (hw _ (List.mem_of_getElem? (i := 134) rfl)) (hw _ (List.mem_of_getElem? (i := 135) rfl)) (hw _ (List.mem_of_getElem? (i := 136) rfl)) (by decide) (by decide) (by decide) (by decide) (by decide) e1 (g := (mkF m 5 #[.val (.ref a1), .val (.int (0 : Int32))] [(.int (3 : Int32)), (.int (0 : Int32))])) rfl (by rw [hml]; rfl) (lenOf own_pd1 rfl) rfl (by show 2 * 0 + _ ≤ _; exact Nat.le_of_eq rfl) (hb hby own_d15_5)
  obtain ⟨rfl, e2, rfl⟩ := hQ2
  have X2 : Stand p l e ({ frames := 2, cells := 0, slots := 0, locals := 28 } : Room) s m #[(.ref a1), (.int (0 : Int32))] below meth c T2 [] 0 0 := X2
  refine own_st (T' := T2) (g' := (mkF m 8 #[.val (.ref a1), .val (.int (0 : Int32))] [(.int (0 : Int32))])) st2 ?_
  refine own_st (T' := T2) (g' := (mkF m 9 #[.val (.ref a1), .val (.int (0 : Int32))] [])) (fun t k => XS.pop X2.here hx rfl (hb hby own_d15_8) rfl rfl k) ?_
  refine own_st (T' := T2) (g' := (mkF m 10 #[.val (.ref a1), .val (.int (0 : Int32))] [(.ref a1)])) (fun t k => XS.aloadN X2.here hx rfl (hb hby own_d15_9) rfl rfl k) ?_
  refine own_st (T' := T2) (g' := (mkF m 11 #[.val (.ref a1), .val (.int (0 : Int32))] [(.int (0 : Int32)), (.ref a1)])) (fun t k => XS.iloadN X2.here hx rfl (hb hby own_d15_10) rfl k) ?_
  obtain ⟨_, T3, L3, hQ3, X3, st3⟩ := own_callV (y := (⟨"java/util/ArrayList", "elementData", "(I)Ljava/lang/Object;"⟩ : MethodName)) (z := (⟨"java/util/ArrayList", "elementData", "(I)Ljava/lang/Object;"⟩ : MethodName)) (argsL := [(.int (0 : Int32))]) 0 [] (K := "java/util/ArrayList") (own_rm18n0 l Z a0 hw h0 n0 Z0 a1 ar x0 x1 x2 k E_a1 F_size_a1 F_elementData_a1 V_ar) X2 hx hZ hown (hw _ (List.mem_of_getElem? (i := 141) rfl)) (hw _ (List.mem_of_getElem? (i := 142) rfl)) (notFace_of_selects (args := #[]) (mvT hZ (hw _ (List.mem_of_getElem? (i := 144) rfl)))) (hw _ (List.mem_of_getElem? (i := 144) rfl)) (hw _ (List.mem_of_getElem? (i := 143) rfl)) (hw _ (List.mem_of_getElem? (i := 145) rfl)) (hw _ (List.mem_of_getElem? (i := 7) rfl)) (by decide) (by decide) (by decide) (by decide) (by decide) e2 E_a1 (g := (mkF m 11 #[.val (.ref a1), .val (.int (0 : Int32))] [(.int (0 : Int32)), (.ref a1)])) rfl (by rw [hml]; rfl) (lenOf own_pd6 rfl) rfl (by show 2 * 0 + _ ≤ _; exact Nat.le_of_eq rfl) (hb hby own_d15_11)
  obtain ⟨rfl, e3, rfl⟩ := hQ3
  have X3 : Stand p l e ({ frames := 2, cells := 0, slots := 0, locals := 28 } : Room) s m #[(.ref a1), (.int (0 : Int32))] below meth c T3 [] 0 0 := X3
  refine own_st (T' := T3) (g' := (mkF m 14 #[.val (.ref a1), .val (.int (0 : Int32))] [(.ref x0)])) st3 ?_
  exact own_retR X3 hx hlk hret (hb hby own_d15_14) (by decide) (by decide) rfl ⟨rfl, e3, rfl⟩
theorem own_ef18n1 (m : MethodId) (a1 : Addr) : entryFrame m #[(.ref a1), (.int (1 : Int32))] 2 = (mkF m 0 #[.val (.ref a1), .val (.int (1 : Int32))] []) := by first | (simp [entryFrame, mkF, argsToLocals, Value.category]; done) | rfl
set_option maxRecDepth 65536 in
set_option maxHeartbeats 40000000 in
theorem own_rm18n1 (l : Launch) (Z : State) (a0 : Array Value) (hw : ∀ d ∈ tables_1, d.before a0 Z = true) (h0 : Heap) (n0 : Nat) (Z0 : n0 ≤ h0.size) (a1 : Addr) (ar x0 x1 x2 : Addr) (k : ClassId) (E_a1 : Exa Z h0 a1 "java/util/ArrayList") (F_size_a1 : Fld Z h0 a1 "java/util/ArrayList" "size" "I" (.int 3)) (F_elementData_a1 : Fld Z h0 a1 "java/util/ArrayList" "elementData" "[Ljava/lang/Object;" (.ref ar)) (V_ar : Arv Z h0 ar k (.object "java/lang/Object") 10 [(.ref x0), (.ref x1), (.ref x2), .null, .null, .null, .null, .null, .null, .null] .null) :
    own_C l Z (⟨"java/util/ArrayList", "elementData", "(I)Ljava/lang/Object;"⟩ : MethodName) jdk_38_method_18_code 2 (some (.object "java/lang/Object")) [] ({ frames := 0, cells := 0, slots := 0, locals := 0 } : Room) #[(.ref a1), (.int (1 : Int32))] h0 (own_P (.ref x1) h0) := by
  refine own_body own_pn18 (f0 := fun m => (mkF m 0 #[.val (.ref a1), .val (.int (1 : Int32))] [])) (fun m => own_ef18n1 m a1) ?_
  intro p e s m below meth c s₁ hx hby hml hown hnm hret hlk hZ X0 e0
  change own_G p e below (own_F (own_P (.ref x1) h0) s 0 0) s₁ (mkF m 0 #[.val (.ref a1), .val (.int (1 : Int32))] [])
  have N0 := Fr.nil n0
  refine own_st (T' := s₁) (g' := (mkF m 1 #[.val (.ref a1), .val (.int (1 : Int32))] [(.ref a1)])) (fun t k => XS.aloadN X0.here hx rfl (hb hby own_d18_0) rfl rfl k) ?_
  obtain ⟨T1, X1, e1, st1⟩ := getF X0 hx hZ hown (host := "") (Or.inl (hw _ (List.mem_of_getElem? (i := 29) rfl))) Via.refl e0 F_elementData_a1 (g := (mkF m 1 #[.val (.ref a1), .val (.int (1 : Int32))] [(.ref a1)])) rfl rfl (hb hby own_d18_1)
  refine own_st (T' := T1) (g' := (mkF m 4 #[.val (.ref a1), .val (.int (1 : Int32))] [(.ref ar)])) st1 ?_
  refine own_st (T' := T1) (g' := (mkF m 5 #[.val (.ref a1), .val (.int (1 : Int32))] [(.int (1 : Int32)), (.ref ar)])) (fun t k => XS.iloadN X1.here hx rfl (hb hby own_d18_4) rfl k) ?_
  obtain ⟨cl2, Ar2, q2, S2, N2n, H2, G2⟩ := V_ar
  have hin2 : ¬ ((1 : Int32) < 0 ∨ cl2.slots.size ≤ ((1 : Int32) : Int32).toNatClampNeg) := inb_of S2 ⟨by decide, by decide⟩
  have hat3 := H2.at hin2 (v := (.ref x1)) rfl
  have V_ar : Arv Z h0 ar k (.object "java/lang/Object") (10 : Int32) [(.ref x0), (.ref x1), (.ref x2), .null, .null, .null, .null, .null, .null, .null] .null := ⟨cl2, Ar2, q2, S2, N2n, H2, G2⟩
  refine own_st (T' := T1) (g' := (mkF m 6 #[.val (.ref a1), .val (.int (1 : Int32))] [(.ref x1)])) (X1.aaload hx (j := (1 : Int32)) (v := (.ref x1)) (by rw [e1]; exact Ar2.1) (State.isArrayOf_alike hZ.alike Ar2.2.1) rfl Ar2.2.2 hin2 hat3 (g := (mkF m 5 #[.val (.ref a1), .val (.int (1 : Int32))] [(.int (1 : Int32)), (.ref ar)])) rfl rfl (hb hby own_d18_5)) ?_
  exact own_retR X1 hx hlk hret (hb hby own_d18_6) (by decide) (by decide) rfl ⟨rfl, e1, rfl⟩
theorem own_ef15n1 (m : MethodId) (a1 : Addr) : entryFrame m #[(.ref a1), (.int (1 : Int32))] 2 = (mkF m 0 #[.val (.ref a1), .val (.int (1 : Int32))] []) := by first | (simp [entryFrame, mkF, argsToLocals, Value.category]; done) | rfl
set_option maxRecDepth 65536 in
set_option maxHeartbeats 40000000 in
theorem own_rm15n1 (l : Launch) (Z : State) (a0 : Array Value) (hw : ∀ d ∈ tables_1, d.before a0 Z = true) (h0 : Heap) (n0 : Nat) (Z0 : n0 ≤ h0.size) (a1 : Addr) (ar x0 x1 x2 : Addr) (k : ClassId) (E_a1 : Exa Z h0 a1 "java/util/ArrayList") (F_size_a1 : Fld Z h0 a1 "java/util/ArrayList" "size" "I" (.int 3)) (F_elementData_a1 : Fld Z h0 a1 "java/util/ArrayList" "elementData" "[Ljava/lang/Object;" (.ref ar)) (V_ar : Arv Z h0 ar k (.object "java/lang/Object") 10 [(.ref x0), (.ref x1), (.ref x2), .null, .null, .null, .null, .null, .null, .null] .null) :
    own_C l Z (⟨"java/util/ArrayList", "get", "(I)Ljava/lang/Object;"⟩ : MethodName) jdk_38_method_20_code 2 (some (.object "java/lang/Object")) [] ({ frames := 2, cells := 0, slots := 0, locals := 28 } : Room) #[(.ref a1), (.int (1 : Int32))] h0 (own_P (.ref x1) h0) := by
  refine own_body own_pn15 (f0 := fun m => (mkF m 0 #[.val (.ref a1), .val (.int (1 : Int32))] [])) (fun m => own_ef15n1 m a1) ?_
  intro p e s m below meth c s₁ hx hby hml hown hnm hret hlk hZ X0 e0
  change own_G p e below (own_F (own_P (.ref x1) h0) s 0 0) s₁ (mkF m 0 #[.val (.ref a1), .val (.int (1 : Int32))] [])
  have N0 := Fr.nil n0
  refine own_st (T' := s₁) (g' := (mkF m 1 #[.val (.ref a1), .val (.int (1 : Int32))] [(.int (1 : Int32))])) (fun t k => XS.iloadN X0.here hx rfl (hb hby own_d15_0) rfl k) ?_
  refine own_st (T' := s₁) (g' := (mkF m 2 #[.val (.ref a1), .val (.int (1 : Int32))] [(.ref a1), (.int (1 : Int32))])) (fun t k => XS.aloadN X0.here hx rfl (hb hby own_d15_1) rfl rfl k) ?_
  obtain ⟨T1, X1, e1, st1⟩ := getF X0 hx hZ hown (host := "") (Or.inl (hw _ (List.mem_of_getElem? (i := 73) rfl))) Via.refl e0 F_size_a1 (g := (mkF m 2 #[.val (.ref a1), .val (.int (1 : Int32))] [(.ref a1), (.int (1 : Int32))])) rfl rfl (hb hby own_d15_2)
  refine own_st (T' := T1) (g' := (mkF m 5 #[.val (.ref a1), .val (.int (1 : Int32))] [(.int (3 : Int32)), (.int (1 : Int32))])) st1 ?_
  obtain ⟨_, T2, L2, hQ2, X2, st2⟩ := own_callS (y := (⟨"java/util/Objects", "checkIndex", "(II)I"⟩ : MethodName)) (argsL := [(.int (1 : Int32)), (.int (3 : Int32))]) 0 [] (own_rm16 l Z a0 hw h0 n0 Z0 (1 : Int32) (3 : Int32) (by decide) (by decide)) X1 hx hZ hown (hw _ (List.mem_of_getElem? (i := 133) rfl)) (hw _ (List.mem_of_getElem? (i := 134) rfl)) (hw _ (List.mem_of_getElem? (i := 135) rfl)) (hw _ (List.mem_of_getElem? (i := 136) rfl)) (by decide) (by decide) (by decide) (by decide) (by decide) e1 (g := (mkF m 5 #[.val (.ref a1), .val (.int (1 : Int32))] [(.int (3 : Int32)), (.int (1 : Int32))])) rfl (by rw [hml]; rfl) (lenOf own_pd1 rfl) rfl (by show 2 * 0 + _ ≤ _; exact Nat.le_of_eq rfl) (hb hby own_d15_5)
  obtain ⟨rfl, e2, rfl⟩ := hQ2
  have X2 : Stand p l e ({ frames := 2, cells := 0, slots := 0, locals := 28 } : Room) s m #[(.ref a1), (.int (1 : Int32))] below meth c T2 [] 0 0 := X2
  refine own_st (T' := T2) (g' := (mkF m 8 #[.val (.ref a1), .val (.int (1 : Int32))] [(.int (1 : Int32))])) st2 ?_
  refine own_st (T' := T2) (g' := (mkF m 9 #[.val (.ref a1), .val (.int (1 : Int32))] [])) (fun t k => XS.pop X2.here hx rfl (hb hby own_d15_8) rfl rfl k) ?_
  refine own_st (T' := T2) (g' := (mkF m 10 #[.val (.ref a1), .val (.int (1 : Int32))] [(.ref a1)])) (fun t k => XS.aloadN X2.here hx rfl (hb hby own_d15_9) rfl rfl k) ?_
  refine own_st (T' := T2) (g' := (mkF m 11 #[.val (.ref a1), .val (.int (1 : Int32))] [(.int (1 : Int32)), (.ref a1)])) (fun t k => XS.iloadN X2.here hx rfl (hb hby own_d15_10) rfl k) ?_
  obtain ⟨_, T3, L3, hQ3, X3, st3⟩ := own_callV (y := (⟨"java/util/ArrayList", "elementData", "(I)Ljava/lang/Object;"⟩ : MethodName)) (z := (⟨"java/util/ArrayList", "elementData", "(I)Ljava/lang/Object;"⟩ : MethodName)) (argsL := [(.int (1 : Int32))]) 0 [] (K := "java/util/ArrayList") (own_rm18n1 l Z a0 hw h0 n0 Z0 a1 ar x0 x1 x2 k E_a1 F_size_a1 F_elementData_a1 V_ar) X2 hx hZ hown (hw _ (List.mem_of_getElem? (i := 141) rfl)) (hw _ (List.mem_of_getElem? (i := 142) rfl)) (notFace_of_selects (args := #[]) (mvT hZ (hw _ (List.mem_of_getElem? (i := 144) rfl)))) (hw _ (List.mem_of_getElem? (i := 144) rfl)) (hw _ (List.mem_of_getElem? (i := 143) rfl)) (hw _ (List.mem_of_getElem? (i := 145) rfl)) (hw _ (List.mem_of_getElem? (i := 7) rfl)) (by decide) (by decide) (by decide) (by decide) (by decide) e2 E_a1 (g := (mkF m 11 #[.val (.ref a1), .val (.int (1 : Int32))] [(.int (1 : Int32)), (.ref a1)])) rfl (by rw [hml]; rfl) (lenOf own_pd6 rfl) rfl (by show 2 * 0 + _ ≤ _; exact Nat.le_of_eq rfl) (hb hby own_d15_11)
  obtain ⟨rfl, e3, rfl⟩ := hQ3
  have X3 : Stand p l e ({ frames := 2, cells := 0, slots := 0, locals := 28 } : Room) s m #[(.ref a1), (.int (1 : Int32))] below meth c T3 [] 0 0 := X3
  refine own_st (T' := T3) (g' := (mkF m 14 #[.val (.ref a1), .val (.int (1 : Int32))] [(.ref x1)])) st3 ?_
  exact own_retR X3 hx hlk hret (hb hby own_d15_14) (by decide) (by decide) rfl ⟨rfl, e3, rfl⟩
theorem own_ef18n2 (m : MethodId) (a1 : Addr) : entryFrame m #[(.ref a1), (.int (2 : Int32))] 2 = (mkF m 0 #[.val (.ref a1), .val (.int (2 : Int32))] []) := by first | (simp [entryFrame, mkF, argsToLocals, Value.category]; done) | rfl
set_option maxRecDepth 65536 in
set_option maxHeartbeats 40000000 in
theorem own_rm18n2 (l : Launch) (Z : State) (a0 : Array Value) (hw : ∀ d ∈ tables_1, d.before a0 Z = true) (h0 : Heap) (n0 : Nat) (Z0 : n0 ≤ h0.size) (a1 : Addr) (ar x0 x1 x2 : Addr) (k : ClassId) (E_a1 : Exa Z h0 a1 "java/util/ArrayList") (F_size_a1 : Fld Z h0 a1 "java/util/ArrayList" "size" "I" (.int 3)) (F_elementData_a1 : Fld Z h0 a1 "java/util/ArrayList" "elementData" "[Ljava/lang/Object;" (.ref ar)) (V_ar : Arv Z h0 ar k (.object "java/lang/Object") 10 [(.ref x0), (.ref x1), (.ref x2), .null, .null, .null, .null, .null, .null, .null] .null) :
    own_C l Z (⟨"java/util/ArrayList", "elementData", "(I)Ljava/lang/Object;"⟩ : MethodName) jdk_38_method_18_code 2 (some (.object "java/lang/Object")) [] ({ frames := 0, cells := 0, slots := 0, locals := 0 } : Room) #[(.ref a1), (.int (2 : Int32))] h0 (own_P (.ref x2) h0) := by
  refine own_body own_pn18 (f0 := fun m => (mkF m 0 #[.val (.ref a1), .val (.int (2 : Int32))] [])) (fun m => own_ef18n2 m a1) ?_
  intro p e s m below meth c s₁ hx hby hml hown hnm hret hlk hZ X0 e0
  change own_G p e below (own_F (own_P (.ref x2) h0) s 0 0) s₁ (mkF m 0 #[.val (.ref a1), .val (.int (2 : Int32))] [])
  have N0 := Fr.nil n0
  refine own_st (T' := s₁) (g' := (mkF m 1 #[.val (.ref a1), .val (.int (2 : Int32))] [(.ref a1)])) (fun t k => XS.aloadN X0.here hx rfl (hb hby own_d18_0) rfl rfl k) ?_
  obtain ⟨T1, X1, e1, st1⟩ := getF X0 hx hZ hown (host := "") (Or.inl (hw _ (List.mem_of_getElem? (i := 29) rfl))) Via.refl e0 F_elementData_a1 (g := (mkF m 1 #[.val (.ref a1), .val (.int (2 : Int32))] [(.ref a1)])) rfl rfl (hb hby own_d18_1)
  refine own_st (T' := T1) (g' := (mkF m 4 #[.val (.ref a1), .val (.int (2 : Int32))] [(.ref ar)])) st1 ?_
  refine own_st (T' := T1) (g' := (mkF m 5 #[.val (.ref a1), .val (.int (2 : Int32))] [(.int (2 : Int32)), (.ref ar)])) (fun t k => XS.iloadN X1.here hx rfl (hb hby own_d18_4) rfl k) ?_
  obtain ⟨cl2, Ar2, q2, S2, N2n, H2, G2⟩ := V_ar
  have hin2 : ¬ ((2 : Int32) < 0 ∨ cl2.slots.size ≤ ((2 : Int32) : Int32).toNatClampNeg) := inb_of S2 ⟨by decide, by decide⟩
  have hat3 := H2.at hin2 (v := (.ref x2)) rfl
  have V_ar : Arv Z h0 ar k (.object "java/lang/Object") (10 : Int32) [(.ref x0), (.ref x1), (.ref x2), .null, .null, .null, .null, .null, .null, .null] .null := ⟨cl2, Ar2, q2, S2, N2n, H2, G2⟩
  refine own_st (T' := T1) (g' := (mkF m 6 #[.val (.ref a1), .val (.int (2 : Int32))] [(.ref x2)])) (X1.aaload hx (j := (2 : Int32)) (v := (.ref x2)) (by rw [e1]; exact Ar2.1) (State.isArrayOf_alike hZ.alike Ar2.2.1) rfl Ar2.2.2 hin2 hat3 (g := (mkF m 5 #[.val (.ref a1), .val (.int (2 : Int32))] [(.int (2 : Int32)), (.ref ar)])) rfl rfl (hb hby own_d18_5)) ?_
  exact own_retR X1 hx hlk hret (hb hby own_d18_6) (by decide) (by decide) rfl ⟨rfl, e1, rfl⟩
theorem own_ef15n2 (m : MethodId) (a1 : Addr) : entryFrame m #[(.ref a1), (.int (2 : Int32))] 2 = (mkF m 0 #[.val (.ref a1), .val (.int (2 : Int32))] []) := by first | (simp [entryFrame, mkF, argsToLocals, Value.category]; done) | rfl
set_option maxRecDepth 65536 in
set_option maxHeartbeats 40000000 in
theorem own_rm15n2 (l : Launch) (Z : State) (a0 : Array Value) (hw : ∀ d ∈ tables_1, d.before a0 Z = true) (h0 : Heap) (n0 : Nat) (Z0 : n0 ≤ h0.size) (a1 : Addr) (ar x0 x1 x2 : Addr) (k : ClassId) (E_a1 : Exa Z h0 a1 "java/util/ArrayList") (F_size_a1 : Fld Z h0 a1 "java/util/ArrayList" "size" "I" (.int 3)) (F_elementData_a1 : Fld Z h0 a1 "java/util/ArrayList" "elementData" "[Ljava/lang/Object;" (.ref ar)) (V_ar : Arv Z h0 ar k (.object "java/lang/Object") 10 [(.ref x0), (.ref x1), (.ref x2), .null, .null, .null, .null, .null, .null, .null] .null) :
    own_C l Z (⟨"java/util/ArrayList", "get", "(I)Ljava/lang/Object;"⟩ : MethodName) jdk_38_method_20_code 2 (some (.object "java/lang/Object")) [] ({ frames := 2, cells := 0, slots := 0, locals := 28 } : Room) #[(.ref a1), (.int (2 : Int32))] h0 (own_P (.ref x2) h0) := by
  refine own_body own_pn15 (f0 := fun m => (mkF m 0 #[.val (.ref a1), .val (.int (2 : Int32))] [])) (fun m => own_ef15n2 m a1) ?_
  intro p e s m below meth c s₁ hx hby hml hown hnm hret hlk hZ X0 e0
  change own_G p e below (own_F (own_P (.ref x2) h0) s 0 0) s₁ (mkF m 0 #[.val (.ref a1), .val (.int (2 : Int32))] [])
  have N0 := Fr.nil n0
  refine own_st (T' := s₁) (g' := (mkF m 1 #[.val (.ref a1), .val (.int (2 : Int32))] [(.int (2 : Int32))])) (fun t k => XS.iloadN X0.here hx rfl (hb hby own_d15_0) rfl k) ?_
  refine own_st (T' := s₁) (g' := (mkF m 2 #[.val (.ref a1), .val (.int (2 : Int32))] [(.ref a1), (.int (2 : Int32))])) (fun t k => XS.aloadN X0.here hx rfl (hb hby own_d15_1) rfl rfl k) ?_
  obtain ⟨T1, X1, e1, st1⟩ := getF X0 hx hZ hown (host := "") (Or.inl (hw _ (List.mem_of_getElem? (i := 73) rfl))) Via.refl e0 F_size_a1 (g := (mkF m 2 #[.val (.ref a1), .val (.int (2 : Int32))] [(.ref a1), (.int (2 : Int32))])) rfl rfl (hb hby own_d15_2)
  refine own_st (T' := T1) (g' := (mkF m 5 #[.val (.ref a1), .val (.int (2 : Int32))] [(.int (3 : Int32)), (.int (2 : Int32))])) st1 ?_
  obtain ⟨_, T2, L2, hQ2, X2, st2⟩ := own_callS (y := (⟨"java/util/Objects", "checkIndex", "(II)I"⟩ : MethodName)) (argsL := [(.int (2 : Int32)), (.int (3 : Int32))]) 0 [] (own_rm16 l Z a0 hw h0 n0 Z0 (2 : Int32) (3 : Int32) (by decide) (by decide)) X1 hx hZ hown (hw _ (List.mem_of_getElem? (i := 133) rfl)) (hw _ (List.mem_of_getElem? (i := 134) rfl)) (hw _ (List.mem_of_getElem? (i := 135) rfl)) (hw _ (List.mem_of_getElem? (i := 136) rfl)) (by decide) (by decide) (by decide) (by decide) (by decide) e1 (g := (mkF m 5 #[.val (.ref a1), .val (.int (2 : Int32))] [(.int (3 : Int32)), (.int (2 : Int32))])) rfl (by rw [hml]; rfl) (lenOf own_pd1 rfl) rfl (by show 2 * 0 + _ ≤ _; exact Nat.le_of_eq rfl) (hb hby own_d15_5)
  obtain ⟨rfl, e2, rfl⟩ := hQ2
  have X2 : Stand p l e ({ frames := 2, cells := 0, slots := 0, locals := 28 } : Room) s m #[(.ref a1), (.int (2 : Int32))] below meth c T2 [] 0 0 := X2
  refine own_st (T' := T2) (g' := (mkF m 8 #[.val (.ref a1), .val (.int (2 : Int32))] [(.int (2 : Int32))])) st2 ?_
  refine own_st (T' := T2) (g' := (mkF m 9 #[.val (.ref a1), .val (.int (2 : Int32))] [])) (fun t k => XS.pop X2.here hx rfl (hb hby own_d15_8) rfl rfl k) ?_
  refine own_st (T' := T2) (g' := (mkF m 10 #[.val (.ref a1), .val (.int (2 : Int32))] [(.ref a1)])) (fun t k => XS.aloadN X2.here hx rfl (hb hby own_d15_9) rfl rfl k) ?_
  refine own_st (T' := T2) (g' := (mkF m 11 #[.val (.ref a1), .val (.int (2 : Int32))] [(.int (2 : Int32)), (.ref a1)])) (fun t k => XS.iloadN X2.here hx rfl (hb hby own_d15_10) rfl k) ?_
  obtain ⟨_, T3, L3, hQ3, X3, st3⟩ := own_callV (y := (⟨"java/util/ArrayList", "elementData", "(I)Ljava/lang/Object;"⟩ : MethodName)) (z := (⟨"java/util/ArrayList", "elementData", "(I)Ljava/lang/Object;"⟩ : MethodName)) (argsL := [(.int (2 : Int32))]) 0 [] (K := "java/util/ArrayList") (own_rm18n2 l Z a0 hw h0 n0 Z0 a1 ar x0 x1 x2 k E_a1 F_size_a1 F_elementData_a1 V_ar) X2 hx hZ hown (hw _ (List.mem_of_getElem? (i := 141) rfl)) (hw _ (List.mem_of_getElem? (i := 142) rfl)) (notFace_of_selects (args := #[]) (mvT hZ (hw _ (List.mem_of_getElem? (i := 144) rfl)))) (hw _ (List.mem_of_getElem? (i := 144) rfl)) (hw _ (List.mem_of_getElem? (i := 143) rfl)) (hw _ (List.mem_of_getElem? (i := 145) rfl)) (hw _ (List.mem_of_getElem? (i := 7) rfl)) (by decide) (by decide) (by decide) (by decide) (by decide) e2 E_a1 (g := (mkF m 11 #[.val (.ref a1), .val (.int (2 : Int32))] [(.int (2 : Int32)), (.ref a1)])) rfl (by rw [hml]; rfl) (lenOf own_pd6 rfl) rfl (by show 2 * 0 + _ ≤ _; exact Nat.le_of_eq rfl) (hb hby own_d15_11)
  obtain ⟨rfl, e3, rfl⟩ := hQ3
  have X3 : Stand p l e ({ frames := 2, cells := 0, slots := 0, locals := 28 } : Room) s m #[(.ref a1), (.int (2 : Int32))] below meth c T3 [] 0 0 := X3
  refine own_st (T' := T3) (g' := (mkF m 14 #[.val (.ref a1), .val (.int (2 : Int32))] [(.ref x2)])) st3 ?_
  exact own_retR X3 hx hlk hret (hb hby own_d15_14) (by decide) (by decide) rfl ⟨rfl, e3, rfl⟩
theorem own_d24_0 : decode jdk_33_method_47_code 0 = .ok (.iload_n 0, 1) := by decide +kernel
theorem own_d24_1 : decode jdk_33_method_47_code 1 = .ok (.ifCond .gt 14, 3) := by decide +kernel
theorem own_d24_4 : decode jdk_33_method_47_code 4 = .ok (.iload_n 0, 1) := by decide +kernel
theorem own_d24_5 : decode jdk_33_method_47_code 5 = .ok (.ifCond .ne 8, 3) := by decide +kernel
theorem own_d24_8 : decode jdk_33_method_47_code 8 = .ok (.bipush 32, 2) := by decide +kernel
theorem own_d24_10 : decode jdk_33_method_47_code 10 = .ok (.goto 4, 3) := by decide +kernel
theorem own_d24_13 : decode jdk_33_method_47_code 13 = .ok (.iconst 0, 1) := by decide +kernel
theorem own_d24_14 : decode jdk_33_method_47_code 14 = .ok (.ireturn, 1) := by decide +kernel
theorem own_d24_15 : decode jdk_33_method_47_code 15 = .ok (.bipush 31, 2) := by decide +kernel
theorem own_d24_17 : decode jdk_33_method_47_code 17 = .ok (.istore_n 1, 1) := by decide +kernel
theorem own_d24_18 : decode jdk_33_method_47_code 18 = .ok (.iload_n 0, 1) := by decide +kernel
theorem own_d24_19 : decode jdk_33_method_47_code 19 = .ok (.ldc_w 264, 3) := by decide +kernel
theorem own_d24_22 : decode jdk_33_method_47_code 22 = .ok (.if_icmp .lt 11, 3) := by decide +kernel
theorem own_d24_25 : decode jdk_33_method_47_code 25 = .ok (.iinc 1 (-16), 3) := by decide +kernel
theorem own_d24_28 : decode jdk_33_method_47_code 28 = .ok (.iload_n 0, 1) := by decide +kernel
theorem own_d24_29 : decode jdk_33_method_47_code 29 = .ok (.bipush 16, 2) := by decide +kernel
theorem own_d24_31 : decode jdk_33_method_47_code 31 = .ok (.iushr, 1) := by decide +kernel
theorem own_d24_32 : decode jdk_33_method_47_code 32 = .ok (.istore_n 0, 1) := by decide +kernel
theorem own_d24_33 : decode jdk_33_method_47_code 33 = .ok (.iload_n 0, 1) := by decide +kernel
theorem own_d24_34 : decode jdk_33_method_47_code 34 = .ok (.sipush 256, 3) := by decide +kernel
theorem own_d24_37 : decode jdk_33_method_47_code 37 = .ok (.if_icmp .lt 11, 3) := by decide +kernel
theorem own_d24_40 : decode jdk_33_method_47_code 40 = .ok (.iinc 1 (-8), 3) := by decide +kernel
theorem own_d24_43 : decode jdk_33_method_47_code 43 = .ok (.iload_n 0, 1) := by decide +kernel
theorem own_d24_44 : decode jdk_33_method_47_code 44 = .ok (.bipush 8, 2) := by decide +kernel
theorem own_d24_46 : decode jdk_33_method_47_code 46 = .ok (.iushr, 1) := by decide +kernel
theorem own_d24_47 : decode jdk_33_method_47_code 47 = .ok (.istore_n 0, 1) := by decide +kernel
theorem own_d24_48 : decode jdk_33_method_47_code 48 = .ok (.iload_n 0, 1) := by decide +kernel
theorem own_d24_49 : decode jdk_33_method_47_code 49 = .ok (.bipush 16, 2) := by decide +kernel
theorem own_d24_51 : decode jdk_33_method_47_code 51 = .ok (.if_icmp .lt 10, 3) := by decide +kernel
theorem own_d24_54 : decode jdk_33_method_47_code 54 = .ok (.iinc 1 (-4), 3) := by decide +kernel
theorem own_d24_57 : decode jdk_33_method_47_code 57 = .ok (.iload_n 0, 1) := by decide +kernel
theorem own_d24_58 : decode jdk_33_method_47_code 58 = .ok (.iconst 4, 1) := by decide +kernel
theorem own_d24_59 : decode jdk_33_method_47_code 59 = .ok (.iushr, 1) := by decide +kernel
theorem own_d24_60 : decode jdk_33_method_47_code 60 = .ok (.istore_n 0, 1) := by decide +kernel
theorem own_d24_61 : decode jdk_33_method_47_code 61 = .ok (.iload_n 0, 1) := by decide +kernel
theorem own_d24_62 : decode jdk_33_method_47_code 62 = .ok (.iconst 4, 1) := by decide +kernel
theorem own_d24_63 : decode jdk_33_method_47_code 63 = .ok (.if_icmp .lt 10, 3) := by decide +kernel
theorem own_d24_66 : decode jdk_33_method_47_code 66 = .ok (.iinc 1 (-2), 3) := by decide +kernel
theorem own_d24_69 : decode jdk_33_method_47_code 69 = .ok (.iload_n 0, 1) := by decide +kernel
theorem own_d24_70 : decode jdk_33_method_47_code 70 = .ok (.iconst 2, 1) := by decide +kernel
theorem own_d24_71 : decode jdk_33_method_47_code 71 = .ok (.iushr, 1) := by decide +kernel
theorem own_d24_72 : decode jdk_33_method_47_code 72 = .ok (.istore_n 0, 1) := by decide +kernel
theorem own_d24_73 : decode jdk_33_method_47_code 73 = .ok (.iload_n 1, 1) := by decide +kernel
theorem own_d24_74 : decode jdk_33_method_47_code 74 = .ok (.iload_n 0, 1) := by decide +kernel
theorem own_d24_75 : decode jdk_33_method_47_code 75 = .ok (.iconst 1, 1) := by decide +kernel
theorem own_d24_76 : decode jdk_33_method_47_code 76 = .ok (.iushr, 1) := by decide +kernel
theorem own_d24_77 : decode jdk_33_method_47_code 77 = .ok (.isub, 1) := by decide +kernel
theorem own_d24_78 : decode jdk_33_method_47_code 78 = .ok (.ireturn, 1) := by decide +kernel
theorem own_pn24 : plainFor (⟨"java/lang/Integer", "numberOfLeadingZeros", "(I)I"⟩ : MethodName) = true := plainFor_of_name (show plainName "java/lang/Integer" = true by first | (simp [plainName, overriddenIn]; done) | decide +kernel)
theorem own_ef24 (m : MethodId) (p1 : Int32) : entryFrame m #[(.int p1)] 2 = (mkF m 0 #[.val (.int p1), .unset] []) := by first | (simp [entryFrame, mkF, argsToLocals, Value.category]; done) | rfl
set_option maxRecDepth 65536 in
set_option maxHeartbeats 40000000 in
theorem own_rm24 (l : Launch) (Z : State) (a0 : Array Value) (hw : ∀ d ∈ tables_1, d.before a0 Z = true) (h0 : Heap) (n0 : Nat) (Z0 : n0 ≤ h0.size) (p1 : Int32) (r : Int32) (hr : r = own_nlz p1) :
    own_C l Z (⟨"java/lang/Integer", "numberOfLeadingZeros", "(I)I"⟩ : MethodName) jdk_33_method_47_code 2 (some .int) [] ({ frames := 0, cells := 0, slots := 0, locals := 0 } : Room) #[(.int p1)] h0 (own_P (.int r) h0) := by
  refine own_body own_pn24 (f0 := fun m => (mkF m 0 #[.val (.int p1), .unset] [])) (fun m => own_ef24 m p1) ?_
  intro p e s m below meth c s₁ hx hby hml hown hnm hret hlk hZ X0 e0
  change own_G p e below (own_F (own_P (.int r) h0) s 0 0) s₁ (mkF m 0 #[.val (.int p1), .unset] [])
  have N0 := Fr.nil n0
  refine own_st (T' := s₁) (g' := (mkF m 1 #[.val (.int p1), .unset] [(.int p1)])) (fun t k => XS.iloadN X0.here hx rfl (hb hby own_d24_0) rfl k) ?_
  by_cases hc1_1 : (0 : Int32) < p1
  ·
    refine own_st (T' := s₁) (g' := (mkF m 15 #[.val (.int p1), .unset] [])) (fun t k => XS.ifYes X0.here hx rfl (pc0 := 1) (pc' := 15) rfl (hb hby own_d24_1) rfl ((if0 _ _).trans (tlt hc1_1).2.2.1) (by decide) (by decide) k) ?_
    refine own_st (T' := s₁) (g' := (mkF m 17 #[.val (.int p1), .unset] [(.int (31 : Int32))])) (fun t k => XS.bipush X0.here hx rfl (hb hby own_d24_15) k) ?_
    refine own_st (T' := s₁) (g' := (mkF m 18 #[.val (.int p1), .val (.int (31 : Int32))] [])) (fun t k => XS.istoreN X0.here hx rfl (hb hby own_d24_17) rfl (l' := #[.val (.int p1), .val (.int (31 : Int32))]) rfl k) ?_
    refine own_st (T' := s₁) (g' := (mkF m 19 #[.val (.int p1), .val (.int (31 : Int32))] [(.int p1)])) (fun t k => XS.iloadN X0.here hx rfl (hb hby own_d24_18) rfl k) ?_
    refine own_st (T' := s₁) (g' := (mkF m 22 #[.val (.int p1), .val (.int (31 : Int32))] [(.int (65536 : Int32)), (.int p1)])) (X0.ldcwInt hx hown (mvT hZ (hw _ (List.mem_of_getElem? (i := 199) rfl))) (g := (mkF m 19 #[.val (.int p1), .val (.int (31 : Int32))] [(.int p1)])) rfl (hb hby own_d24_19)) ?_
    have K3 : ∀ (v4 : Int32) (hv4 : v4 = (if p1 < (65536 : Int32) then p1 else ((p1.toUInt32 >>> ((16 : Int32) &&& 31).toUInt32).toInt32))) (v5 : Int32) (hv5 : v5 = (if p1 < (65536 : Int32) then (31 : Int32) else (15 : Int32))), own_G p e below (own_F (own_P (.int r) h0) s 0 0) s₁ (mkF m 33 #[.val (.int v4), .val (.int v5)] []) := by
      intro v4 hv4 v5 hv5
      refine own_st (T' := s₁) (g' := (mkF m 34 #[.val (.int v4), .val (.int v5)] [(.int v4)])) (fun t k => XS.iloadN X0.here hx rfl (hb hby own_d24_33) rfl k) ?_
      refine own_st (T' := s₁) (g' := (mkF m 37 #[.val (.int v4), .val (.int v5)] [(.int (256 : Int32)), (.int v4)])) (fun t k => XS.sipush X0.here hx rfl (hb hby own_d24_34) k) ?_
      have K7 : ∀ (v8 : Int32) (hv8 : v8 = (if v4 < (256 : Int32) then v4 else ((v4.toUInt32 >>> ((8 : Int32) &&& 31).toUInt32).toInt32))) (v9 : Int32) (hv9 : v9 = (if v4 < (256 : Int32) then v5 else (v5 + (-8 : Int32)))), own_G p e below (own_F (own_P (.int r) h0) s 0 0) s₁ (mkF m 48 #[.val (.int v8), .val (.int v9)] []) := by
        intro v8 hv8 v9 hv9
        refine own_st (T' := s₁) (g' := (mkF m 49 #[.val (.int v8), .val (.int v9)] [(.int v8)])) (fun t k => XS.iloadN X0.here hx rfl (hb hby own_d24_48) rfl k) ?_
        refine own_st (T' := s₁) (g' := (mkF m 51 #[.val (.int v8), .val (.int v9)] [(.int (16 : Int32)), (.int v8)])) (fun t k => XS.bipush X0.here hx rfl (hb hby own_d24_49) k) ?_
        have K11 : ∀ (v12 : Int32) (hv12 : v12 = (if v8 < (16 : Int32) then v8 else ((v8.toUInt32 >>> ((4 : Int32) &&& 31).toUInt32).toInt32))) (v13 : Int32) (hv13 : v13 = (if v8 < (16 : Int32) then v9 else (v9 + (-4 : Int32)))), own_G p e below (own_F (own_P (.int r) h0) s 0 0) s₁ (mkF m 61 #[.val (.int v12), .val (.int v13)] []) := by
          intro v12 hv12 v13 hv13
          refine own_st (T' := s₁) (g' := (mkF m 62 #[.val (.int v12), .val (.int v13)] [(.int v12)])) (fun t k => XS.iloadN X0.here hx rfl (hb hby own_d24_61) rfl k) ?_
          refine own_st (T' := s₁) (g' := (mkF m 63 #[.val (.int v12), .val (.int v13)] [(.int (4 : Int32)), (.int v12)])) (fun t k => XS.iconst X0.here hx rfl (hb hby own_d24_62) k) ?_
          have K15 : ∀ (v16 : Int32) (hv16 : v16 = (if v12 < (4 : Int32) then v12 else ((v12.toUInt32 >>> ((2 : Int32) &&& 31).toUInt32).toInt32))) (v17 : Int32) (hv17 : v17 = (if v12 < (4 : Int32) then v13 else (v13 + (-2 : Int32)))), own_G p e below (own_F (own_P (.int r) h0) s 0 0) s₁ (mkF m 73 #[.val (.int v16), .val (.int v17)] []) := by
            intro v16 hv16 v17 hv17
            refine own_st (T' := s₁) (g' := (mkF m 74 #[.val (.int v16), .val (.int v17)] [(.int v17)])) (fun t k => XS.iloadN X0.here hx rfl (hb hby own_d24_73) rfl k) ?_
            refine own_st (T' := s₁) (g' := (mkF m 75 #[.val (.int v16), .val (.int v17)] [(.int v16), (.int v17)])) (fun t k => XS.iloadN X0.here hx rfl (hb hby own_d24_74) rfl k) ?_
            refine own_st (T' := s₁) (g' := (mkF m 76 #[.val (.int v16), .val (.int v17)] [(.int (1 : Int32)), (.int v16), (.int v17)])) (fun t k => XS.iconst X0.here hx rfl (hb hby own_d24_75) k) ?_
            refine own_st (T' := s₁) (g' := (mkF m 77 #[.val (.int v16), .val (.int v17)] [(.int ((v16.toUInt32 >>> ((1 : Int32) &&& 31).toUInt32).toInt32)), (.int v17)])) (fun t k => XS.iushr X0.here hx rfl (hb hby own_d24_76) rfl k) ?_
            refine own_st (T' := s₁) (g' := (mkF m 78 #[.val (.int v16), .val (.int v17)] [(.int (v17 - ((v16.toUInt32 >>> ((1 : Int32) &&& 31).toUInt32).toInt32)))])) (fun t k => XS.isub X0.here hx rfl (hb hby own_d24_77) rfl k) ?_
            exact own_retI X0 hx hlk hret (hb hby own_d24_78) (by decide) (by decide) ⟨by rw [hr]; unfold own_nlz; rw [if_pos hc1_1]; subst hv4 hv5 hv8 hv9 hv12 hv13 hv16 hv17; rfl, e0, rfl⟩
          by_cases hc63_14 : v12 < (4 : Int32)
          ·
            refine own_st (T' := s₁) (g' := (mkF m 73 #[.val (.int v12), .val (.int v13)] [])) (fun t k => XS.icmpYes X0.here hx rfl (pc0 := 63) (pc' := 73) rfl (hb hby own_d24_63) rfl (tlt hc63_14).1 (by decide) (by decide) k) ?_
            exact K15 _ (if_pos hc63_14).symm _ (if_pos hc63_14).symm
          ·
            refine own_st (T' := s₁) (g' := (mkF m 66 #[.val (.int v12), .val (.int v13)] [])) (fun t k => XS.icmpNo X0.here hx rfl (hb hby own_d24_63) rfl (flt hc63_14).1 k) ?_
            refine own_st (T' := s₁) (g' := (mkF m 69 #[.val (.int v12), .val (.int (v13 + (-2 : Int32)))] [])) (fun t k => XS.iinc X0.here hx rfl (hb hby own_d24_66) rfl (l' := #[.val (.int v12), .val (.int (v13 + (-2 : Int32)))]) rfl k) ?_
            refine own_st (T' := s₁) (g' := (mkF m 70 #[.val (.int v12), .val (.int (v13 + (-2 : Int32)))] [(.int v12)])) (fun t k => XS.iloadN X0.here hx rfl (hb hby own_d24_69) rfl k) ?_
            refine own_st (T' := s₁) (g' := (mkF m 71 #[.val (.int v12), .val (.int (v13 + (-2 : Int32)))] [(.int (2 : Int32)), (.int v12)])) (fun t k => XS.iconst X0.here hx rfl (hb hby own_d24_70) k) ?_
            refine own_st (T' := s₁) (g' := (mkF m 72 #[.val (.int v12), .val (.int (v13 + (-2 : Int32)))] [(.int ((v12.toUInt32 >>> ((2 : Int32) &&& 31).toUInt32).toInt32))])) (fun t k => XS.iushr X0.here hx rfl (hb hby own_d24_71) rfl k) ?_
            refine own_st (T' := s₁) (g' := (mkF m 73 #[.val (.int ((v12.toUInt32 >>> ((2 : Int32) &&& 31).toUInt32).toInt32)), .val (.int (v13 + (-2 : Int32)))] [])) (fun t k => XS.istoreN X0.here hx rfl (hb hby own_d24_72) rfl (l' := #[.val (.int ((v12.toUInt32 >>> ((2 : Int32) &&& 31).toUInt32).toInt32)), .val (.int (v13 + (-2 : Int32)))]) rfl k) ?_
            exact K15 _ (if_neg hc63_14).symm _ (if_neg hc63_14).symm
        by_cases hc51_10 : v8 < (16 : Int32)
        ·
          refine own_st (T' := s₁) (g' := (mkF m 61 #[.val (.int v8), .val (.int v9)] [])) (fun t k => XS.icmpYes X0.here hx rfl (pc0 := 51) (pc' := 61) rfl (hb hby own_d24_51) rfl (tlt hc51_10).1 (by decide) (by decide) k) ?_
          exact K11 _ (if_pos hc51_10).symm _ (if_pos hc51_10).symm
        ·
          refine own_st (T' := s₁) (g' := (mkF m 54 #[.val (.int v8), .val (.int v9)] [])) (fun t k => XS.icmpNo X0.here hx rfl (hb hby own_d24_51) rfl (flt hc51_10).1 k) ?_
          refine own_st (T' := s₁) (g' := (mkF m 57 #[.val (.int v8), .val (.int (v9 + (-4 : Int32)))] [])) (fun t k => XS.iinc X0.here hx rfl (hb hby own_d24_54) rfl (l' := #[.val (.int v8), .val (.int (v9 + (-4 : Int32)))]) rfl k) ?_
          refine own_st (T' := s₁) (g' := (mkF m 58 #[.val (.int v8), .val (.int (v9 + (-4 : Int32)))] [(.int v8)])) (fun t k => XS.iloadN X0.here hx rfl (hb hby own_d24_57) rfl k) ?_
          refine own_st (T' := s₁) (g' := (mkF m 59 #[.val (.int v8), .val (.int (v9 + (-4 : Int32)))] [(.int (4 : Int32)), (.int v8)])) (fun t k => XS.iconst X0.here hx rfl (hb hby own_d24_58) k) ?_
          refine own_st (T' := s₁) (g' := (mkF m 60 #[.val (.int v8), .val (.int (v9 + (-4 : Int32)))] [(.int ((v8.toUInt32 >>> ((4 : Int32) &&& 31).toUInt32).toInt32))])) (fun t k => XS.iushr X0.here hx rfl (hb hby own_d24_59) rfl k) ?_
          refine own_st (T' := s₁) (g' := (mkF m 61 #[.val (.int ((v8.toUInt32 >>> ((4 : Int32) &&& 31).toUInt32).toInt32)), .val (.int (v9 + (-4 : Int32)))] [])) (fun t k => XS.istoreN X0.here hx rfl (hb hby own_d24_60) rfl (l' := #[.val (.int ((v8.toUInt32 >>> ((4 : Int32) &&& 31).toUInt32).toInt32)), .val (.int (v9 + (-4 : Int32)))]) rfl k) ?_
          exact K11 _ (if_neg hc51_10).symm _ (if_neg hc51_10).symm
      by_cases hc37_6 : v4 < (256 : Int32)
      ·
        refine own_st (T' := s₁) (g' := (mkF m 48 #[.val (.int v4), .val (.int v5)] [])) (fun t k => XS.icmpYes X0.here hx rfl (pc0 := 37) (pc' := 48) rfl (hb hby own_d24_37) rfl (tlt hc37_6).1 (by decide) (by decide) k) ?_
        exact K7 _ (if_pos hc37_6).symm _ (if_pos hc37_6).symm
      ·
        refine own_st (T' := s₁) (g' := (mkF m 40 #[.val (.int v4), .val (.int v5)] [])) (fun t k => XS.icmpNo X0.here hx rfl (hb hby own_d24_37) rfl (flt hc37_6).1 k) ?_
        refine own_st (T' := s₁) (g' := (mkF m 43 #[.val (.int v4), .val (.int (v5 + (-8 : Int32)))] [])) (fun t k => XS.iinc X0.here hx rfl (hb hby own_d24_40) rfl (l' := #[.val (.int v4), .val (.int (v5 + (-8 : Int32)))]) rfl k) ?_
        refine own_st (T' := s₁) (g' := (mkF m 44 #[.val (.int v4), .val (.int (v5 + (-8 : Int32)))] [(.int v4)])) (fun t k => XS.iloadN X0.here hx rfl (hb hby own_d24_43) rfl k) ?_
        refine own_st (T' := s₁) (g' := (mkF m 46 #[.val (.int v4), .val (.int (v5 + (-8 : Int32)))] [(.int (8 : Int32)), (.int v4)])) (fun t k => XS.bipush X0.here hx rfl (hb hby own_d24_44) k) ?_
        refine own_st (T' := s₁) (g' := (mkF m 47 #[.val (.int v4), .val (.int (v5 + (-8 : Int32)))] [(.int ((v4.toUInt32 >>> ((8 : Int32) &&& 31).toUInt32).toInt32))])) (fun t k => XS.iushr X0.here hx rfl (hb hby own_d24_46) rfl k) ?_
        refine own_st (T' := s₁) (g' := (mkF m 48 #[.val (.int ((v4.toUInt32 >>> ((8 : Int32) &&& 31).toUInt32).toInt32)), .val (.int (v5 + (-8 : Int32)))] [])) (fun t k => XS.istoreN X0.here hx rfl (hb hby own_d24_47) rfl (l' := #[.val (.int ((v4.toUInt32 >>> ((8 : Int32) &&& 31).toUInt32).toInt32)), .val (.int (v5 + (-8 : Int32)))]) rfl k) ?_
        exact K7 _ (if_neg hc37_6).symm _ (if_neg hc37_6).symm
    by_cases hc22_2 : p1 < (65536 : Int32)
    ·
      refine own_st (T' := s₁) (g' := (mkF m 33 #[.val (.int p1), .val (.int (31 : Int32))] [])) (fun t k => XS.icmpYes X0.here hx rfl (pc0 := 22) (pc' := 33) rfl (hb hby own_d24_22) rfl (tlt hc22_2).1 (by decide) (by decide) k) ?_
      exact K3 _ (if_pos hc22_2).symm _ (if_pos hc22_2).symm
    ·
      refine own_st (T' := s₁) (g' := (mkF m 25 #[.val (.int p1), .val (.int (31 : Int32))] [])) (fun t k => XS.icmpNo X0.here hx rfl (hb hby own_d24_22) rfl (flt hc22_2).1 k) ?_
      refine own_st (T' := s₁) (g' := (mkF m 28 #[.val (.int p1), .val (.int (15 : Int32))] [])) (fun t k => XS.iinc X0.here hx rfl (hb hby own_d24_25) rfl (l' := #[.val (.int p1), .val (.int (15 : Int32))]) rfl k) ?_
      refine own_st (T' := s₁) (g' := (mkF m 29 #[.val (.int p1), .val (.int (15 : Int32))] [(.int p1)])) (fun t k => XS.iloadN X0.here hx rfl (hb hby own_d24_28) rfl k) ?_
      refine own_st (T' := s₁) (g' := (mkF m 31 #[.val (.int p1), .val (.int (15 : Int32))] [(.int (16 : Int32)), (.int p1)])) (fun t k => XS.bipush X0.here hx rfl (hb hby own_d24_29) k) ?_
      refine own_st (T' := s₁) (g' := (mkF m 32 #[.val (.int p1), .val (.int (15 : Int32))] [(.int ((p1.toUInt32 >>> ((16 : Int32) &&& 31).toUInt32).toInt32))])) (fun t k => XS.iushr X0.here hx rfl (hb hby own_d24_31) rfl k) ?_
      refine own_st (T' := s₁) (g' := (mkF m 33 #[.val (.int ((p1.toUInt32 >>> ((16 : Int32) &&& 31).toUInt32).toInt32)), .val (.int (15 : Int32))] [])) (fun t k => XS.istoreN X0.here hx rfl (hb hby own_d24_32) rfl (l' := #[.val (.int ((p1.toUInt32 >>> ((16 : Int32) &&& 31).toUInt32).toInt32)), .val (.int (15 : Int32))]) rfl k) ?_
      exact K3 _ (if_neg hc22_2).symm _ (if_neg hc22_2).symm
  ·
    refine own_st (T' := s₁) (g' := (mkF m 4 #[.val (.int p1), .unset] [])) (fun t k => XS.ifNo X0.here hx rfl (hb hby own_d24_1) rfl ((if0 _ _).trans (flt hc1_1).2.2.1) k) ?_
    refine own_st (T' := s₁) (g' := (mkF m 5 #[.val (.int p1), .unset] [(.int p1)])) (fun t k => XS.iloadN X0.here hx rfl (hb hby own_d24_4) rfl k) ?_
    have K19 : ∀ (v20 : Int32) (hv20 : v20 = (if p1 = (0 : Int32) then (32 : Int32) else (0 : Int32))), own_G p e below (own_F (own_P (.int r) h0) s 0 0) s₁ (mkF m 14 #[.val (.int p1), .unset] [(.int v20)]) := by
      intro v20 hv20
      exact own_retI X0 hx hlk hret (hb hby own_d24_14) (by decide) (by decide) ⟨by rw [hr]; unfold own_nlz; rw [if_neg hc1_1]; simp [hv20], e0, rfl⟩
    by_cases hc5_18 : p1 = (0 : Int32)
    ·
      refine own_st (T' := s₁) (g' := (mkF m 8 #[.val (.int p1), .unset] [])) (fun t k => XS.ifNo X0.here hx rfl (hb hby own_d24_5) rfl ((if0 _ _).trans (teq hc5_18).2) k) ?_
      refine own_st (T' := s₁) (g' := (mkF m 10 #[.val (.int p1), .unset] [(.int (32 : Int32))])) (fun t k => XS.bipush X0.here hx rfl (hb hby own_d24_8) k) ?_
      refine own_st (T' := s₁) (g' := (mkF m 14 #[.val (.int p1), .unset] [(.int (32 : Int32))])) (fun t k => XS.goto X0.here hx rfl (pc0 := 10) (pc' := 14) rfl (hb hby own_d24_10) (by decide) (by decide) k) ?_
      exact K19 _ (if_pos hc5_18).symm
    ·
      refine own_st (T' := s₁) (g' := (mkF m 13 #[.val (.int p1), .unset] [])) (fun t k => XS.ifYes X0.here hx rfl (pc0 := 5) (pc' := 13) rfl (hb hby own_d24_5) rfl ((if0 _ _).trans (feq hc5_18).2) (by decide) (by decide) k) ?_
      refine own_st (T' := s₁) (g' := (mkF m 14 #[.val (.int p1), .unset] [(.int (0 : Int32))])) (fun t k => XS.iconst X0.here hx rfl (hb hby own_d24_13) k) ?_
      exact K19 _ (if_neg hc5_18).symm
theorem own_d23_0 : decode jdk_35_method_48_code 0 = .ok (.lload_n 0, 1) := by decide +kernel
theorem own_d23_1 : decode jdk_35_method_48_code 1 = .ok (.bipush 32, 2) := by decide +kernel
theorem own_d23_3 : decode jdk_35_method_48_code 3 = .ok (.lushr, 1) := by decide +kernel
theorem own_d23_4 : decode jdk_35_method_48_code 4 = .ok (.l2i, 1) := by decide +kernel
theorem own_d23_5 : decode jdk_35_method_48_code 5 = .ok (.istore_n 2, 1) := by decide +kernel
theorem own_d23_6 : decode jdk_35_method_48_code 6 = .ok (.iload_n 2, 1) := by decide +kernel
theorem own_d23_7 : decode jdk_35_method_48_code 7 = .ok (.ifCond .ne 14, 3) := by decide +kernel
theorem own_d23_10 : decode jdk_35_method_48_code 10 = .ok (.bipush 32, 2) := by decide +kernel
theorem own_d23_12 : decode jdk_35_method_48_code 12 = .ok (.lload_n 0, 1) := by decide +kernel
theorem own_d23_13 : decode jdk_35_method_48_code 13 = .ok (.l2i, 1) := by decide +kernel
theorem own_d23_14 : decode jdk_35_method_48_code 14 = .ok (.invokestatic 308, 3) := by decide +kernel
theorem own_d23_17 : decode jdk_35_method_48_code 17 = .ok (.iadd, 1) := by decide +kernel
theorem own_d23_18 : decode jdk_35_method_48_code 18 = .ok (.goto 7, 3) := by decide +kernel
theorem own_d23_21 : decode jdk_35_method_48_code 21 = .ok (.iload_n 2, 1) := by decide +kernel
theorem own_d23_22 : decode jdk_35_method_48_code 22 = .ok (.invokestatic 308, 3) := by decide +kernel
theorem own_d23_25 : decode jdk_35_method_48_code 25 = .ok (.ireturn, 1) := by decide +kernel
theorem own_pn23 : plainFor (⟨"java/lang/Long", "numberOfLeadingZeros", "(J)I"⟩ : MethodName) = true := plainFor_of_name (show plainName "java/lang/Long" = true by first | (simp [plainName, overriddenIn]; done) | decide +kernel)
theorem own_ef23 (m : MethodId) (q1 : Int64) : entryFrame m #[(.long q1)] 3 = (mkF m 0 #[.val (.long q1), .second, .unset] []) := by first | (simp [entryFrame, mkF, argsToLocals, Value.category]; done) | rfl
set_option maxRecDepth 65536 in
set_option maxHeartbeats 40000000 in
theorem own_rm23 (l : Launch) (Z : State) (a0 : Array Value) (hw : ∀ d ∈ tables_1, d.before a0 Z = true) (h0 : Heap) (n0 : Nat) (Z0 : n0 ≤ h0.size) (q1 : Int64) (r : Int32) (hr : r = own_nlzL q1) :
    own_C l Z (⟨"java/lang/Long", "numberOfLeadingZeros", "(J)I"⟩ : MethodName) jdk_35_method_48_code 3 (some .int) [] ({ frames := 1, cells := 0, slots := 0, locals := 16 } : Room) #[(.long q1)] h0 (own_P (.int r) h0) := by
  refine own_body own_pn23 (f0 := fun m => (mkF m 0 #[.val (.long q1), .second, .unset] [])) (fun m => own_ef23 m q1) ?_
  intro p e s m below meth c s₁ hx hby hml hown hnm hret hlk hZ X0 e0
  change own_G p e below (own_F (own_P (.int r) h0) s 0 0) s₁ (mkF m 0 #[.val (.long q1), .second, .unset] [])
  have N0 := Fr.nil n0
  refine own_st (T' := s₁) (g' := (mkF m 1 #[.val (.long q1), .second, .unset] [(.long q1)])) (fun t k => XS.lloadN X0.here hx rfl (hb hby own_d23_0) rfl k) ?_
  refine own_st (T' := s₁) (g' := (mkF m 3 #[.val (.long q1), .second, .unset] [(.int (32 : Int32)), (.long q1)])) (fun t k => XS.bipush X0.here hx rfl (hb hby own_d23_1) k) ?_
  refine own_st (T' := s₁) (g' := (mkF m 4 #[.val (.long q1), .second, .unset] [(.long ((q1.toUInt64 >>> ((32 : Int32) &&& 0x3f).toInt64.toUInt64).toInt64))])) (fun t k => XS.lushr X0.here hx rfl (hb hby own_d23_3) rfl k) ?_
  refine own_st (T' := s₁) (g' := (mkF m 5 #[.val (.long q1), .second, .unset] [(.int (((q1.toUInt64 >>> ((32 : Int32) &&& 0x3f).toInt64.toUInt64).toInt64).toInt32))])) (fun t k => XS.l2i X0.here hx rfl (hb hby own_d23_4) rfl k) ?_
  refine own_st (T' := s₁) (g' := (mkF m 6 #[.val (.long q1), .second, .val (.int (((q1.toUInt64 >>> ((32 : Int32) &&& 0x3f).toInt64.toUInt64).toInt64).toInt32))] [])) (fun t k => XS.istoreN X0.here hx rfl (hb hby own_d23_5) rfl (l' := #[.val (.long q1), .second, .val (.int (((q1.toUInt64 >>> ((32 : Int32) &&& 0x3f).toInt64.toUInt64).toInt64).toInt32))]) rfl k) ?_
  refine own_st (T' := s₁) (g' := (mkF m 7 #[.val (.long q1), .second, .val (.int (((q1.toUInt64 >>> ((32 : Int32) &&& 0x3f).toInt64.toUInt64).toInt64).toInt32))] [(.int (((q1.toUInt64 >>> ((32 : Int32) &&& 0x3f).toInt64.toUInt64).toInt64).toInt32))])) (fun t k => XS.iloadN X0.here hx rfl (hb hby own_d23_6) rfl k) ?_
  by_cases hc7_1 : (((q1.toUInt64 >>> ((32 : Int32) &&& 0x3f).toInt64.toUInt64).toInt64).toInt32) = (0 : Int32)
  ·
    refine own_st (T' := s₁) (g' := (mkF m 10 #[.val (.long q1), .second, .val (.int (((q1.toUInt64 >>> ((32 : Int32) &&& 0x3f).toInt64.toUInt64).toInt64).toInt32))] [])) (fun t k => XS.ifNo X0.here hx rfl (hb hby own_d23_7) rfl ((if0 _ _).trans (teq hc7_1).2) k) ?_
    refine own_st (T' := s₁) (g' := (mkF m 12 #[.val (.long q1), .second, .val (.int (((q1.toUInt64 >>> ((32 : Int32) &&& 0x3f).toInt64.toUInt64).toInt64).toInt32))] [(.int (32 : Int32))])) (fun t k => XS.bipush X0.here hx rfl (hb hby own_d23_10) k) ?_
    refine own_st (T' := s₁) (g' := (mkF m 13 #[.val (.long q1), .second, .val (.int (((q1.toUInt64 >>> ((32 : Int32) &&& 0x3f).toInt64.toUInt64).toInt64).toInt32))] [(.long q1), (.int (32 : Int32))])) (fun t k => XS.lloadN X0.here hx rfl (hb hby own_d23_12) rfl k) ?_
    refine own_st (T' := s₁) (g' := (mkF m 14 #[.val (.long q1), .second, .val (.int (((q1.toUInt64 >>> ((32 : Int32) &&& 0x3f).toInt64.toUInt64).toInt64).toInt32))] [(.int (q1.toInt32)), (.int (32 : Int32))])) (fun t k => XS.l2i X0.here hx rfl (hb hby own_d23_13) rfl k) ?_
    obtain ⟨r2, hr2⟩ : ∃ q, q = own_nlz (q1.toInt32) := ⟨_, rfl⟩
    obtain ⟨_, T2, L2, hQ2, X2, st2⟩ := own_callS (y := (⟨"java/lang/Integer", "numberOfLeadingZeros", "(I)I"⟩ : MethodName)) (argsL := [(.int (q1.toInt32))]) 1 [(.int (32 : Int32))] (own_rm24 l Z a0 hw h0 n0 Z0 (q1.toInt32) _ hr2) X0 hx hZ hown (hw _ (List.mem_of_getElem? (i := 170) rfl)) (hw _ (List.mem_of_getElem? (i := 171) rfl)) (hw _ (List.mem_of_getElem? (i := 172) rfl)) (hw _ (List.mem_of_getElem? (i := 173) rfl)) (by decide) (by decide) (by decide) (by decide) (by decide) e0 (g := (mkF m 14 #[.val (.long q1), .second, .val (.int (((q1.toUInt64 >>> ((32 : Int32) &&& 0x3f).toInt64.toUInt64).toInt64).toInt32))] [(.int (q1.toInt32)), (.int (32 : Int32))])) rfl (by rw [hml]; rfl) (lenOf own_pd7 rfl) rfl (by show 2 * 0 + _ ≤ _; exact Nat.le_of_eq rfl) (hb hby own_d23_14)
    obtain ⟨rfl, e2, rfl⟩ := hQ2
    have X2 : Stand p l e ({ frames := 1, cells := 0, slots := 0, locals := 16 } : Room) s m #[(.long q1)] below meth c T2 [] 0 0 := X2
    refine own_st (T' := T2) (g' := (mkF m 17 #[.val (.long q1), .second, .val (.int (((q1.toUInt64 >>> ((32 : Int32) &&& 0x3f).toInt64.toUInt64).toInt64).toInt32))] [(.int r2), (.int (32 : Int32))])) st2 ?_
    refine own_st (T' := T2) (g' := (mkF m 18 #[.val (.long q1), .second, .val (.int (((q1.toUInt64 >>> ((32 : Int32) &&& 0x3f).toInt64.toUInt64).toInt64).toInt32))] [(.int ((32 : Int32) + r2))])) (fun t k => XS.iadd X2.here hx rfl (hb hby own_d23_17) rfl k) ?_
    refine own_st (T' := T2) (g' := (mkF m 25 #[.val (.long q1), .second, .val (.int (((q1.toUInt64 >>> ((32 : Int32) &&& 0x3f).toInt64.toUInt64).toInt64).toInt32))] [(.int ((32 : Int32) + r2))])) (fun t k => XS.goto X2.here hx rfl (pc0 := 18) (pc' := 25) rfl (hb hby own_d23_18) (by decide) (by decide) k) ?_
    exact own_retI X2 hx hlk hret (hb hby own_d23_25) (by decide) (by decide) ⟨by rw [hr]; unfold own_nlzL; rw [if_pos (show own_hi q1 = 0 from hc7_1), hr2]; try rfl, e2, rfl⟩
  ·
    refine own_st (T' := s₁) (g' := (mkF m 21 #[.val (.long q1), .second, .val (.int (((q1.toUInt64 >>> ((32 : Int32) &&& 0x3f).toInt64.toUInt64).toInt64).toInt32))] [])) (fun t k => XS.ifYes X0.here hx rfl (pc0 := 7) (pc' := 21) rfl (hb hby own_d23_7) rfl ((if0 _ _).trans (feq hc7_1).2) (by decide) (by decide) k) ?_
    refine own_st (T' := s₁) (g' := (mkF m 22 #[.val (.long q1), .second, .val (.int (((q1.toUInt64 >>> ((32 : Int32) &&& 0x3f).toInt64.toUInt64).toInt64).toInt32))] [(.int (((q1.toUInt64 >>> ((32 : Int32) &&& 0x3f).toInt64.toUInt64).toInt64).toInt32))])) (fun t k => XS.iloadN X0.here hx rfl (hb hby own_d23_21) rfl k) ?_
    obtain ⟨r3, hr3⟩ : ∃ q, q = own_nlz (((q1.toUInt64 >>> ((32 : Int32) &&& 0x3f).toInt64.toUInt64).toInt64).toInt32) := ⟨_, rfl⟩
    obtain ⟨_, T3, L3, hQ3, X3, st3⟩ := own_callS (y := (⟨"java/lang/Integer", "numberOfLeadingZeros", "(I)I"⟩ : MethodName)) (argsL := [(.int (((q1.toUInt64 >>> ((32 : Int32) &&& 0x3f).toInt64.toUInt64).toInt64).toInt32))]) 0 [] (own_rm24 l Z a0 hw h0 n0 Z0 (((q1.toUInt64 >>> ((32 : Int32) &&& 0x3f).toInt64.toUInt64).toInt64).toInt32) _ hr3) X0 hx hZ hown (hw _ (List.mem_of_getElem? (i := 170) rfl)) (hw _ (List.mem_of_getElem? (i := 171) rfl)) (hw _ (List.mem_of_getElem? (i := 172) rfl)) (hw _ (List.mem_of_getElem? (i := 173) rfl)) (by decide) (by decide) (by decide) (by decide) (by decide) e0 (g := (mkF m 22 #[.val (.long q1), .second, .val (.int (((q1.toUInt64 >>> ((32 : Int32) &&& 0x3f).toInt64.toUInt64).toInt64).toInt32))] [(.int (((q1.toUInt64 >>> ((32 : Int32) &&& 0x3f).toInt64.toUInt64).toInt64).toInt32))])) rfl (by rw [hml]; rfl) (lenOf own_pd7 rfl) rfl (by show 2 * 0 + _ ≤ _; exact Nat.le_of_eq rfl) (hb hby own_d23_22)
    obtain ⟨rfl, e3, rfl⟩ := hQ3
    have X3 : Stand p l e ({ frames := 1, cells := 0, slots := 0, locals := 16 } : Room) s m #[(.long q1)] below meth c T3 [] 0 0 := X3
    refine own_st (T' := T3) (g' := (mkF m 25 #[.val (.long q1), .second, .val (.int (((q1.toUInt64 >>> ((32 : Int32) &&& 0x3f).toInt64.toUInt64).toInt64).toInt32))] [(.int r3)])) st3 ?_
    exact own_retI X3 hx hlk hret (hb hby own_d23_25) (by decide) (by decide) ⟨by rw [hr]; unfold own_nlzL; rw [if_neg (show ¬ own_hi q1 = 0 from hc7_1), hr3]; try rfl, e3, rfl⟩
theorem own_d20_0 : decode prog_83_method_10_code 0 = .ok (.aload_n 0, 1) := by decide +kernel
theorem own_d20_1 : decode prog_83_method_10_code 1 = .ok (.getfield 17, 3) := by decide +kernel
theorem own_d20_4 : decode prog_83_method_10_code 4 = .ok (.ireturn, 1) := by decide +kernel
theorem own_pn20 : plainFor (⟨"com/example/astraea/astraea/lang/Variable", "bounded", "()Z"⟩ : MethodName) = true := plainFor_of_name (show plainName "com/example/astraea/astraea/lang/Variable" = true by first | (simp [plainName, overriddenIn]; done) | decide +kernel)
theorem own_ef20 (m : MethodId) (a1 : Addr) : entryFrame m #[(.ref a1)] 1 = (mkF m 0 #[.val (.ref a1)] []) := by first | (simp [entryFrame, mkF, argsToLocals, Value.category]; done) | rfl
set_option maxRecDepth 65536 in
set_option maxHeartbeats 40000000 in
theorem own_rm20 (l : Launch) (Z : State) (a0 : Array Value) (hw : ∀ d ∈ tables_1, d.before a0 Z = true) (h0 : Heap) (n0 : Nat) (Z0 : n0 ≤ h0.size) (a1 : Addr) (z : Int32) (hbz : z = 0 ∨ z = 1) (F_bounded_a1 : Fld Z h0 a1 "com/example/astraea/astraea/lang/Variable" "bounded" "Z" (.int z)) :
    own_C l Z (⟨"com/example/astraea/astraea/lang/Variable", "bounded", "()Z"⟩ : MethodName) prog_83_method_10_code 1 (some .boolean) [] ({ frames := 0, cells := 0, slots := 0, locals := 0 } : Room) #[(.ref a1)] h0 (own_P (.int z) h0) := by
  refine own_body own_pn20 (f0 := fun m => (mkF m 0 #[.val (.ref a1)] [])) (fun m => own_ef20 m a1) ?_
  intro p e s m below meth c s₁ hx hby hml hown hnm hret hlk hZ X0 e0
  change own_G p e below (own_F (own_P (.int z) h0) s 0 0) s₁ (mkF m 0 #[.val (.ref a1)] [])
  have N0 := Fr.nil n0
  refine own_st (T' := s₁) (g' := (mkF m 1 #[.val (.ref a1)] [(.ref a1)])) (fun t k => XS.aloadN X0.here hx rfl (hb hby own_d20_0) rfl rfl k) ?_
  obtain ⟨T1, X1, e1, st1⟩ := getF X0 hx hZ hown (host := "") (Or.inl (hw _ (List.mem_of_getElem? (i := 58) rfl))) Via.refl e0 F_bounded_a1 (g := (mkF m 1 #[.val (.ref a1)] [(.ref a1)])) rfl rfl (hb hby own_d20_1)
  refine own_st (T' := T1) (g' := (mkF m 4 #[.val (.ref a1)] [(.int z)])) st1 ?_
  exact own_retB X1 hx hlk hret (hb hby own_d20_4) (by decide) (by decide) (own_nar hbz) ⟨rfl, e1, rfl⟩
theorem own_d21_0 : decode prog_83_method_12_code 0 = .ok (.aload_n 0, 1) := by decide +kernel
theorem own_d21_1 : decode prog_83_method_12_code 1 = .ok (.getfield 25, 3) := by decide +kernel
theorem own_d21_4 : decode prog_83_method_12_code 4 = .ok (.lreturn, 1) := by decide +kernel
theorem own_pn21 : plainFor (⟨"com/example/astraea/astraea/lang/Variable", "upper", "()J"⟩ : MethodName) = true := plainFor_of_name (show plainName "com/example/astraea/astraea/lang/Variable" = true by first | (simp [plainName, overriddenIn]; done) | decide +kernel)
theorem own_ef21 (m : MethodId) (a1 : Addr) : entryFrame m #[(.ref a1)] 1 = (mkF m 0 #[.val (.ref a1)] []) := by first | (simp [entryFrame, mkF, argsToLocals, Value.category]; done) | rfl
set_option maxRecDepth 65536 in
set_option maxHeartbeats 40000000 in
theorem own_rm21 (l : Launch) (Z : State) (a0 : Array Value) (hw : ∀ d ∈ tables_1, d.before a0 Z = true) (h0 : Heap) (n0 : Nat) (Z0 : n0 ≤ h0.size) (a1 : Addr) (z : Int64) (F_upper_a1 : Fld Z h0 a1 "com/example/astraea/astraea/lang/Variable" "upper" "J" (.long z)) :
    own_C l Z (⟨"com/example/astraea/astraea/lang/Variable", "upper", "()J"⟩ : MethodName) prog_83_method_12_code 1 (some .long) [] ({ frames := 0, cells := 0, slots := 0, locals := 0 } : Room) #[(.ref a1)] h0 (own_P (.long z) h0) := by
  refine own_body own_pn21 (f0 := fun m => (mkF m 0 #[.val (.ref a1)] [])) (fun m => own_ef21 m a1) ?_
  intro p e s m below meth c s₁ hx hby hml hown hnm hret hlk hZ X0 e0
  change own_G p e below (own_F (own_P (.long z) h0) s 0 0) s₁ (mkF m 0 #[.val (.ref a1)] [])
  have N0 := Fr.nil n0
  refine own_st (T' := s₁) (g' := (mkF m 1 #[.val (.ref a1)] [(.ref a1)])) (fun t k => XS.aloadN X0.here hx rfl (hb hby own_d21_0) rfl rfl k) ?_
  obtain ⟨T1, X1, e1, st1⟩ := getF X0 hx hZ hown (host := "") (Or.inl (hw _ (List.mem_of_getElem? (i := 62) rfl))) Via.refl e0 F_upper_a1 (g := (mkF m 1 #[.val (.ref a1)] [(.ref a1)])) rfl rfl (hb hby own_d21_1)
  refine own_st (T' := T1) (g' := (mkF m 4 #[.val (.ref a1)] [(.long z)])) st1 ?_
  exact own_retJ X1 hx hlk hret (hb hby own_d21_4) (by decide) (by decide) ⟨rfl, e1, rfl⟩
theorem own_d22_0 : decode prog_83_method_11_code 0 = .ok (.aload_n 0, 1) := by decide +kernel
theorem own_d22_1 : decode prog_83_method_11_code 1 = .ok (.getfield 21, 3) := by decide +kernel
theorem own_d22_4 : decode prog_83_method_11_code 4 = .ok (.lreturn, 1) := by decide +kernel
theorem own_pn22 : plainFor (⟨"com/example/astraea/astraea/lang/Variable", "lower", "()J"⟩ : MethodName) = true := plainFor_of_name (show plainName "com/example/astraea/astraea/lang/Variable" = true by first | (simp [plainName, overriddenIn]; done) | decide +kernel)
theorem own_ef22 (m : MethodId) (a1 : Addr) : entryFrame m #[(.ref a1)] 1 = (mkF m 0 #[.val (.ref a1)] []) := by first | (simp [entryFrame, mkF, argsToLocals, Value.category]; done) | rfl
set_option maxRecDepth 65536 in
set_option maxHeartbeats 40000000 in
theorem own_rm22 (l : Launch) (Z : State) (a0 : Array Value) (hw : ∀ d ∈ tables_1, d.before a0 Z = true) (h0 : Heap) (n0 : Nat) (Z0 : n0 ≤ h0.size) (a1 : Addr) (z : Int64) (F_lower_a1 : Fld Z h0 a1 "com/example/astraea/astraea/lang/Variable" "lower" "J" (.long z)) :
    own_C l Z (⟨"com/example/astraea/astraea/lang/Variable", "lower", "()J"⟩ : MethodName) prog_83_method_11_code 1 (some .long) [] ({ frames := 0, cells := 0, slots := 0, locals := 0 } : Room) #[(.ref a1)] h0 (own_P (.long z) h0) := by
  refine own_body own_pn22 (f0 := fun m => (mkF m 0 #[.val (.ref a1)] [])) (fun m => own_ef22 m a1) ?_
  intro p e s m below meth c s₁ hx hby hml hown hnm hret hlk hZ X0 e0
  change own_G p e below (own_F (own_P (.long z) h0) s 0 0) s₁ (mkF m 0 #[.val (.ref a1)] [])
  have N0 := Fr.nil n0
  refine own_st (T' := s₁) (g' := (mkF m 1 #[.val (.ref a1)] [(.ref a1)])) (fun t k => XS.aloadN X0.here hx rfl (hb hby own_d22_0) rfl rfl k) ?_
  obtain ⟨T1, X1, e1, st1⟩ := getF X0 hx hZ hown (host := "") (Or.inl (hw _ (List.mem_of_getElem? (i := 60) rfl))) Via.refl e0 F_lower_a1 (g := (mkF m 1 #[.val (.ref a1)] [(.ref a1)])) rfl rfl (hb hby own_d22_1)
  refine own_st (T' := T1) (g' := (mkF m 4 #[.val (.ref a1)] [(.long z)])) st1 ?_
  exact own_retJ X1 hx hlk hret (hb hby own_d22_4) (by decide) (by decide) ⟨rfl, e1, rfl⟩
theorem own_d19_0 : decode prog_5_method_5_code 0 = .ok (.bipush 64, 2) := by decide +kernel
theorem own_d19_2 : decode prog_5_method_5_code 2 = .ok (.istore_n 1, 1) := by decide +kernel
theorem own_d19_3 : decode prog_5_method_5_code 3 = .ok (.aload_n 0, 1) := by decide +kernel
theorem own_d19_4 : decode prog_5_method_5_code 4 = .ok (.invokevirtual 48, 3) := by decide +kernel
theorem own_d19_7 : decode prog_5_method_5_code 7 = .ok (.ifCond .eq 31, 3) := by decide +kernel
theorem own_d19_10 : decode prog_5_method_5_code 10 = .ok (.aload_n 0, 1) := by decide +kernel
theorem own_d19_11 : decode prog_5_method_5_code 11 = .ok (.invokevirtual 52, 3) := by decide +kernel
theorem own_d19_14 : decode prog_5_method_5_code 14 = .ok (.aload_n 0, 1) := by decide +kernel
theorem own_d19_15 : decode prog_5_method_5_code 15 = .ok (.invokevirtual 41, 3) := by decide +kernel
theorem own_d19_18 : decode prog_5_method_5_code 18 = .ok (.lsub, 1) := by decide +kernel
theorem own_d19_19 : decode prog_5_method_5_code 19 = .ok (.lstore_n 2, 1) := by decide +kernel
theorem own_d19_20 : decode prog_5_method_5_code 20 = .ok (.lload_n 2, 1) := by decide +kernel
theorem own_d19_21 : decode prog_5_method_5_code 21 = .ok (.lconst 0, 1) := by decide +kernel
theorem own_d19_22 : decode prog_5_method_5_code 22 = .ok (.lcmp, 1) := by decide +kernel
theorem own_d19_23 : decode prog_5_method_5_code 23 = .ok (.ifCond .lt 15, 3) := by decide +kernel
theorem own_d19_26 : decode prog_5_method_5_code 26 = .ok (.iconst 1, 1) := by decide +kernel
theorem own_d19_27 : decode prog_5_method_5_code 27 = .ok (.bipush 64, 2) := by decide +kernel
theorem own_d19_29 : decode prog_5_method_5_code 29 = .ok (.lload_n 2, 1) := by decide +kernel
theorem own_d19_30 : decode prog_5_method_5_code 30 = .ok (.invokestatic 55, 3) := by decide +kernel
theorem own_d19_33 : decode prog_5_method_5_code 33 = .ok (.isub, 1) := by decide +kernel
theorem own_d19_34 : decode prog_5_method_5_code 34 = .ok (.invokestatic 61, 3) := by decide +kernel
theorem own_d19_37 : decode prog_5_method_5_code 37 = .ok (.istore_n 1, 1) := by decide +kernel
theorem own_d19_38 : decode prog_5_method_5_code 38 = .ok (.iload_n 1, 1) := by decide +kernel
theorem own_d19_39 : decode prog_5_method_5_code 39 = .ok (.ireturn, 1) := by decide +kernel
theorem own_pn19 : plainFor (⟨"com/example/astraea/astraea/explicit/StateLayout", "bitsFor", "(Lcom/example/astraea/astraea/lang/Variable;)I"⟩ : MethodName) = true := plainFor_of_name (show plainName "com/example/astraea/astraea/explicit/StateLayout" = true by first | (simp [plainName, overriddenIn]; done) | decide +kernel)
theorem own_ef19 (m : MethodId) (a1 : Addr) : entryFrame m #[(.ref a1)] 4 = (mkF m 0 #[.val (.ref a1), .unset, .unset, .unset] []) := by first | (simp [entryFrame, mkF, argsToLocals, Value.category]; done) | rfl
set_option maxRecDepth 65536 in
set_option maxHeartbeats 40000000 in
theorem own_rm19 (l : Launch) (Z : State) (a0 : Array Value) (hw : ∀ d ∈ tables_1, d.before a0 Z = true) (h0 : Heap) (n0 : Nat) (Z0 : n0 ≤ h0.size) (a1 : Addr) (z : Int32) (lo up : Int64) (hbz : z = 0 ∨ z = 1) (E_a1 : Exa Z h0 a1 "com/example/astraea/astraea/lang/Variable") (F_bounded_a1 : Fld Z h0 a1 "com/example/astraea/astraea/lang/Variable" "bounded" "Z" (.int z)) (F_lower_a1 : Fld Z h0 a1 "com/example/astraea/astraea/lang/Variable" "lower" "J" (.long lo)) (F_upper_a1 : Fld Z h0 a1 "com/example/astraea/astraea/lang/Variable" "upper" "J" (.long up)) (r : Int32) (hr : r = own_bits z lo up) :
    own_C l Z (⟨"com/example/astraea/astraea/explicit/StateLayout", "bitsFor", "(Lcom/example/astraea/astraea/lang/Variable;)I"⟩ : MethodName) prog_5_method_5_code 4 (some .int) [] ({ frames := 2, cells := 0, slots := 0, locals := 35 } : Room) #[(.ref a1)] h0 (own_P (.int r) h0) := by
  refine own_body own_pn19 (f0 := fun m => (mkF m 0 #[.val (.ref a1), .unset, .unset, .unset] [])) (fun m => own_ef19 m a1) ?_
  intro p e s m below meth c s₁ hx hby hml hown hnm hret hlk hZ X0 e0
  change own_G p e below (own_F (own_P (.int r) h0) s 0 0) s₁ (mkF m 0 #[.val (.ref a1), .unset, .unset, .unset] [])
  have N0 := Fr.nil n0
  refine own_st (T' := s₁) (g' := (mkF m 2 #[.val (.ref a1), .unset, .unset, .unset] [(.int (64 : Int32))])) (fun t k => XS.bipush X0.here hx rfl (hb hby own_d19_0) k) ?_
  refine own_st (T' := s₁) (g' := (mkF m 3 #[.val (.ref a1), .val (.int (64 : Int32)), .unset, .unset] [])) (fun t k => XS.istoreN X0.here hx rfl (hb hby own_d19_2) rfl (l' := #[.val (.ref a1), .val (.int (64 : Int32)), .unset, .unset]) rfl k) ?_
  refine own_st (T' := s₁) (g' := (mkF m 4 #[.val (.ref a1), .val (.int (64 : Int32)), .unset, .unset] [(.ref a1)])) (fun t k => XS.aloadN X0.here hx rfl (hb hby own_d19_3) rfl rfl k) ?_
  obtain ⟨_, T1, L1, hQ1, X1, st1⟩ := own_callV (y := (⟨"com/example/astraea/astraea/lang/Variable", "bounded", "()Z"⟩ : MethodName)) (z := (⟨"com/example/astraea/astraea/lang/Variable", "bounded", "()Z"⟩ : MethodName)) (argsL := []) 0 [] (K := "com/example/astraea/astraea/lang/Variable") (own_rm20 l Z a0 hw h0 n0 Z0 a1 z hbz F_bounded_a1) X0 hx hZ hown (hw _ (List.mem_of_getElem? (i := 151) rfl)) (hw _ (List.mem_of_getElem? (i := 152) rfl)) (notFace_of_selects (args := #[]) (mvT hZ (hw _ (List.mem_of_getElem? (i := 154) rfl)))) (hw _ (List.mem_of_getElem? (i := 154) rfl)) (hw _ (List.mem_of_getElem? (i := 153) rfl)) (hw _ (List.mem_of_getElem? (i := 155) rfl)) (hw _ (List.mem_of_getElem? (i := 33) rfl)) (by decide) (by decide) (by decide) (by decide) (by decide) e0 E_a1 (g := (mkF m 4 #[.val (.ref a1), .val (.int (64 : Int32)), .unset, .unset] [(.ref a1)])) rfl (by rw [hml]; rfl) (lenOf own_pd8 rfl) rfl (by show 2 * 0 + _ ≤ _; exact Nat.le_of_eq rfl) (hb hby own_d19_4)
  obtain ⟨rfl, e1, rfl⟩ := hQ1
  have X1 : Stand p l e ({ frames := 2, cells := 0, slots := 0, locals := 35 } : Room) s m #[(.ref a1)] below meth c T1 [] 0 0 := X1
  refine own_st (T' := T1) (g' := (mkF m 7 #[.val (.ref a1), .val (.int (64 : Int32)), .unset, .unset] [(.int z)])) st1 ?_
  by_cases hc7_2 : z = (0 : Int32)
  ·
    refine own_st (T' := T1) (g' := (mkF m 38 #[.val (.ref a1), .val (.int (64 : Int32)), .unset, .unset] [])) (fun t k => XS.ifYes X1.here hx rfl (pc0 := 7) (pc' := 38) rfl (hb hby own_d19_7) rfl ((if0 _ _).trans (teq hc7_2).1) (by decide) (by decide) k) ?_
    refine own_st (T' := T1) (g' := (mkF m 39 #[.val (.ref a1), .val (.int (64 : Int32)), .unset, .unset] [(.int (64 : Int32))])) (fun t k => XS.iloadN X1.here hx rfl (hb hby own_d19_38) rfl k) ?_
    exact own_retI X1 hx hlk hret (hb hby own_d19_39) (by decide) (by decide) ⟨by rw [hr]; unfold own_bits; rw [if_pos hc7_2]; try rfl, e1, rfl⟩
  ·
    refine own_st (T' := T1) (g' := (mkF m 10 #[.val (.ref a1), .val (.int (64 : Int32)), .unset, .unset] [])) (fun t k => XS.ifNo X1.here hx rfl (hb hby own_d19_7) rfl ((if0 _ _).trans (feq hc7_2).1) k) ?_
    refine own_st (T' := T1) (g' := (mkF m 11 #[.val (.ref a1), .val (.int (64 : Int32)), .unset, .unset] [(.ref a1)])) (fun t k => XS.aloadN X1.here hx rfl (hb hby own_d19_10) rfl rfl k) ?_
    obtain ⟨_, T3, L3, hQ3, X3, st3⟩ := own_callV (y := (⟨"com/example/astraea/astraea/lang/Variable", "upper", "()J"⟩ : MethodName)) (z := (⟨"com/example/astraea/astraea/lang/Variable", "upper", "()J"⟩ : MethodName)) (argsL := []) 0 [] (K := "com/example/astraea/astraea/lang/Variable") (own_rm21 l Z a0 hw h0 n0 Z0 a1 up F_upper_a1) X1 hx hZ hown (hw _ (List.mem_of_getElem? (i := 156) rfl)) (hw _ (List.mem_of_getElem? (i := 157) rfl)) (notFace_of_selects (args := #[]) (mvT hZ (hw _ (List.mem_of_getElem? (i := 159) rfl)))) (hw _ (List.mem_of_getElem? (i := 159) rfl)) (hw _ (List.mem_of_getElem? (i := 158) rfl)) (hw _ (List.mem_of_getElem? (i := 160) rfl)) (hw _ (List.mem_of_getElem? (i := 33) rfl)) (by decide) (by decide) (by decide) (by decide) (by decide) e1 E_a1 (g := (mkF m 11 #[.val (.ref a1), .val (.int (64 : Int32)), .unset, .unset] [(.ref a1)])) rfl (by rw [hml]; rfl) (lenOf own_pd9 rfl) rfl (by show 2 * 0 + _ ≤ _; exact Nat.le_of_eq rfl) (hb hby own_d19_11)
    obtain ⟨rfl, e3, rfl⟩ := hQ3
    have X3 : Stand p l e ({ frames := 2, cells := 0, slots := 0, locals := 35 } : Room) s m #[(.ref a1)] below meth c T3 [] 0 0 := X3
    refine own_st (T' := T3) (g' := (mkF m 14 #[.val (.ref a1), .val (.int (64 : Int32)), .unset, .unset] [(.long up)])) st3 ?_
    refine own_st (T' := T3) (g' := (mkF m 15 #[.val (.ref a1), .val (.int (64 : Int32)), .unset, .unset] [(.ref a1), (.long up)])) (fun t k => XS.aloadN X3.here hx rfl (hb hby own_d19_14) rfl rfl k) ?_
    obtain ⟨_, T4, L4, hQ4, X4, st4⟩ := own_callV (y := (⟨"com/example/astraea/astraea/lang/Variable", "lower", "()J"⟩ : MethodName)) (z := (⟨"com/example/astraea/astraea/lang/Variable", "lower", "()J"⟩ : MethodName)) (argsL := []) 2 [(.long up)] (K := "com/example/astraea/astraea/lang/Variable") (own_rm22 l Z a0 hw h0 n0 Z0 a1 lo F_lower_a1) X3 hx hZ hown (hw _ (List.mem_of_getElem? (i := 161) rfl)) (hw _ (List.mem_of_getElem? (i := 162) rfl)) (notFace_of_selects (args := #[]) (mvT hZ (hw _ (List.mem_of_getElem? (i := 164) rfl)))) (hw _ (List.mem_of_getElem? (i := 164) rfl)) (hw _ (List.mem_of_getElem? (i := 163) rfl)) (hw _ (List.mem_of_getElem? (i := 165) rfl)) (hw _ (List.mem_of_getElem? (i := 33) rfl)) (by decide) (by decide) (by decide) (by decide) (by decide) e3 E_a1 (g := (mkF m 15 #[.val (.ref a1), .val (.int (64 : Int32)), .unset, .unset] [(.ref a1), (.long up)])) rfl (by rw [hml]; rfl) (lenOf own_pd9 rfl) rfl (by show 2 * 0 + _ ≤ _; exact Nat.le_of_eq rfl) (hb hby own_d19_15)
    obtain ⟨rfl, e4, rfl⟩ := hQ4
    have X4 : Stand p l e ({ frames := 2, cells := 0, slots := 0, locals := 35 } : Room) s m #[(.ref a1)] below meth c T4 [] 0 0 := X4
    refine own_st (T' := T4) (g' := (mkF m 18 #[.val (.ref a1), .val (.int (64 : Int32)), .unset, .unset] [(.long lo), (.long up)])) st4 ?_
    refine own_st (T' := T4) (g' := (mkF m 19 #[.val (.ref a1), .val (.int (64 : Int32)), .unset, .unset] [(.long (up - lo))])) (fun t k => XS.lsub X4.here hx rfl (hb hby own_d19_18) rfl k) ?_
    refine own_st (T' := T4) (g' := (mkF m 20 #[.val (.ref a1), .val (.int (64 : Int32)), .val (.long (up - lo)), .second] [])) (fun t k => XS.lstoreN X4.here hx rfl (hb hby own_d19_19) rfl (l' := #[.val (.ref a1), .val (.int (64 : Int32)), .val (.long (up - lo)), .second]) rfl k) ?_
    refine own_st (T' := T4) (g' := (mkF m 21 #[.val (.ref a1), .val (.int (64 : Int32)), .val (.long (up - lo)), .second] [(.long (up - lo))])) (fun t k => XS.lloadN X4.here hx rfl (hb hby own_d19_20) rfl k) ?_
    refine own_st (T' := T4) (g' := (mkF m 22 #[.val (.ref a1), .val (.int (64 : Int32)), .val (.long (up - lo)), .second] [(.long (0 : Int64)), (.long (up - lo))])) (fun t k => XS.lconst X4.here hx rfl (hb hby own_d19_21) k) ?_
    refine own_st (T' := T4) (g' := (mkF m 23 #[.val (.ref a1), .val (.int (64 : Int32)), .val (.long (up - lo)), .second] [(.int (lcmpW (up - lo) (0 : Int64)))])) (fun t k => XS.lcmp X4.here hx rfl (hb hby own_d19_22) rfl k) ?_
    by_cases hc23_5 : (lcmpW (up - lo) (0 : Int64)) < (0 : Int32)
    ·
      refine own_st (T' := T4) (g' := (mkF m 38 #[.val (.ref a1), .val (.int (64 : Int32)), .val (.long (up - lo)), .second] [])) (fun t k => XS.ifYes X4.here hx rfl (pc0 := 23) (pc' := 38) rfl (hb hby own_d19_23) rfl ((if0 _ _).trans (tlt hc23_5).1) (by decide) (by decide) k) ?_
      refine own_st (T' := T4) (g' := (mkF m 39 #[.val (.ref a1), .val (.int (64 : Int32)), .val (.long (up - lo)), .second] [(.int (64 : Int32))])) (fun t k => XS.iloadN X4.here hx rfl (hb hby own_d19_38) rfl k) ?_
      exact own_retI X4 hx hlk hret (hb hby own_d19_39) (by decide) (by decide) ⟨by rw [hr]; unfold own_bits; rw [if_neg hc7_2]; rw [if_pos hc23_5]; try rfl, e4, rfl⟩
    ·
      refine own_st (T' := T4) (g' := (mkF m 26 #[.val (.ref a1), .val (.int (64 : Int32)), .val (.long (up - lo)), .second] [])) (fun t k => XS.ifNo X4.here hx rfl (hb hby own_d19_23) rfl ((if0 _ _).trans (flt hc23_5).1) k) ?_
      refine own_st (T' := T4) (g' := (mkF m 27 #[.val (.ref a1), .val (.int (64 : Int32)), .val (.long (up - lo)), .second] [(.int (1 : Int32))])) (fun t k => XS.iconst X4.here hx rfl (hb hby own_d19_26) k) ?_
      refine own_st (T' := T4) (g' := (mkF m 29 #[.val (.ref a1), .val (.int (64 : Int32)), .val (.long (up - lo)), .second] [(.int (64 : Int32)), (.int (1 : Int32))])) (fun t k => XS.bipush X4.here hx rfl (hb hby own_d19_27) k) ?_
      refine own_st (T' := T4) (g' := (mkF m 30 #[.val (.ref a1), .val (.int (64 : Int32)), .val (.long (up - lo)), .second] [(.long (up - lo)), (.int (64 : Int32)), (.int (1 : Int32))])) (fun t k => XS.lloadN X4.here hx rfl (hb hby own_d19_29) rfl k) ?_
      obtain ⟨r6, hr6⟩ : ∃ q, q = own_nlzL (up - lo) := ⟨_, rfl⟩
      obtain ⟨_, T6, L6, hQ6, X6, st6⟩ := own_callS (y := (⟨"java/lang/Long", "numberOfLeadingZeros", "(J)I"⟩ : MethodName)) (argsL := [(.long (up - lo))]) 2 [(.int (64 : Int32)), (.int (1 : Int32))] (own_rm23 l Z a0 hw h0 n0 Z0 (up - lo) _ hr6) X4 hx hZ hown (hw _ (List.mem_of_getElem? (i := 166) rfl)) (hw _ (List.mem_of_getElem? (i := 167) rfl)) (hw _ (List.mem_of_getElem? (i := 168) rfl)) (hw _ (List.mem_of_getElem? (i := 169) rfl)) (by decide) (by decide) (by decide) (by decide) (by decide) e4 (g := (mkF m 30 #[.val (.ref a1), .val (.int (64 : Int32)), .val (.long (up - lo)), .second] [(.long (up - lo)), (.int (64 : Int32)), (.int (1 : Int32))])) rfl (by rw [hml]; rfl) (lenOf own_pd10 rfl) rfl (by show 2 * 0 + _ ≤ _; exact Nat.le_of_eq rfl) (hb hby own_d19_30)
      obtain ⟨rfl, e6, rfl⟩ := hQ6
      have X6 : Stand p l e ({ frames := 2, cells := 0, slots := 0, locals := 35 } : Room) s m #[(.ref a1)] below meth c T6 [] 0 0 := X6
      refine own_st (T' := T6) (g' := (mkF m 33 #[.val (.ref a1), .val (.int (64 : Int32)), .val (.long (up - lo)), .second] [(.int r6), (.int (64 : Int32)), (.int (1 : Int32))])) st6 ?_
      refine own_st (T' := T6) (g' := (mkF m 34 #[.val (.ref a1), .val (.int (64 : Int32)), .val (.long (up - lo)), .second] [(.int ((64 : Int32) - r6)), (.int (1 : Int32))])) (fun t k => XS.isub X6.here hx rfl (hb hby own_d19_33) rfl k) ?_
      obtain ⟨r7, hr7⟩ : ∃ q, q = own_max (1 : Int32) ((64 : Int32) - r6) := ⟨_, rfl⟩
      obtain ⟨_, T7, L7, hQ7, X7, st7⟩ := own_callS (y := (⟨"java/lang/Math", "max", "(II)I"⟩ : MethodName)) (argsL := [(.int (1 : Int32)), (.int ((64 : Int32) - r6))]) 0 [] (own_rm12 l Z a0 hw h0 n0 Z0 (1 : Int32) ((64 : Int32) - r6) _ hr7) X6 hx hZ hown (hw _ (List.mem_of_getElem? (i := 174) rfl)) (hw _ (List.mem_of_getElem? (i := 91) rfl)) (hw _ (List.mem_of_getElem? (i := 92) rfl)) (hw _ (List.mem_of_getElem? (i := 93) rfl)) (by decide) (by decide) (by decide) (by decide) (by decide) e6 (g := (mkF m 34 #[.val (.ref a1), .val (.int (64 : Int32)), .val (.long (up - lo)), .second] [(.int ((64 : Int32) - r6)), (.int (1 : Int32))])) rfl (by rw [hml]; rfl) (lenOf own_pd1 rfl) rfl (by show 2 * 0 + _ ≤ _; exact Nat.le_of_eq rfl) (hb hby own_d19_34)
      obtain ⟨rfl, e7, rfl⟩ := hQ7
      have X7 : Stand p l e ({ frames := 2, cells := 0, slots := 0, locals := 35 } : Room) s m #[(.ref a1)] below meth c T7 [] 0 0 := X7
      refine own_st (T' := T7) (g' := (mkF m 37 #[.val (.ref a1), .val (.int (64 : Int32)), .val (.long (up - lo)), .second] [(.int r7)])) st7 ?_
      refine own_st (T' := T7) (g' := (mkF m 38 #[.val (.ref a1), .val (.int r7), .val (.long (up - lo)), .second] [])) (fun t k => XS.istoreN X7.here hx rfl (hb hby own_d19_37) rfl (l' := #[.val (.ref a1), .val (.int r7), .val (.long (up - lo)), .second]) rfl k) ?_
      refine own_st (T' := T7) (g' := (mkF m 39 #[.val (.ref a1), .val (.int r7), .val (.long (up - lo)), .second] [(.int r7)])) (fun t k => XS.iloadN X7.here hx rfl (hb hby own_d19_38) rfl k) ?_
      exact own_retI X7 hx hlk hret (hb hby own_d19_39) (by decide) (by decide) ⟨by rw [hr]; unfold own_bits; rw [if_neg hc7_2]; rw [if_neg hc23_5]; rw [hr7, hr6]; try rfl, e7, rfl⟩
theorem own_d13_0 : decode prog_5_method_1_code 0 = .ok (.aload_n 0, 1) := by decide +kernel
theorem own_d13_1 : decode prog_5_method_1_code 1 = .ok (.invokespecial 1, 3) := by decide +kernel
theorem own_d13_4 : decode prog_5_method_1_code 4 = .ok (.aload_n 1, 1) := by decide +kernel
theorem own_d13_5 : decode prog_5_method_1_code 5 = .ok (.invokeinterface 7 1, 5) := by decide +kernel
theorem own_d13_10 : decode prog_5_method_1_code 10 = .ok (.istore_n 2, 1) := by decide +kernel
theorem own_d13_11 : decode prog_5_method_1_code 11 = .ok (.aload_n 0, 1) := by decide +kernel
theorem own_d13_12 : decode prog_5_method_1_code 12 = .ok (.iload_n 2, 1) := by decide +kernel
theorem own_d13_13 : decode prog_5_method_1_code 13 = .ok (.newarray .int, 2) := by decide +kernel
theorem own_d13_15 : decode prog_5_method_1_code 15 = .ok (.putfield 13, 3) := by decide +kernel
theorem own_d13_18 : decode prog_5_method_1_code 18 = .ok (.aload_n 0, 1) := by decide +kernel
theorem own_d13_19 : decode prog_5_method_1_code 19 = .ok (.iload_n 2, 1) := by decide +kernel
theorem own_d13_20 : decode prog_5_method_1_code 20 = .ok (.newarray .int, 2) := by decide +kernel
theorem own_d13_22 : decode prog_5_method_1_code 22 = .ok (.putfield 19, 3) := by decide +kernel
theorem own_d13_25 : decode prog_5_method_1_code 25 = .ok (.aload_n 0, 1) := by decide +kernel
theorem own_d13_26 : decode prog_5_method_1_code 26 = .ok (.iload_n 2, 1) := by decide +kernel
theorem own_d13_27 : decode prog_5_method_1_code 27 = .ok (.newarray .long, 2) := by decide +kernel
theorem own_d13_29 : decode prog_5_method_1_code 29 = .ok (.putfield 22, 3) := by decide +kernel
theorem own_d13_32 : decode prog_5_method_1_code 32 = .ok (.aload_n 0, 1) := by decide +kernel
theorem own_d13_33 : decode prog_5_method_1_code 33 = .ok (.iload_n 2, 1) := by decide +kernel
theorem own_d13_34 : decode prog_5_method_1_code 34 = .ok (.newarray .long, 2) := by decide +kernel
theorem own_d13_36 : decode prog_5_method_1_code 36 = .ok (.putfield 26, 3) := by decide +kernel
theorem own_d13_39 : decode prog_5_method_1_code 39 = .ok (.iconst 0, 1) := by decide +kernel
theorem own_d13_40 : decode prog_5_method_1_code 40 = .ok (.istore_n 3, 1) := by decide +kernel
theorem own_d13_41 : decode prog_5_method_1_code 41 = .ok (.iconst (-1), 1) := by decide +kernel
theorem own_d13_42 : decode prog_5_method_1_code 42 = .ok (.istore 4, 2) := by decide +kernel
theorem own_d13_44 : decode prog_5_method_1_code 44 = .ok (.bipush 64, 2) := by decide +kernel
theorem own_d13_46 : decode prog_5_method_1_code 46 = .ok (.istore 5, 2) := by decide +kernel
theorem own_d13_48 : decode prog_5_method_1_code 48 = .ok (.iconst 0, 1) := by decide +kernel
theorem own_d13_49 : decode prog_5_method_1_code 49 = .ok (.istore 6, 2) := by decide +kernel
theorem own_d13_51 : decode prog_5_method_1_code 51 = .ok (.iload 6, 2) := by decide +kernel
theorem own_d13_53 : decode prog_5_method_1_code 53 = .ok (.iload_n 2, 1) := by decide +kernel
theorem own_d13_54 : decode prog_5_method_1_code 54 = .ok (.if_icmp .ge 129, 3) := by decide +kernel
theorem own_d13_57 : decode prog_5_method_1_code 57 = .ok (.aload_n 1, 1) := by decide +kernel
theorem own_d13_58 : decode prog_5_method_1_code 58 = .ok (.iload 6, 2) := by decide +kernel
theorem own_d13_60 : decode prog_5_method_1_code 60 = .ok (.invokeinterface 29 2, 5) := by decide +kernel
theorem own_d13_65 : decode prog_5_method_1_code 65 = .ok (.checkcast 33, 3) := by decide +kernel
theorem own_d13_68 : decode prog_5_method_1_code 68 = .ok (.astore 7, 2) := by decide +kernel
theorem own_d13_70 : decode prog_5_method_1_code 70 = .ok (.aload 7, 2) := by decide +kernel
theorem own_d13_72 : decode prog_5_method_1_code 72 = .ok (.invokestatic 35, 3) := by decide +kernel
theorem own_d13_75 : decode prog_5_method_1_code 75 = .ok (.istore 8, 2) := by decide +kernel
theorem own_d13_77 : decode prog_5_method_1_code 77 = .ok (.iload 8, 2) := by decide +kernel
theorem own_d13_79 : decode prog_5_method_1_code 79 = .ok (.bipush 64, 2) := by decide +kernel
theorem own_d13_81 : decode prog_5_method_1_code 81 = .ok (.if_icmp .ne 27, 3) := by decide +kernel
theorem own_d13_84 : decode prog_5_method_1_code 84 = .ok (.aload_n 0, 1) := by decide +kernel
theorem own_d13_85 : decode prog_5_method_1_code 85 = .ok (.getfield 13, 3) := by decide +kernel
theorem own_d13_88 : decode prog_5_method_1_code 88 = .ok (.iload 6, 2) := by decide +kernel
theorem own_d13_90 : decode prog_5_method_1_code 90 = .ok (.iload_n 3, 1) := by decide +kernel
theorem own_d13_91 : decode prog_5_method_1_code 91 = .ok (.iinc 3 1, 3) := by decide +kernel
theorem own_d13_94 : decode prog_5_method_1_code 94 = .ok (.iastore, 1) := by decide +kernel
theorem own_d13_95 : decode prog_5_method_1_code 95 = .ok (.aload_n 0, 1) := by decide +kernel
theorem own_d13_96 : decode prog_5_method_1_code 96 = .ok (.getfield 22, 3) := by decide +kernel
theorem own_d13_99 : decode prog_5_method_1_code 99 = .ok (.iload 6, 2) := by decide +kernel
theorem own_d13_101 : decode prog_5_method_1_code 101 = .ok (.ldc2_w 39, 3) := by decide +kernel
theorem own_d13_104 : decode prog_5_method_1_code 104 = .ok (.lastore, 1) := by decide +kernel
theorem own_d13_105 : decode prog_5_method_1_code 105 = .ok (.goto 72, 3) := by decide +kernel
theorem own_d13_108 : decode prog_5_method_1_code 108 = .ok (.iload 5, 2) := by decide +kernel
theorem own_d13_110 : decode prog_5_method_1_code 110 = .ok (.iload 8, 2) := by decide +kernel
theorem own_d13_112 : decode prog_5_method_1_code 112 = .ok (.iadd, 1) := by decide +kernel
theorem own_d13_113 : decode prog_5_method_1_code 113 = .ok (.bipush 64, 2) := by decide +kernel
theorem own_d13_115 : decode prog_5_method_1_code 115 = .ok (.if_icmp .le 12, 3) := by decide +kernel
theorem own_d13_118 : decode prog_5_method_1_code 118 = .ok (.iload_n 3, 1) := by decide +kernel
theorem own_d13_119 : decode prog_5_method_1_code 119 = .ok (.iinc 3 1, 3) := by decide +kernel
theorem own_d13_122 : decode prog_5_method_1_code 122 = .ok (.istore 4, 2) := by decide +kernel
theorem own_d13_124 : decode prog_5_method_1_code 124 = .ok (.iconst 0, 1) := by decide +kernel
theorem own_d13_125 : decode prog_5_method_1_code 125 = .ok (.istore 5, 2) := by decide +kernel
theorem own_d13_127 : decode prog_5_method_1_code 127 = .ok (.aload_n 0, 1) := by decide +kernel
theorem own_d13_128 : decode prog_5_method_1_code 128 = .ok (.getfield 13, 3) := by decide +kernel
theorem own_d13_131 : decode prog_5_method_1_code 131 = .ok (.iload 6, 2) := by decide +kernel
theorem own_d13_133 : decode prog_5_method_1_code 133 = .ok (.iload 4, 2) := by decide +kernel
theorem own_d13_135 : decode prog_5_method_1_code 135 = .ok (.iastore, 1) := by decide +kernel
theorem own_d13_136 : decode prog_5_method_1_code 136 = .ok (.aload_n 0, 1) := by decide +kernel
theorem own_d13_137 : decode prog_5_method_1_code 137 = .ok (.getfield 19, 3) := by decide +kernel
theorem own_d13_140 : decode prog_5_method_1_code 140 = .ok (.iload 6, 2) := by decide +kernel
theorem own_d13_142 : decode prog_5_method_1_code 142 = .ok (.iload 5, 2) := by decide +kernel
theorem own_d13_144 : decode prog_5_method_1_code 144 = .ok (.iastore, 1) := by decide +kernel
theorem own_d13_145 : decode prog_5_method_1_code 145 = .ok (.aload_n 0, 1) := by decide +kernel
theorem own_d13_146 : decode prog_5_method_1_code 146 = .ok (.getfield 22, 3) := by decide +kernel
theorem own_d13_149 : decode prog_5_method_1_code 149 = .ok (.iload 6, 2) := by decide +kernel
theorem own_d13_151 : decode prog_5_method_1_code 151 = .ok (.lconst 1, 1) := by decide +kernel
theorem own_d13_152 : decode prog_5_method_1_code 152 = .ok (.iload 8, 2) := by decide +kernel
theorem own_d13_154 : decode prog_5_method_1_code 154 = .ok (.lshl, 1) := by decide +kernel
theorem own_d13_155 : decode prog_5_method_1_code 155 = .ok (.lconst 1, 1) := by decide +kernel
theorem own_d13_156 : decode prog_5_method_1_code 156 = .ok (.lsub, 1) := by decide +kernel
theorem own_d13_157 : decode prog_5_method_1_code 157 = .ok (.lastore, 1) := by decide +kernel
theorem own_d13_158 : decode prog_5_method_1_code 158 = .ok (.aload_n 0, 1) := by decide +kernel
theorem own_d13_159 : decode prog_5_method_1_code 159 = .ok (.getfield 26, 3) := by decide +kernel
theorem own_d13_162 : decode prog_5_method_1_code 162 = .ok (.iload 6, 2) := by decide +kernel
theorem own_d13_164 : decode prog_5_method_1_code 164 = .ok (.aload 7, 2) := by decide +kernel
theorem own_d13_166 : decode prog_5_method_1_code 166 = .ok (.invokevirtual 41, 3) := by decide +kernel
theorem own_d13_169 : decode prog_5_method_1_code 169 = .ok (.lastore, 1) := by decide +kernel
theorem own_d13_170 : decode prog_5_method_1_code 170 = .ok (.iload 5, 2) := by decide +kernel
theorem own_d13_172 : decode prog_5_method_1_code 172 = .ok (.iload 8, 2) := by decide +kernel
theorem own_d13_174 : decode prog_5_method_1_code 174 = .ok (.iadd, 1) := by decide +kernel
theorem own_d13_175 : decode prog_5_method_1_code 175 = .ok (.istore 5, 2) := by decide +kernel
theorem own_d13_177 : decode prog_5_method_1_code 177 = .ok (.iinc 6 1, 3) := by decide +kernel
theorem own_d13_180 : decode prog_5_method_1_code 180 = .ok (.goto (-129), 3) := by decide +kernel
theorem own_d13_183 : decode prog_5_method_1_code 183 = .ok (.aload_n 0, 1) := by decide +kernel
theorem own_d13_184 : decode prog_5_method_1_code 184 = .ok (.iload_n 3, 1) := by decide +kernel
theorem own_d13_185 : decode prog_5_method_1_code 185 = .ok (.putfield 44, 3) := by decide +kernel
theorem own_d13_188 : decode prog_5_method_1_code 188 = .ok (.return_, 1) := by decide +kernel
theorem own_pn13 : plainFor (⟨"com/example/astraea/astraea/explicit/StateLayout", "<init>", "(Ljava/util/List;)V"⟩ : MethodName) = true := plainFor_of_name (show plainName "com/example/astraea/astraea/explicit/StateLayout" = true by first | (simp [plainName, overriddenIn]; done) | decide +kernel)
theorem own_ef13 (m : MethodId) (a1 : Addr) (a2 : Addr) : entryFrame m #[(.ref a1), (.ref a2)] 9 = (mkF m 0 #[.val (.ref a1), .val (.ref a2), .unset, .unset, .unset, .unset, .unset, .unset, .unset] []) := by first | (simp [entryFrame, mkF, argsToLocals, Value.category]; done) | rfl
set_option maxRecDepth 65536 in
set_option maxHeartbeats 40000000 in
theorem own_rm13 (l : Launch) (Z : State) (a0 : Array Value) (hw : ∀ d ∈ tables_1, d.before a0 Z = true) (h0 : Heap) (n0 : Nat) (Z0 : n0 ≤ h0.size) (a1 : Addr) (a2 : Addr) (g_a1 : n0 ≤ a1) (E_a1 : Exa Z h0 a1 "com/example/astraea/astraea/explicit/StateLayout") (u_words : Value) (F_words_a1 : Fld Z h0 a1 "com/example/astraea/astraea/explicit/StateLayout" "words" "I" u_words) (u_word : Value) (F_word_a1 : Fld Z h0 a1 "com/example/astraea/astraea/explicit/StateLayout" "word" "[I" u_word) (u_shift : Value) (F_shift_a1 : Fld Z h0 a1 "com/example/astraea/astraea/explicit/StateLayout" "shift" "[I" u_shift) (u_mask : Value) (F_mask_a1 : Fld Z h0 a1 "com/example/astraea/astraea/explicit/StateLayout" "mask" "[J" u_mask) (u_lower : Value) (F_lower_a1 : Fld Z h0 a1 "com/example/astraea/astraea/explicit/StateLayout" "lower" "[J" u_lower) (ar x0 x1 x2 : Addr) (ka : ClassId) (E_a2 : Exa Z h0 a2 "java/util/ArrayList") (F_size_a2 : Fld Z h0 a2 "java/util/ArrayList" "size" "I" (.int 3)) (F_elementData_a2 : Fld Z h0 a2 "java/util/ArrayList" "elementData" "[Ljava/lang/Object;" (.ref ar)) (V_ar : Arv Z h0 ar ka (.object "java/lang/Object") 10 [(.ref x0), (.ref x1), (.ref x2), .null, .null, .null, .null, .null, .null, .null] .null) (z0 : Int32) (lo0 up0 : Int64) (hz0 : z0 = 0 ∨ z0 = 1) (E_x0 : Exa Z h0 x0 "com/example/astraea/astraea/lang/Variable") (F_bounded_x0 : Fld Z h0 x0 "com/example/astraea/astraea/lang/Variable" "bounded" "Z" (.int z0)) (F_lower_x0 : Fld Z h0 x0 "com/example/astraea/astraea/lang/Variable" "lower" "J" (.long lo0)) (F_upper_x0 : Fld Z h0 x0 "com/example/astraea/astraea/lang/Variable" "upper" "J" (.long up0)) (b0 : Int32) (hb0 : b0 = own_bits z0 lo0 up0) (hr0 : 1 ≤ b0.toInt ∧ b0.toInt ≤ 64) (z1 : Int32) (lo1 up1 : Int64) (hz1 : z1 = 0 ∨ z1 = 1) (E_x1 : Exa Z h0 x1 "com/example/astraea/astraea/lang/Variable") (F_bounded_x1 : Fld Z h0 x1 "com/example/astraea/astraea/lang/Variable" "bounded" "Z" (.int z1)) (F_lower_x1 : Fld Z h0 x1 "com/example/astraea/astraea/lang/Variable" "lower" "J" (.long lo1)) (F_upper_x1 : Fld Z h0 x1 "com/example/astraea/astraea/lang/Variable" "upper" "J" (.long up1)) (b1 : Int32) (hb1 : b1 = own_bits z1 lo1 up1) (hr1 : 1 ≤ b1.toInt ∧ b1.toInt ≤ 64) (z2 : Int32) (lo2 up2 : Int64) (hz2 : z2 = 0 ∨ z2 = 1) (E_x2 : Exa Z h0 x2 "com/example/astraea/astraea/lang/Variable") (F_bounded_x2 : Fld Z h0 x2 "com/example/astraea/astraea/lang/Variable" "bounded" "Z" (.int z2)) (F_lower_x2 : Fld Z h0 x2 "com/example/astraea/astraea/lang/Variable" "lower" "J" (.long lo2)) (F_upper_x2 : Fld Z h0 x2 "com/example/astraea/astraea/lang/Variable" "upper" "J" (.long up2)) (b2 : Int32) (hb2 : b2 = own_bits z2 lo2 up2) (hr2 : 1 ≤ b2.toInt ∧ b2.toInt ≤ 64) (ne_a2_a1 : a2 ≠ a1) (ne_ar_a1 : ar ≠ a1) (ne_x0_a1 : x0 ≠ a1) (ne_x1_a1 : x1 ≠ a1) (ne_x2_a1 : x2 ≠ a1) (h64_0 : ¬ b0 = 64) (h64_1 : b1 = 64) (h64_2 : ¬ b2 = 64) :
    own_C l Z (⟨"com/example/astraea/astraea/explicit/StateLayout", "<init>", "(Ljava/util/List;)V"⟩ : MethodName) prog_5_method_1_code 9 none [] ({ frames := 3, cells := 4, slots := 12, locals := 60 } : Room) #[(.ref a1), (.ref a2)] h0 (own_qsl Z a1 b0 b1 b2 lo0 lo1 lo2 h0 n0) := by
  refine own_body own_pn13 (f0 := fun m => (mkF m 0 #[.val (.ref a1), .val (.ref a2), .unset, .unset, .unset, .unset, .unset, .unset, .unset] [])) (fun m => own_ef13 m a1 a2) ?_
  intro p e s m below meth c s₁ hx hby hml hown hnm hret hlk hZ X0 e0
  change own_G p e below (own_F (own_qsl Z a1 b0 b1 b2 lo0 lo1 lo2 h0 n0) s 4 12) s₁ (mkF m 0 #[.val (.ref a1), .val (.ref a2), .unset, .unset, .unset, .unset, .unset, .unset, .unset] [])
  have N0 := Fr.nil n0
  refine own_st (T' := s₁) (g' := (mkF m 1 #[.val (.ref a1), .val (.ref a2), .unset, .unset, .unset, .unset, .unset, .unset, .unset] [(.ref a1)])) (fun t k => XS.aloadN X0.here hx rfl (hb hby own_d13_0) rfl rfl k) ?_
  obtain ⟨T1, X1, e1, st1⟩ := initO X0 hx hZ hown (hw _ (List.mem_of_getElem? (i := 105) rfl)) (hw _ (List.mem_of_getElem? (i := 24) rfl)) (hw _ (List.mem_of_getElem? (i := 25) rfl)) e0 (g := (mkF m 1 #[.val (.ref a1), .val (.ref a2), .unset, .unset, .unset, .unset, .unset, .unset, .unset] [(.ref a1)])) rfl (by rw [hml]; rfl) rfl (hb hby own_d13_1) (by decide) (W := 0) (by show 2 * 0 + _ ≤ _; exact Nat.le_of_eq rfl) (by decide)
  refine own_st (T' := T1) (g' := (mkF m 4 #[.val (.ref a1), .val (.ref a2), .unset, .unset, .unset, .unset, .unset, .unset, .unset] [])) st1 ?_
  refine own_st (T' := T1) (g' := (mkF m 5 #[.val (.ref a1), .val (.ref a2), .unset, .unset, .unset, .unset, .unset, .unset, .unset] [(.ref a2)])) (fun t k => XS.aloadN X1.here hx rfl (hb hby own_d13_4) rfl rfl k) ?_
  obtain ⟨_, T2, L2, hQ2, X2, st2⟩ := own_callF (y := (⟨"java/util/List", "size", "()I"⟩ : MethodName)) (z := (⟨"java/util/ArrayList", "size", "()I"⟩ : MethodName)) (argsL := []) 0 [] (K := "java/util/ArrayList") (own_rm14 l Z a0 hw h0 n0 Z0 a2 _ F_size_a2) X1 hx hZ hown (hw _ (List.mem_of_getElem? (i := 106) rfl)) (hw _ (List.mem_of_getElem? (i := 107) rfl)) (mvT hZ (hw _ (List.mem_of_getElem? (i := 108) rfl))) (hw _ (List.mem_of_getElem? (i := 109) rfl)) (hw _ (List.mem_of_getElem? (i := 110) rfl)) (hw _ (List.mem_of_getElem? (i := 111) rfl)) (hw _ (List.mem_of_getElem? (i := 112) rfl)) (hw _ (List.mem_of_getElem? (i := 113) rfl)) (hw _ (List.mem_of_getElem? (i := 114) rfl)) (hw _ (List.mem_of_getElem? (i := 7) rfl)) (by decide) (by decide) (by decide) (by decide) (by decide) e1 E_a2 (g := (mkF m 5 #[.val (.ref a1), .val (.ref a2), .unset, .unset, .unset, .unset, .unset, .unset, .unset] [(.ref a2)])) rfl (by rw [hml]; rfl) (lenOf own_pd11 rfl) rfl (by show 2 * 0 + _ ≤ _; exact Nat.le_of_eq rfl) (hb hby own_d13_5)
  obtain ⟨rfl, e2, rfl⟩ := hQ2
  have X2 : Stand p l e ({ frames := 3, cells := 4, slots := 12, locals := 60 } : Room) s m #[(.ref a1), (.ref a2)] below meth c T2 [] 0 0 := X2
  refine own_st (T' := T2) (g' := (mkF m 10 #[.val (.ref a1), .val (.ref a2), .unset, .unset, .unset, .unset, .unset, .unset, .unset] [(.int (3 : Int32))])) st2 ?_
  refine own_st (T' := T2) (g' := (mkF m 11 #[.val (.ref a1), .val (.ref a2), .val (.int (3 : Int32)), .unset, .unset, .unset, .unset, .unset, .unset] [])) (fun t k => XS.istoreN X2.here hx rfl (hb hby own_d13_10) rfl (l' := #[.val (.ref a1), .val (.ref a2), .val (.int (3 : Int32)), .unset, .unset, .unset, .unset, .unset, .unset]) rfl k) ?_
  refine own_st (T' := T2) (g' := (mkF m 12 #[.val (.ref a1), .val (.ref a2), .val (.int (3 : Int32)), .unset, .unset, .unset, .unset, .unset, .unset] [(.ref a1)])) (fun t k => XS.aloadN X2.here hx rfl (hb hby own_d13_11) rfl rfl k) ?_
  refine own_st (T' := T2) (g' := (mkF m 13 #[.val (.ref a1), .val (.ref a2), .val (.int (3 : Int32)), .unset, .unset, .unset, .unset, .unset, .unset] [(.int (3 : Int32)), (.ref a1)])) (fun t k => XS.iloadN X2.here hx rfl (hb hby own_d13_12) rfl k) ?_
  obtain ⟨T3, h3, k3, X3, e3, E3, A3, Ex3, st3⟩ := newPE X2 hx hZ (aty := .int) (hw _ (List.mem_of_getElem? (i := 115) rfl)) e2 (g := (mkF m 13 #[.val (.ref a1), .val (.ref a2), .val (.int (3 : Int32)), .unset, .unset, .unset, .unset, .unset, .unset] [(.int (3 : Int32)), (.ref a1)])) rfl (hb hby own_d13_13) rfl (by decide) (cap := 3) (by decide) (by decide) (by decide) (by decide) (ad := "[I") (by decide)
  obtain ⟨b3, gb3⟩ : ∃ z, z = h0.size := ⟨_, rfl⟩
  rw [← gb3] at A3 Ex3 st3
  have ne_a1_b3 : a1 ≠ b3 := by rw [gb3]; exact Nat.ne_of_lt E_a1.lt
  have ne_a2_b3 : a2 ≠ b3 := by rw [gb3]; exact Nat.ne_of_lt E_a2.lt
  have ne_ar_b3 : ar ≠ b3 := by rw [gb3]; exact Nat.ne_of_lt V_ar.lt
  have ne_x0_b3 : x0 ≠ b3 := by rw [gb3]; exact Nat.ne_of_lt E_x0.lt
  have ne_x1_b3 : x1 ≠ b3 := by rw [gb3]; exact Nat.ne_of_lt E_x1.lt
  have ne_x2_b3 : x2 ≠ b3 := by rw [gb3]; exact Nat.ne_of_lt E_x2.lt
  have g_b3 : n0 ≤ b3 := Nat.le_trans Z0 (Nat.le_of_eq gb3.symm)
  have Z3 : n0 ≤ h3.size := Nat.le_trans Z0 E3.1
  have sz_b3 : h0.size ≤ b3 := Nat.le_trans (Keep.refl h0 [a1]).1 (Nat.le_of_eq gb3.symm)
  have K0_3 := (Keep.refl h0 [a1]).ext E3
  have E_a1 := E_a1.ext E3
  have F_words_a1 := F_words_a1.ext E3
  have F_word_a1 := F_word_a1.ext E3
  have F_shift_a1 := F_shift_a1.ext E3
  have F_mask_a1 := F_mask_a1.ext E3
  have F_lower_a1 := F_lower_a1.ext E3
  have E_a2 := E_a2.ext E3
  have F_size_a2 := F_size_a2.ext E3
  have F_elementData_a2 := F_elementData_a2.ext E3
  have V_ar := V_ar.ext E3
  have E_x0 := E_x0.ext E3
  have F_bounded_x0 := F_bounded_x0.ext E3
  have F_lower_x0 := F_lower_x0.ext E3
  have F_upper_x0 := F_upper_x0.ext E3
  have E_x1 := E_x1.ext E3
  have F_bounded_x1 := F_bounded_x1.ext E3
  have F_lower_x1 := F_lower_x1.ext E3
  have F_upper_x1 := F_upper_x1.ext E3
  have E_x2 := E_x2.ext E3
  have F_bounded_x2 := F_bounded_x2.ext E3
  have F_lower_x2 := F_lower_x2.ext E3
  have F_upper_x2 := F_upper_x2.ext E3
  have V_b3 : Arv Z h3 b3 k3 .int (3 : Int32) [(.int (0 : Int32)), (.int (0 : Int32)), (.int (0 : Int32))] (.int (0 : Int32)) := (Arv.new A3 (by decide)).pad (pad_rep [] (.int (0 : Int32)) 3)
  have E_b3 := Ex3
  have X3 : Stand p l e ({ frames := 3, cells := 4, slots := 12, locals := 60 } : Room) s m #[(.ref a1), (.ref a2)] below meth c T3 [] 1 3 := X3
  refine own_st (T' := T3) (g' := (mkF m 15 #[.val (.ref a1), .val (.ref a2), .val (.int (3 : Int32)), .unset, .unset, .unset, .unset, .unset, .unset] [(.ref b3), (.ref a1)])) st3 ?_
  obtain ⟨T4, h4, X4, e4, W4, st4⟩ := putF X3 hx hZ hown (host := "") (Or.inl (hw _ (List.mem_of_getElem? (i := 116) rfl))) Via.refl e3 F_word_a1 E_a1 (Or.inr ⟨(hw _ (List.mem_of_getElem? (i := 117) rfl)), rfl, hnm⟩) (hw _ (List.mem_of_getElem? (i := 100) rfl)) (ty := (.array .int)) (by decide) rfl rfl (g := (mkF m 15 #[.val (.ref a1), .val (.ref a2), .val (.int (3 : Int32)), .unset, .unset, .unset, .unset, .unset, .unset] [(.ref b3), (.ref a1)])) rfl rfl (hb hby own_d13_15)
  have E_a1 := E_a1.wr W4
  have F_words_a1 := F_words_a1.other W4 (Or.inr (slot_ne (Or.inr (hw _ (List.mem_of_getElem? (i := 177) rfl))) (Or.inr (hw _ (List.mem_of_getElem? (i := 117) rfl))) (by decide) (t := .int) (t' := (.array .int)) (by decide) (by decide)))
  have F_word_a1 := F_word_a1.same W4
  have F_shift_a1 := F_shift_a1.other W4 (Or.inr (slot_ne (Or.inr (hw _ (List.mem_of_getElem? (i := 119) rfl))) (Or.inr (hw _ (List.mem_of_getElem? (i := 117) rfl))) (by decide) (t := (.array .int)) (t' := (.array .int)) (by decide) (by decide)))
  have F_mask_a1 := F_mask_a1.other W4 (Or.inr (slot_ne (Or.inr (hw _ (List.mem_of_getElem? (i := 122) rfl))) (Or.inr (hw _ (List.mem_of_getElem? (i := 117) rfl))) (by decide) (t := (.array .long)) (t' := (.array .int)) (by decide) (by decide)))
  have F_lower_a1 := F_lower_a1.other W4 (Or.inr (slot_ne (Or.inr (hw _ (List.mem_of_getElem? (i := 124) rfl))) (Or.inr (hw _ (List.mem_of_getElem? (i := 117) rfl))) (by decide) (t := (.array .long)) (t' := (.array .int)) (by decide) (by decide)))
  have E_a2 := E_a2.wr W4
  have F_size_a2 := F_size_a2.other W4 (Or.inl ne_a2_a1)
  have F_elementData_a2 := F_elementData_a2.other W4 (Or.inl ne_a2_a1)
  have V_ar := V_ar.other W4 ne_ar_a1
  have E_x0 := E_x0.wr W4
  have F_bounded_x0 := F_bounded_x0.other W4 (Or.inl ne_x0_a1)
  have F_lower_x0 := F_lower_x0.other W4 (Or.inl ne_x0_a1)
  have F_upper_x0 := F_upper_x0.other W4 (Or.inl ne_x0_a1)
  have E_x1 := E_x1.wr W4
  have F_bounded_x1 := F_bounded_x1.other W4 (Or.inl ne_x1_a1)
  have F_lower_x1 := F_lower_x1.other W4 (Or.inl ne_x1_a1)
  have F_upper_x1 := F_upper_x1.other W4 (Or.inl ne_x1_a1)
  have E_x2 := E_x2.wr W4
  have F_bounded_x2 := F_bounded_x2.other W4 (Or.inl ne_x2_a1)
  have F_lower_x2 := F_lower_x2.other W4 (Or.inl ne_x2_a1)
  have F_upper_x2 := F_upper_x2.other W4 (Or.inl ne_x2_a1)
  have V_b3 := V_b3.other W4 (Ne.symm ne_a1_b3)
  have E_b3 := E_b3.wr W4
  have K0_4 := K0_3.wr W4 (Or.inl (List.mem_of_getElem? (i := 0) rfl))
  have N4 := Fr.snoc X4 N0 g_a1
  generalize hlc4 : ([] ++ [(⟨a1, Jvm.RoadKit.slotOf Z "com/example/astraea/astraea/explicit/StateLayout" "word" "[I"⟩ : Loc)] : List Loc) = lc4 at X4 N4
  have Z4 : n0 ≤ h4.size := Nat.le_trans Z3 (Keep.of_wr W4).1
  refine own_st (T' := T4) (g' := (mkF m 18 #[.val (.ref a1), .val (.ref a2), .val (.int (3 : Int32)), .unset, .unset, .unset, .unset, .unset, .unset] [])) st4 ?_
  refine own_st (T' := T4) (g' := (mkF m 19 #[.val (.ref a1), .val (.ref a2), .val (.int (3 : Int32)), .unset, .unset, .unset, .unset, .unset, .unset] [(.ref a1)])) (fun t k => XS.aloadN X4.here hx rfl (hb hby own_d13_18) rfl rfl k) ?_
  refine own_st (T' := T4) (g' := (mkF m 20 #[.val (.ref a1), .val (.ref a2), .val (.int (3 : Int32)), .unset, .unset, .unset, .unset, .unset, .unset] [(.int (3 : Int32)), (.ref a1)])) (fun t k => XS.iloadN X4.here hx rfl (hb hby own_d13_19) rfl k) ?_
  obtain ⟨T5, h5, k5, X5, e5, E5, A5, Ex5, st5⟩ := newPE X4 hx hZ (aty := .int) (hw _ (List.mem_of_getElem? (i := 115) rfl)) e4 (g := (mkF m 20 #[.val (.ref a1), .val (.ref a2), .val (.int (3 : Int32)), .unset, .unset, .unset, .unset, .unset, .unset] [(.int (3 : Int32)), (.ref a1)])) rfl (hb hby own_d13_20) rfl (by decide) (cap := 3) (by decide) (by decide) (by decide) (by decide) (ad := "[I") (by decide)
  obtain ⟨b5, gb5⟩ : ∃ z, z = h4.size := ⟨_, rfl⟩
  rw [← gb5] at A5 Ex5 st5
  have ne_a1_b5 : a1 ≠ b5 := by rw [gb5]; exact Nat.ne_of_lt E_a1.lt
  have ne_a2_b5 : a2 ≠ b5 := by rw [gb5]; exact Nat.ne_of_lt E_a2.lt
  have ne_ar_b5 : ar ≠ b5 := by rw [gb5]; exact Nat.ne_of_lt V_ar.lt
  have ne_x0_b5 : x0 ≠ b5 := by rw [gb5]; exact Nat.ne_of_lt E_x0.lt
  have ne_x1_b5 : x1 ≠ b5 := by rw [gb5]; exact Nat.ne_of_lt E_x1.lt
  have ne_x2_b5 : x2 ≠ b5 := by rw [gb5]; exact Nat.ne_of_lt E_x2.lt
  have ne_b3_b5 : b3 ≠ b5 := by rw [gb5]; exact Nat.ne_of_lt V_b3.lt
  have g_b5 : n0 ≤ b5 := Nat.le_trans Z4 (Nat.le_of_eq gb5.symm)
  have Z5 : n0 ≤ h5.size := Nat.le_trans Z4 E5.1
  have sz_b5 : h0.size ≤ b5 := Nat.le_trans K0_4.1 (Nat.le_of_eq gb5.symm)
  have K0_5 := K0_4.ext E5
  have E_a1 := E_a1.ext E5
  have F_words_a1 := F_words_a1.ext E5
  have F_word_a1 := F_word_a1.ext E5
  have F_shift_a1 := F_shift_a1.ext E5
  have F_mask_a1 := F_mask_a1.ext E5
  have F_lower_a1 := F_lower_a1.ext E5
  have E_a2 := E_a2.ext E5
  have F_size_a2 := F_size_a2.ext E5
  have F_elementData_a2 := F_elementData_a2.ext E5
  have V_ar := V_ar.ext E5
  have E_x0 := E_x0.ext E5
  have F_bounded_x0 := F_bounded_x0.ext E5
  have F_lower_x0 := F_lower_x0.ext E5
  have F_upper_x0 := F_upper_x0.ext E5
  have E_x1 := E_x1.ext E5
  have F_bounded_x1 := F_bounded_x1.ext E5
  have F_lower_x1 := F_lower_x1.ext E5
  have F_upper_x1 := F_upper_x1.ext E5
  have E_x2 := E_x2.ext E5
  have F_bounded_x2 := F_bounded_x2.ext E5
  have F_lower_x2 := F_lower_x2.ext E5
  have F_upper_x2 := F_upper_x2.ext E5
  have V_b3 := V_b3.ext E5
  have E_b3 := E_b3.ext E5
  have V_b5 : Arv Z h5 b5 k5 .int (3 : Int32) [(.int (0 : Int32)), (.int (0 : Int32)), (.int (0 : Int32))] (.int (0 : Int32)) := (Arv.new A5 (by decide)).pad (pad_rep [] (.int (0 : Int32)) 3)
  have E_b5 := Ex5
  have X5 : Stand p l e ({ frames := 3, cells := 4, slots := 12, locals := 60 } : Room) s m #[(.ref a1), (.ref a2)] below meth c T5 lc4 2 6 := X5
  refine own_st (T' := T5) (g' := (mkF m 22 #[.val (.ref a1), .val (.ref a2), .val (.int (3 : Int32)), .unset, .unset, .unset, .unset, .unset, .unset] [(.ref b5), (.ref a1)])) st5 ?_
  obtain ⟨T6, h6, X6, e6, W6, st6⟩ := putF X5 hx hZ hown (host := "") (Or.inl (hw _ (List.mem_of_getElem? (i := 118) rfl))) Via.refl e5 F_shift_a1 E_a1 (Or.inr ⟨(hw _ (List.mem_of_getElem? (i := 119) rfl)), rfl, hnm⟩) (hw _ (List.mem_of_getElem? (i := 100) rfl)) (ty := (.array .int)) (by decide) rfl rfl (g := (mkF m 22 #[.val (.ref a1), .val (.ref a2), .val (.int (3 : Int32)), .unset, .unset, .unset, .unset, .unset, .unset] [(.ref b5), (.ref a1)])) rfl rfl (hb hby own_d13_22)
  have E_a1 := E_a1.wr W6
  have F_words_a1 := F_words_a1.other W6 (Or.inr (slot_ne (Or.inr (hw _ (List.mem_of_getElem? (i := 177) rfl))) (Or.inr (hw _ (List.mem_of_getElem? (i := 119) rfl))) (by decide) (t := .int) (t' := (.array .int)) (by decide) (by decide)))
  have F_word_a1 := F_word_a1.other W6 (Or.inr (slot_ne (Or.inr (hw _ (List.mem_of_getElem? (i := 117) rfl))) (Or.inr (hw _ (List.mem_of_getElem? (i := 119) rfl))) (by decide) (t := (.array .int)) (t' := (.array .int)) (by decide) (by decide)))
  have F_shift_a1 := F_shift_a1.same W6
  have F_mask_a1 := F_mask_a1.other W6 (Or.inr (slot_ne (Or.inr (hw _ (List.mem_of_getElem? (i := 122) rfl))) (Or.inr (hw _ (List.mem_of_getElem? (i := 119) rfl))) (by decide) (t := (.array .long)) (t' := (.array .int)) (by decide) (by decide)))
  have F_lower_a1 := F_lower_a1.other W6 (Or.inr (slot_ne (Or.inr (hw _ (List.mem_of_getElem? (i := 124) rfl))) (Or.inr (hw _ (List.mem_of_getElem? (i := 119) rfl))) (by decide) (t := (.array .long)) (t' := (.array .int)) (by decide) (by decide)))
  have E_a2 := E_a2.wr W6
  have F_size_a2 := F_size_a2.other W6 (Or.inl ne_a2_a1)
  have F_elementData_a2 := F_elementData_a2.other W6 (Or.inl ne_a2_a1)
  have V_ar := V_ar.other W6 ne_ar_a1
  have E_x0 := E_x0.wr W6
  have F_bounded_x0 := F_bounded_x0.other W6 (Or.inl ne_x0_a1)
  have F_lower_x0 := F_lower_x0.other W6 (Or.inl ne_x0_a1)
  have F_upper_x0 := F_upper_x0.other W6 (Or.inl ne_x0_a1)
  have E_x1 := E_x1.wr W6
  have F_bounded_x1 := F_bounded_x1.other W6 (Or.inl ne_x1_a1)
  have F_lower_x1 := F_lower_x1.other W6 (Or.inl ne_x1_a1)
  have F_upper_x1 := F_upper_x1.other W6 (Or.inl ne_x1_a1)
  have E_x2 := E_x2.wr W6
  have F_bounded_x2 := F_bounded_x2.other W6 (Or.inl ne_x2_a1)
  have F_lower_x2 := F_lower_x2.other W6 (Or.inl ne_x2_a1)
  have F_upper_x2 := F_upper_x2.other W6 (Or.inl ne_x2_a1)
  have V_b3 := V_b3.other W6 (Ne.symm ne_a1_b3)
  have E_b3 := E_b3.wr W6
  have V_b5 := V_b5.other W6 (Ne.symm ne_a1_b5)
  have E_b5 := E_b5.wr W6
  have K0_6 := K0_5.wr W6 (Or.inl (List.mem_of_getElem? (i := 0) rfl))
  have N6 := Fr.snoc X6 N4 g_a1
  generalize hlc6 : (lc4 ++ [(⟨a1, Jvm.RoadKit.slotOf Z "com/example/astraea/astraea/explicit/StateLayout" "shift" "[I"⟩ : Loc)] : List Loc) = lc6 at X6 N6
  have Z6 : n0 ≤ h6.size := Nat.le_trans Z5 (Keep.of_wr W6).1
  refine own_st (T' := T6) (g' := (mkF m 25 #[.val (.ref a1), .val (.ref a2), .val (.int (3 : Int32)), .unset, .unset, .unset, .unset, .unset, .unset] [])) st6 ?_
  refine own_st (T' := T6) (g' := (mkF m 26 #[.val (.ref a1), .val (.ref a2), .val (.int (3 : Int32)), .unset, .unset, .unset, .unset, .unset, .unset] [(.ref a1)])) (fun t k => XS.aloadN X6.here hx rfl (hb hby own_d13_25) rfl rfl k) ?_
  refine own_st (T' := T6) (g' := (mkF m 27 #[.val (.ref a1), .val (.ref a2), .val (.int (3 : Int32)), .unset, .unset, .unset, .unset, .unset, .unset] [(.int (3 : Int32)), (.ref a1)])) (fun t k => XS.iloadN X6.here hx rfl (hb hby own_d13_26) rfl k) ?_
  obtain ⟨T7, h7, k7, X7, e7, E7, A7, Ex7, st7⟩ := newPE X6 hx hZ (aty := .long) (hw _ (List.mem_of_getElem? (i := 120) rfl)) e6 (g := (mkF m 27 #[.val (.ref a1), .val (.ref a2), .val (.int (3 : Int32)), .unset, .unset, .unset, .unset, .unset, .unset] [(.int (3 : Int32)), (.ref a1)])) rfl (hb hby own_d13_27) rfl (by decide) (cap := 3) (by decide) (by decide) (by decide) (by decide) (ad := "[J") (by decide)
  obtain ⟨b7, gb7⟩ : ∃ z, z = h6.size := ⟨_, rfl⟩
  rw [← gb7] at A7 Ex7 st7
  have ne_a1_b7 : a1 ≠ b7 := by rw [gb7]; exact Nat.ne_of_lt E_a1.lt
  have ne_a2_b7 : a2 ≠ b7 := by rw [gb7]; exact Nat.ne_of_lt E_a2.lt
  have ne_ar_b7 : ar ≠ b7 := by rw [gb7]; exact Nat.ne_of_lt V_ar.lt
  have ne_x0_b7 : x0 ≠ b7 := by rw [gb7]; exact Nat.ne_of_lt E_x0.lt
  have ne_x1_b7 : x1 ≠ b7 := by rw [gb7]; exact Nat.ne_of_lt E_x1.lt
  have ne_x2_b7 : x2 ≠ b7 := by rw [gb7]; exact Nat.ne_of_lt E_x2.lt
  have ne_b3_b7 : b3 ≠ b7 := by rw [gb7]; exact Nat.ne_of_lt V_b3.lt
  have ne_b5_b7 : b5 ≠ b7 := by rw [gb7]; exact Nat.ne_of_lt V_b5.lt
  have g_b7 : n0 ≤ b7 := Nat.le_trans Z6 (Nat.le_of_eq gb7.symm)
  have Z7 : n0 ≤ h7.size := Nat.le_trans Z6 E7.1
  have sz_b7 : h0.size ≤ b7 := Nat.le_trans K0_6.1 (Nat.le_of_eq gb7.symm)
  have K0_7 := K0_6.ext E7
  have E_a1 := E_a1.ext E7
  have F_words_a1 := F_words_a1.ext E7
  have F_word_a1 := F_word_a1.ext E7
  have F_shift_a1 := F_shift_a1.ext E7
  have F_mask_a1 := F_mask_a1.ext E7
  have F_lower_a1 := F_lower_a1.ext E7
  have E_a2 := E_a2.ext E7
  have F_size_a2 := F_size_a2.ext E7
  have F_elementData_a2 := F_elementData_a2.ext E7
  have V_ar := V_ar.ext E7
  have E_x0 := E_x0.ext E7
  have F_bounded_x0 := F_bounded_x0.ext E7
  have F_lower_x0 := F_lower_x0.ext E7
  have F_upper_x0 := F_upper_x0.ext E7
  have E_x1 := E_x1.ext E7
  have F_bounded_x1 := F_bounded_x1.ext E7
  have F_lower_x1 := F_lower_x1.ext E7
  have F_upper_x1 := F_upper_x1.ext E7
  have E_x2 := E_x2.ext E7
  have F_bounded_x2 := F_bounded_x2.ext E7
  have F_lower_x2 := F_lower_x2.ext E7
  have F_upper_x2 := F_upper_x2.ext E7
  have V_b3 := V_b3.ext E7
  have E_b3 := E_b3.ext E7
  have V_b5 := V_b5.ext E7
  have E_b5 := E_b5.ext E7
  have V_b7 : Arv Z h7 b7 k7 .long (3 : Int32) [(.long (0 : Int64)), (.long (0 : Int64)), (.long (0 : Int64))] (.long (0 : Int64)) := (Arv.new A7 (by decide)).pad (pad_rep [] (.long (0 : Int64)) 3)
  have E_b7 := Ex7
  have X7 : Stand p l e ({ frames := 3, cells := 4, slots := 12, locals := 60 } : Room) s m #[(.ref a1), (.ref a2)] below meth c T7 lc6 3 9 := X7
  refine own_st (T' := T7) (g' := (mkF m 29 #[.val (.ref a1), .val (.ref a2), .val (.int (3 : Int32)), .unset, .unset, .unset, .unset, .unset, .unset] [(.ref b7), (.ref a1)])) st7 ?_
  obtain ⟨T8, h8, X8, e8, W8, st8⟩ := putF X7 hx hZ hown (host := "") (Or.inl (hw _ (List.mem_of_getElem? (i := 121) rfl))) Via.refl e7 F_mask_a1 E_a1 (Or.inr ⟨(hw _ (List.mem_of_getElem? (i := 122) rfl)), rfl, hnm⟩) (hw _ (List.mem_of_getElem? (i := 100) rfl)) (ty := (.array .long)) (by decide) rfl rfl (g := (mkF m 29 #[.val (.ref a1), .val (.ref a2), .val (.int (3 : Int32)), .unset, .unset, .unset, .unset, .unset, .unset] [(.ref b7), (.ref a1)])) rfl rfl (hb hby own_d13_29)
  have E_a1 := E_a1.wr W8
  have F_words_a1 := F_words_a1.other W8 (Or.inr (slot_ne (Or.inr (hw _ (List.mem_of_getElem? (i := 177) rfl))) (Or.inr (hw _ (List.mem_of_getElem? (i := 122) rfl))) (by decide) (t := .int) (t' := (.array .long)) (by decide) (by decide)))
  have F_word_a1 := F_word_a1.other W8 (Or.inr (slot_ne (Or.inr (hw _ (List.mem_of_getElem? (i := 117) rfl))) (Or.inr (hw _ (List.mem_of_getElem? (i := 122) rfl))) (by decide) (t := (.array .int)) (t' := (.array .long)) (by decide) (by decide)))
  have F_shift_a1 := F_shift_a1.other W8 (Or.inr (slot_ne (Or.inr (hw _ (List.mem_of_getElem? (i := 119) rfl))) (Or.inr (hw _ (List.mem_of_getElem? (i := 122) rfl))) (by decide) (t := (.array .int)) (t' := (.array .long)) (by decide) (by decide)))
  have F_mask_a1 := F_mask_a1.same W8
  have F_lower_a1 := F_lower_a1.other W8 (Or.inr (slot_ne (Or.inr (hw _ (List.mem_of_getElem? (i := 124) rfl))) (Or.inr (hw _ (List.mem_of_getElem? (i := 122) rfl))) (by decide) (t := (.array .long)) (t' := (.array .long)) (by decide) (by decide)))
  have E_a2 := E_a2.wr W8
  have F_size_a2 := F_size_a2.other W8 (Or.inl ne_a2_a1)
  have F_elementData_a2 := F_elementData_a2.other W8 (Or.inl ne_a2_a1)
  have V_ar := V_ar.other W8 ne_ar_a1
  have E_x0 := E_x0.wr W8
  have F_bounded_x0 := F_bounded_x0.other W8 (Or.inl ne_x0_a1)
  have F_lower_x0 := F_lower_x0.other W8 (Or.inl ne_x0_a1)
  have F_upper_x0 := F_upper_x0.other W8 (Or.inl ne_x0_a1)
  have E_x1 := E_x1.wr W8
  have F_bounded_x1 := F_bounded_x1.other W8 (Or.inl ne_x1_a1)
  have F_lower_x1 := F_lower_x1.other W8 (Or.inl ne_x1_a1)
  have F_upper_x1 := F_upper_x1.other W8 (Or.inl ne_x1_a1)
  have E_x2 := E_x2.wr W8
  have F_bounded_x2 := F_bounded_x2.other W8 (Or.inl ne_x2_a1)
  have F_lower_x2 := F_lower_x2.other W8 (Or.inl ne_x2_a1)
  have F_upper_x2 := F_upper_x2.other W8 (Or.inl ne_x2_a1)
  have V_b3 := V_b3.other W8 (Ne.symm ne_a1_b3)
  have E_b3 := E_b3.wr W8
  have V_b5 := V_b5.other W8 (Ne.symm ne_a1_b5)
  have E_b5 := E_b5.wr W8
  have V_b7 := V_b7.other W8 (Ne.symm ne_a1_b7)
  have E_b7 := E_b7.wr W8
  have K0_8 := K0_7.wr W8 (Or.inl (List.mem_of_getElem? (i := 0) rfl))
  have N8 := Fr.snoc X8 N6 g_a1
  generalize hlc8 : (lc6 ++ [(⟨a1, Jvm.RoadKit.slotOf Z "com/example/astraea/astraea/explicit/StateLayout" "mask" "[J"⟩ : Loc)] : List Loc) = lc8 at X8 N8
  have Z8 : n0 ≤ h8.size := Nat.le_trans Z7 (Keep.of_wr W8).1
  refine own_st (T' := T8) (g' := (mkF m 32 #[.val (.ref a1), .val (.ref a2), .val (.int (3 : Int32)), .unset, .unset, .unset, .unset, .unset, .unset] [])) st8 ?_
  refine own_st (T' := T8) (g' := (mkF m 33 #[.val (.ref a1), .val (.ref a2), .val (.int (3 : Int32)), .unset, .unset, .unset, .unset, .unset, .unset] [(.ref a1)])) (fun t k => XS.aloadN X8.here hx rfl (hb hby own_d13_32) rfl rfl k) ?_
  refine own_st (T' := T8) (g' := (mkF m 34 #[.val (.ref a1), .val (.ref a2), .val (.int (3 : Int32)), .unset, .unset, .unset, .unset, .unset, .unset] [(.int (3 : Int32)), (.ref a1)])) (fun t k => XS.iloadN X8.here hx rfl (hb hby own_d13_33) rfl k) ?_
  obtain ⟨T9, h9, k9, X9, e9, E9, A9, Ex9, st9⟩ := newPE X8 hx hZ (aty := .long) (hw _ (List.mem_of_getElem? (i := 120) rfl)) e8 (g := (mkF m 34 #[.val (.ref a1), .val (.ref a2), .val (.int (3 : Int32)), .unset, .unset, .unset, .unset, .unset, .unset] [(.int (3 : Int32)), (.ref a1)])) rfl (hb hby own_d13_34) rfl (by decide) (cap := 3) (by decide) (by decide) (by decide) (by decide) (ad := "[J") (by decide)
  obtain ⟨b9, gb9⟩ : ∃ z, z = h8.size := ⟨_, rfl⟩
  rw [← gb9] at A9 Ex9 st9
  have ne_a1_b9 : a1 ≠ b9 := by rw [gb9]; exact Nat.ne_of_lt E_a1.lt
  have ne_a2_b9 : a2 ≠ b9 := by rw [gb9]; exact Nat.ne_of_lt E_a2.lt
  have ne_ar_b9 : ar ≠ b9 := by rw [gb9]; exact Nat.ne_of_lt V_ar.lt
  have ne_x0_b9 : x0 ≠ b9 := by rw [gb9]; exact Nat.ne_of_lt E_x0.lt
  have ne_x1_b9 : x1 ≠ b9 := by rw [gb9]; exact Nat.ne_of_lt E_x1.lt
  have ne_x2_b9 : x2 ≠ b9 := by rw [gb9]; exact Nat.ne_of_lt E_x2.lt
  have ne_b3_b9 : b3 ≠ b9 := by rw [gb9]; exact Nat.ne_of_lt V_b3.lt
  have ne_b5_b9 : b5 ≠ b9 := by rw [gb9]; exact Nat.ne_of_lt V_b5.lt
  have ne_b7_b9 : b7 ≠ b9 := by rw [gb9]; exact Nat.ne_of_lt V_b7.lt
  have g_b9 : n0 ≤ b9 := Nat.le_trans Z8 (Nat.le_of_eq gb9.symm)
  have Z9 : n0 ≤ h9.size := Nat.le_trans Z8 E9.1
  have sz_b9 : h0.size ≤ b9 := Nat.le_trans K0_8.1 (Nat.le_of_eq gb9.symm)
  have K0_9 := K0_8.ext E9
  have E_a1 := E_a1.ext E9
  have F_words_a1 := F_words_a1.ext E9
  have F_word_a1 := F_word_a1.ext E9
  have F_shift_a1 := F_shift_a1.ext E9
  have F_mask_a1 := F_mask_a1.ext E9
  have F_lower_a1 := F_lower_a1.ext E9
  have E_a2 := E_a2.ext E9
  have F_size_a2 := F_size_a2.ext E9
  have F_elementData_a2 := F_elementData_a2.ext E9
  have V_ar := V_ar.ext E9
  have E_x0 := E_x0.ext E9
  have F_bounded_x0 := F_bounded_x0.ext E9
  have F_lower_x0 := F_lower_x0.ext E9
  have F_upper_x0 := F_upper_x0.ext E9
  have E_x1 := E_x1.ext E9
  have F_bounded_x1 := F_bounded_x1.ext E9
  have F_lower_x1 := F_lower_x1.ext E9
  have F_upper_x1 := F_upper_x1.ext E9
  have E_x2 := E_x2.ext E9
  have F_bounded_x2 := F_bounded_x2.ext E9
  have F_lower_x2 := F_lower_x2.ext E9
  have F_upper_x2 := F_upper_x2.ext E9
  have V_b3 := V_b3.ext E9
  have E_b3 := E_b3.ext E9
  have V_b5 := V_b5.ext E9
  have E_b5 := E_b5.ext E9
  have V_b7 := V_b7.ext E9
  have E_b7 := E_b7.ext E9
  have V_b9 : Arv Z h9 b9 k9 .long (3 : Int32) [(.long (0 : Int64)), (.long (0 : Int64)), (.long (0 : Int64))] (.long (0 : Int64)) := (Arv.new A9 (by decide)).pad (pad_rep [] (.long (0 : Int64)) 3)
  have E_b9 := Ex9
  have X9 : Stand p l e ({ frames := 3, cells := 4, slots := 12, locals := 60 } : Room) s m #[(.ref a1), (.ref a2)] below meth c T9 lc8 4 12 := X9
  refine own_st (T' := T9) (g' := (mkF m 36 #[.val (.ref a1), .val (.ref a2), .val (.int (3 : Int32)), .unset, .unset, .unset, .unset, .unset, .unset] [(.ref b9), (.ref a1)])) st9 ?_
  obtain ⟨T10, h10, X10, e10, W10, st10⟩ := putF X9 hx hZ hown (host := "") (Or.inl (hw _ (List.mem_of_getElem? (i := 123) rfl))) Via.refl e9 F_lower_a1 E_a1 (Or.inr ⟨(hw _ (List.mem_of_getElem? (i := 124) rfl)), rfl, hnm⟩) (hw _ (List.mem_of_getElem? (i := 100) rfl)) (ty := (.array .long)) (by decide) rfl rfl (g := (mkF m 36 #[.val (.ref a1), .val (.ref a2), .val (.int (3 : Int32)), .unset, .unset, .unset, .unset, .unset, .unset] [(.ref b9), (.ref a1)])) rfl rfl (hb hby own_d13_36)
  have E_a1 := E_a1.wr W10
  have F_words_a1 := F_words_a1.other W10 (Or.inr (slot_ne (Or.inr (hw _ (List.mem_of_getElem? (i := 177) rfl))) (Or.inr (hw _ (List.mem_of_getElem? (i := 124) rfl))) (by decide) (t := .int) (t' := (.array .long)) (by decide) (by decide)))
  have F_word_a1 := F_word_a1.other W10 (Or.inr (slot_ne (Or.inr (hw _ (List.mem_of_getElem? (i := 117) rfl))) (Or.inr (hw _ (List.mem_of_getElem? (i := 124) rfl))) (by decide) (t := (.array .int)) (t' := (.array .long)) (by decide) (by decide)))
  have F_shift_a1 := F_shift_a1.other W10 (Or.inr (slot_ne (Or.inr (hw _ (List.mem_of_getElem? (i := 119) rfl))) (Or.inr (hw _ (List.mem_of_getElem? (i := 124) rfl))) (by decide) (t := (.array .int)) (t' := (.array .long)) (by decide) (by decide)))
  have F_mask_a1 := F_mask_a1.other W10 (Or.inr (slot_ne (Or.inr (hw _ (List.mem_of_getElem? (i := 122) rfl))) (Or.inr (hw _ (List.mem_of_getElem? (i := 124) rfl))) (by decide) (t := (.array .long)) (t' := (.array .long)) (by decide) (by decide)))
  have F_lower_a1 := F_lower_a1.same W10
  have E_a2 := E_a2.wr W10
  have F_size_a2 := F_size_a2.other W10 (Or.inl ne_a2_a1)
  have F_elementData_a2 := F_elementData_a2.other W10 (Or.inl ne_a2_a1)
  have V_ar := V_ar.other W10 ne_ar_a1
  have E_x0 := E_x0.wr W10
  have F_bounded_x0 := F_bounded_x0.other W10 (Or.inl ne_x0_a1)
  have F_lower_x0 := F_lower_x0.other W10 (Or.inl ne_x0_a1)
  have F_upper_x0 := F_upper_x0.other W10 (Or.inl ne_x0_a1)
  have E_x1 := E_x1.wr W10
  have F_bounded_x1 := F_bounded_x1.other W10 (Or.inl ne_x1_a1)
  have F_lower_x1 := F_lower_x1.other W10 (Or.inl ne_x1_a1)
  have F_upper_x1 := F_upper_x1.other W10 (Or.inl ne_x1_a1)
  have E_x2 := E_x2.wr W10
  have F_bounded_x2 := F_bounded_x2.other W10 (Or.inl ne_x2_a1)
  have F_lower_x2 := F_lower_x2.other W10 (Or.inl ne_x2_a1)
  have F_upper_x2 := F_upper_x2.other W10 (Or.inl ne_x2_a1)
  have V_b3 := V_b3.other W10 (Ne.symm ne_a1_b3)
  have E_b3 := E_b3.wr W10
  have V_b5 := V_b5.other W10 (Ne.symm ne_a1_b5)
  have E_b5 := E_b5.wr W10
  have V_b7 := V_b7.other W10 (Ne.symm ne_a1_b7)
  have E_b7 := E_b7.wr W10
  have V_b9 := V_b9.other W10 (Ne.symm ne_a1_b9)
  have E_b9 := E_b9.wr W10
  have K0_10 := K0_9.wr W10 (Or.inl (List.mem_of_getElem? (i := 0) rfl))
  have N10 := Fr.snoc X10 N8 g_a1
  generalize hlc10 : (lc8 ++ [(⟨a1, Jvm.RoadKit.slotOf Z "com/example/astraea/astraea/explicit/StateLayout" "lower" "[J"⟩ : Loc)] : List Loc) = lc10 at X10 N10
  have Z10 : n0 ≤ h10.size := Nat.le_trans Z9 (Keep.of_wr W10).1
  refine own_st (T' := T10) (g' := (mkF m 39 #[.val (.ref a1), .val (.ref a2), .val (.int (3 : Int32)), .unset, .unset, .unset, .unset, .unset, .unset] [])) st10 ?_
  refine own_st (T' := T10) (g' := (mkF m 40 #[.val (.ref a1), .val (.ref a2), .val (.int (3 : Int32)), .unset, .unset, .unset, .unset, .unset, .unset] [(.int (0 : Int32))])) (fun t k => XS.iconst X10.here hx rfl (hb hby own_d13_39) k) ?_
  refine own_st (T' := T10) (g' := (mkF m 41 #[.val (.ref a1), .val (.ref a2), .val (.int (3 : Int32)), .val (.int (0 : Int32)), .unset, .unset, .unset, .unset, .unset] [])) (fun t k => XS.istoreN X10.here hx rfl (hb hby own_d13_40) rfl (l' := #[.val (.ref a1), .val (.ref a2), .val (.int (3 : Int32)), .val (.int (0 : Int32)), .unset, .unset, .unset, .unset, .unset]) rfl k) ?_
  refine own_st (T' := T10) (g' := (mkF m 42 #[.val (.ref a1), .val (.ref a2), .val (.int (3 : Int32)), .val (.int (0 : Int32)), .unset, .unset, .unset, .unset, .unset] [(.int (-1 : Int32))])) (fun t k => XS.iconst X10.here hx rfl (hb hby own_d13_41) k) ?_
  refine own_st (T' := T10) (g' := (mkF m 44 #[.val (.ref a1), .val (.ref a2), .val (.int (3 : Int32)), .val (.int (0 : Int32)), .val (.int (-1 : Int32)), .unset, .unset, .unset, .unset] [])) (fun t k => XS.istore X10.here hx rfl (hb hby own_d13_42) rfl (l' := #[.val (.ref a1), .val (.ref a2), .val (.int (3 : Int32)), .val (.int (0 : Int32)), .val (.int (-1 : Int32)), .unset, .unset, .unset, .unset]) rfl k) ?_
  refine own_st (T' := T10) (g' := (mkF m 46 #[.val (.ref a1), .val (.ref a2), .val (.int (3 : Int32)), .val (.int (0 : Int32)), .val (.int (-1 : Int32)), .unset, .unset, .unset, .unset] [(.int (64 : Int32))])) (fun t k => XS.bipush X10.here hx rfl (hb hby own_d13_44) k) ?_
  refine own_st (T' := T10) (g' := (mkF m 48 #[.val (.ref a1), .val (.ref a2), .val (.int (3 : Int32)), .val (.int (0 : Int32)), .val (.int (-1 : Int32)), .val (.int (64 : Int32)), .unset, .unset, .unset] [])) (fun t k => XS.istore X10.here hx rfl (hb hby own_d13_46) rfl (l' := #[.val (.ref a1), .val (.ref a2), .val (.int (3 : Int32)), .val (.int (0 : Int32)), .val (.int (-1 : Int32)), .val (.int (64 : Int32)), .unset, .unset, .unset]) rfl k) ?_
  refine own_st (T' := T10) (g' := (mkF m 49 #[.val (.ref a1), .val (.ref a2), .val (.int (3 : Int32)), .val (.int (0 : Int32)), .val (.int (-1 : Int32)), .val (.int (64 : Int32)), .unset, .unset, .unset] [(.int (0 : Int32))])) (fun t k => XS.iconst X10.here hx rfl (hb hby own_d13_48) k) ?_
  refine own_st (T' := T10) (g' := (mkF m 51 #[.val (.ref a1), .val (.ref a2), .val (.int (3 : Int32)), .val (.int (0 : Int32)), .val (.int (-1 : Int32)), .val (.int (64 : Int32)), .val (.int (0 : Int32)), .unset, .unset] [])) (fun t k => XS.istore X10.here hx rfl (hb hby own_d13_49) rfl (l' := #[.val (.ref a1), .val (.ref a2), .val (.int (3 : Int32)), .val (.int (0 : Int32)), .val (.int (-1 : Int32)), .val (.int (64 : Int32)), .val (.int (0 : Int32)), .unset, .unset]) rfl k) ?_
  refine own_st (T' := T10) (g' := (mkF m 53 #[.val (.ref a1), .val (.ref a2), .val (.int (3 : Int32)), .val (.int (0 : Int32)), .val (.int (-1 : Int32)), .val (.int (64 : Int32)), .val (.int (0 : Int32)), .unset, .unset] [(.int (0 : Int32))])) (fun t k => XS.iload X10.here hx rfl (hb hby own_d13_51) rfl k) ?_
  refine own_st (T' := T10) (g' := (mkF m 54 #[.val (.ref a1), .val (.ref a2), .val (.int (3 : Int32)), .val (.int (0 : Int32)), .val (.int (-1 : Int32)), .val (.int (64 : Int32)), .val (.int (0 : Int32)), .unset, .unset] [(.int (3 : Int32)), (.int (0 : Int32))])) (fun t k => XS.iloadN X10.here hx rfl (hb hby own_d13_53) rfl k) ?_
  refine own_st (T' := T10) (g' := (mkF m 57 #[.val (.ref a1), .val (.ref a2), .val (.int (3 : Int32)), .val (.int (0 : Int32)), .val (.int (-1 : Int32)), .val (.int (64 : Int32)), .val (.int (0 : Int32)), .unset, .unset] [])) (fun t k => XS.icmpNo X10.here hx rfl (hb hby own_d13_54) rfl (tlt (by decide)).2.1 k) ?_
  refine own_st (T' := T10) (g' := (mkF m 58 #[.val (.ref a1), .val (.ref a2), .val (.int (3 : Int32)), .val (.int (0 : Int32)), .val (.int (-1 : Int32)), .val (.int (64 : Int32)), .val (.int (0 : Int32)), .unset, .unset] [(.ref a2)])) (fun t k => XS.aloadN X10.here hx rfl (hb hby own_d13_57) rfl rfl k) ?_
  refine own_st (T' := T10) (g' := (mkF m 60 #[.val (.ref a1), .val (.ref a2), .val (.int (3 : Int32)), .val (.int (0 : Int32)), .val (.int (-1 : Int32)), .val (.int (64 : Int32)), .val (.int (0 : Int32)), .unset, .unset] [(.int (0 : Int32)), (.ref a2)])) (fun t k => XS.iload X10.here hx rfl (hb hby own_d13_58) rfl k) ?_
  obtain ⟨_, T11, L11, hQ11, X11, st11⟩ := own_callF (y := (⟨"java/util/List", "get", "(I)Ljava/lang/Object;"⟩ : MethodName)) (z := (⟨"java/util/ArrayList", "get", "(I)Ljava/lang/Object;"⟩ : MethodName)) (argsL := [(.int (0 : Int32))]) 0 [] (K := "java/util/ArrayList") (own_rm15n0 l Z a0 hw h10 n0 Z10 a2 ar x0 x1 x2 ka E_a2 F_size_a2 F_elementData_a2 V_ar) X10 hx hZ hown (hw _ (List.mem_of_getElem? (i := 125) rfl)) (hw _ (List.mem_of_getElem? (i := 126) rfl)) (mvT hZ (hw _ (List.mem_of_getElem? (i := 127) rfl))) (hw _ (List.mem_of_getElem? (i := 128) rfl)) (hw _ (List.mem_of_getElem? (i := 129) rfl)) (hw _ (List.mem_of_getElem? (i := 130) rfl)) (hw _ (List.mem_of_getElem? (i := 131) rfl)) (hw _ (List.mem_of_getElem? (i := 113) rfl)) (hw _ (List.mem_of_getElem? (i := 132) rfl)) (hw _ (List.mem_of_getElem? (i := 7) rfl)) (by decide) (by decide) (by decide) (by decide) (by decide) e10 E_a2 (g := (mkF m 60 #[.val (.ref a1), .val (.ref a2), .val (.int (3 : Int32)), .val (.int (0 : Int32)), .val (.int (-1 : Int32)), .val (.int (64 : Int32)), .val (.int (0 : Int32)), .unset, .unset] [(.int (0 : Int32)), (.ref a2)])) rfl (by rw [hml]; rfl) (lenOf own_pd6 rfl) rfl (by show 2 * 0 + _ ≤ _; exact Nat.le_of_eq rfl) (hb hby own_d13_60)
  obtain ⟨rfl, e11, rfl⟩ := hQ11
  have X11 : Stand p l e ({ frames := 3, cells := 4, slots := 12, locals := 60 } : Room) s m #[(.ref a1), (.ref a2)] below meth c T11 lc10 4 12 := by have := X11; rwa [List.append_nil] at this
  refine own_st (T' := T11) (g' := (mkF m 65 #[.val (.ref a1), .val (.ref a2), .val (.int (3 : Int32)), .val (.int (0 : Int32)), .val (.int (-1 : Int32)), .val (.int (64 : Int32)), .val (.int (0 : Int32)), .unset, .unset] [(.ref x0)])) st11 ?_
  obtain ⟨T12, X12, e12, st12⟩ := castY X11 hx hZ hown (hw _ (List.mem_of_getElem? (i := 146) rfl)) e11 (Ins.self E_x0) (g := (mkF m 65 #[.val (.ref a1), .val (.ref a2), .val (.int (3 : Int32)), .val (.int (0 : Int32)), .val (.int (-1 : Int32)), .val (.int (64 : Int32)), .val (.int (0 : Int32)), .unset, .unset] [(.ref x0)])) rfl rfl (hb hby own_d13_65)
  refine own_st (T' := T12) (g' := (mkF m 68 #[.val (.ref a1), .val (.ref a2), .val (.int (3 : Int32)), .val (.int (0 : Int32)), .val (.int (-1 : Int32)), .val (.int (64 : Int32)), .val (.int (0 : Int32)), .unset, .unset] [(.ref x0)])) st12 ?_
  refine own_st (T' := T12) (g' := (mkF m 70 #[.val (.ref a1), .val (.ref a2), .val (.int (3 : Int32)), .val (.int (0 : Int32)), .val (.int (-1 : Int32)), .val (.int (64 : Int32)), .val (.int (0 : Int32)), .val (.ref x0), .unset] [])) (fun t k => XS.astore X12.here hx rfl (hb hby own_d13_68) rfl rfl (l' := #[.val (.ref a1), .val (.ref a2), .val (.int (3 : Int32)), .val (.int (0 : Int32)), .val (.int (-1 : Int32)), .val (.int (64 : Int32)), .val (.int (0 : Int32)), .val (.ref x0), .unset]) rfl k) ?_
  refine own_st (T' := T12) (g' := (mkF m 72 #[.val (.ref a1), .val (.ref a2), .val (.int (3 : Int32)), .val (.int (0 : Int32)), .val (.int (-1 : Int32)), .val (.int (64 : Int32)), .val (.int (0 : Int32)), .val (.ref x0), .unset] [(.ref x0)])) (fun t k => XS.aload X12.here hx rfl (hb hby own_d13_70) rfl rfl k) ?_
  obtain ⟨_, T13, L13, hQ13, X13, st13⟩ := own_callS (y := (⟨"com/example/astraea/astraea/explicit/StateLayout", "bitsFor", "(Lcom/example/astraea/astraea/lang/Variable;)I"⟩ : MethodName)) (argsL := [(.ref x0)]) 0 [] (own_rm19 l Z a0 hw h10 n0 Z10 x0 z0 lo0 up0 hz0 E_x0 F_bounded_x0 F_lower_x0 F_upper_x0 b0 hb0) X12 hx hZ hown (hw _ (List.mem_of_getElem? (i := 148) rfl)) (hw _ (List.mem_of_getElem? (i := 149) rfl)) (hw _ (List.mem_of_getElem? (i := 101) rfl)) (hw _ (List.mem_of_getElem? (i := 150) rfl)) (by decide) (by decide) (by decide) (by decide) (by decide) e12 (g := (mkF m 72 #[.val (.ref a1), .val (.ref a2), .val (.int (3 : Int32)), .val (.int (0 : Int32)), .val (.int (-1 : Int32)), .val (.int (64 : Int32)), .val (.int (0 : Int32)), .val (.ref x0), .unset] [(.ref x0)])) rfl (by rw [hml]; rfl) (lenOf own_pd12 rfl) rfl (by show 2 * 0 + _ ≤ _; exact Nat.le_of_eq rfl) (hb hby own_d13_72)
  obtain ⟨rfl, e13, rfl⟩ := hQ13
  have X13 : Stand p l e ({ frames := 3, cells := 4, slots := 12, locals := 60 } : Room) s m #[(.ref a1), (.ref a2)] below meth c T13 lc10 4 12 := by have := X13; rwa [List.append_nil] at this
  refine own_st (T' := T13) (g' := (mkF m 75 #[.val (.ref a1), .val (.ref a2), .val (.int (3 : Int32)), .val (.int (0 : Int32)), .val (.int (-1 : Int32)), .val (.int (64 : Int32)), .val (.int (0 : Int32)), .val (.ref x0), .unset] [(.int b0)])) st13 ?_
  refine own_st (T' := T13) (g' := (mkF m 77 #[.val (.ref a1), .val (.ref a2), .val (.int (3 : Int32)), .val (.int (0 : Int32)), .val (.int (-1 : Int32)), .val (.int (64 : Int32)), .val (.int (0 : Int32)), .val (.ref x0), .val (.int b0)] [])) (fun t k => XS.istore X13.here hx rfl (hb hby own_d13_75) rfl (l' := #[.val (.ref a1), .val (.ref a2), .val (.int (3 : Int32)), .val (.int (0 : Int32)), .val (.int (-1 : Int32)), .val (.int (64 : Int32)), .val (.int (0 : Int32)), .val (.ref x0), .val (.int b0)]) rfl k) ?_
  refine own_st (T' := T13) (g' := (mkF m 79 #[.val (.ref a1), .val (.ref a2), .val (.int (3 : Int32)), .val (.int (0 : Int32)), .val (.int (-1 : Int32)), .val (.int (64 : Int32)), .val (.int (0 : Int32)), .val (.ref x0), .val (.int b0)] [(.int b0)])) (fun t k => XS.iload X13.here hx rfl (hb hby own_d13_77) rfl k) ?_
  refine own_st (T' := T13) (g' := (mkF m 81 #[.val (.ref a1), .val (.ref a2), .val (.int (3 : Int32)), .val (.int (0 : Int32)), .val (.int (-1 : Int32)), .val (.int (64 : Int32)), .val (.int (0 : Int32)), .val (.ref x0), .val (.int b0)] [(.int (64 : Int32)), (.int b0)])) (fun t k => XS.bipush X13.here hx rfl (hb hby own_d13_79) k) ?_
  have hk14 : ¬ (b0 = (64 : Int32)) := h64_0
  refine own_st (T' := T13) (g' := (mkF m 108 #[.val (.ref a1), .val (.ref a2), .val (.int (3 : Int32)), .val (.int (0 : Int32)), .val (.int (-1 : Int32)), .val (.int (64 : Int32)), .val (.int (0 : Int32)), .val (.ref x0), .val (.int b0)] [])) (fun t k => XS.icmpYes X13.here hx rfl (pc0 := 81) (pc' := 108) rfl (hb hby own_d13_81) rfl (feq hk14).2 (by decide) (by decide) k) ?_
  refine own_st (T' := T13) (g' := (mkF m 110 #[.val (.ref a1), .val (.ref a2), .val (.int (3 : Int32)), .val (.int (0 : Int32)), .val (.int (-1 : Int32)), .val (.int (64 : Int32)), .val (.int (0 : Int32)), .val (.ref x0), .val (.int b0)] [(.int (64 : Int32))])) (fun t k => XS.iload X13.here hx rfl (hb hby own_d13_108) rfl k) ?_
  refine own_st (T' := T13) (g' := (mkF m 112 #[.val (.ref a1), .val (.ref a2), .val (.int (3 : Int32)), .val (.int (0 : Int32)), .val (.int (-1 : Int32)), .val (.int (64 : Int32)), .val (.int (0 : Int32)), .val (.ref x0), .val (.int b0)] [(.int b0), (.int (64 : Int32))])) (fun t k => XS.iload X13.here hx rfl (hb hby own_d13_110) rfl k) ?_
  refine own_st (T' := T13) (g' := (mkF m 113 #[.val (.ref a1), .val (.ref a2), .val (.int (3 : Int32)), .val (.int (0 : Int32)), .val (.int (-1 : Int32)), .val (.int (64 : Int32)), .val (.int (0 : Int32)), .val (.ref x0), .val (.int b0)] [(.int ((64 : Int32) + b0))])) (fun t k => XS.iadd X13.here hx rfl (hb hby own_d13_112) rfl k) ?_
  refine own_st (T' := T13) (g' := (mkF m 115 #[.val (.ref a1), .val (.ref a2), .val (.int (3 : Int32)), .val (.int (0 : Int32)), .val (.int (-1 : Int32)), .val (.int (64 : Int32)), .val (.int (0 : Int32)), .val (.ref x0), .val (.int b0)] [(.int (64 : Int32)), (.int ((64 : Int32) + b0))])) (fun t k => XS.bipush X13.here hx rfl (hb hby own_d13_113) k) ?_
  have hk15 : (64 : Int32) < ((64 : Int32) + b0) := own_64 hr0
  refine own_st (T' := T13) (g' := (mkF m 118 #[.val (.ref a1), .val (.ref a2), .val (.int (3 : Int32)), .val (.int (0 : Int32)), .val (.int (-1 : Int32)), .val (.int (64 : Int32)), .val (.int (0 : Int32)), .val (.ref x0), .val (.int b0)] [])) (fun t k => XS.icmpNo X13.here hx rfl (hb hby own_d13_115) rfl (tlt hk15).2.2.2 k) ?_
  refine own_st (T' := T13) (g' := (mkF m 119 #[.val (.ref a1), .val (.ref a2), .val (.int (3 : Int32)), .val (.int (0 : Int32)), .val (.int (-1 : Int32)), .val (.int (64 : Int32)), .val (.int (0 : Int32)), .val (.ref x0), .val (.int b0)] [(.int (0 : Int32))])) (fun t k => XS.iloadN X13.here hx rfl (hb hby own_d13_118) rfl k) ?_
  refine own_st (T' := T13) (g' := (mkF m 122 #[.val (.ref a1), .val (.ref a2), .val (.int (3 : Int32)), .val (.int (1 : Int32)), .val (.int (-1 : Int32)), .val (.int (64 : Int32)), .val (.int (0 : Int32)), .val (.ref x0), .val (.int b0)] [(.int (0 : Int32))])) (fun t k => XS.iinc X13.here hx rfl (hb hby own_d13_119) rfl (l' := #[.val (.ref a1), .val (.ref a2), .val (.int (3 : Int32)), .val (.int (1 : Int32)), .val (.int (-1 : Int32)), .val (.int (64 : Int32)), .val (.int (0 : Int32)), .val (.ref x0), .val (.int b0)]) rfl k) ?_
  refine own_st (T' := T13) (g' := (mkF m 124 #[.val (.ref a1), .val (.ref a2), .val (.int (3 : Int32)), .val (.int (1 : Int32)), .val (.int (0 : Int32)), .val (.int (64 : Int32)), .val (.int (0 : Int32)), .val (.ref x0), .val (.int b0)] [])) (fun t k => XS.istore X13.here hx rfl (hb hby own_d13_122) rfl (l' := #[.val (.ref a1), .val (.ref a2), .val (.int (3 : Int32)), .val (.int (1 : Int32)), .val (.int (0 : Int32)), .val (.int (64 : Int32)), .val (.int (0 : Int32)), .val (.ref x0), .val (.int b0)]) rfl k) ?_
  refine own_st (T' := T13) (g' := (mkF m 125 #[.val (.ref a1), .val (.ref a2), .val (.int (3 : Int32)), .val (.int (1 : Int32)), .val (.int (0 : Int32)), .val (.int (64 : Int32)), .val (.int (0 : Int32)), .val (.ref x0), .val (.int b0)] [(.int (0 : Int32))])) (fun t k => XS.iconst X13.here hx rfl (hb hby own_d13_124) k) ?_
  refine own_st (T' := T13) (g' := (mkF m 127 #[.val (.ref a1), .val (.ref a2), .val (.int (3 : Int32)), .val (.int (1 : Int32)), .val (.int (0 : Int32)), .val (.int (0 : Int32)), .val (.int (0 : Int32)), .val (.ref x0), .val (.int b0)] [])) (fun t k => XS.istore X13.here hx rfl (hb hby own_d13_125) rfl (l' := #[.val (.ref a1), .val (.ref a2), .val (.int (3 : Int32)), .val (.int (1 : Int32)), .val (.int (0 : Int32)), .val (.int (0 : Int32)), .val (.int (0 : Int32)), .val (.ref x0), .val (.int b0)]) rfl k) ?_
  refine own_st (T' := T13) (g' := (mkF m 128 #[.val (.ref a1), .val (.ref a2), .val (.int (3 : Int32)), .val (.int (1 : Int32)), .val (.int (0 : Int32)), .val (.int (0 : Int32)), .val (.int (0 : Int32)), .val (.ref x0), .val (.int b0)] [(.ref a1)])) (fun t k => XS.aloadN X13.here hx rfl (hb hby own_d13_127) rfl rfl k) ?_
  obtain ⟨T16, X16, e16, st16⟩ := getF X13 hx hZ hown (host := "") (Or.inl (hw _ (List.mem_of_getElem? (i := 116) rfl))) Via.refl e13 F_word_a1 (g := (mkF m 128 #[.val (.ref a1), .val (.ref a2), .val (.int (3 : Int32)), .val (.int (1 : Int32)), .val (.int (0 : Int32)), .val (.int (0 : Int32)), .val (.int (0 : Int32)), .val (.ref x0), .val (.int b0)] [(.ref a1)])) rfl rfl (hb hby own_d13_128)
  refine own_st (T' := T16) (g' := (mkF m 131 #[.val (.ref a1), .val (.ref a2), .val (.int (3 : Int32)), .val (.int (1 : Int32)), .val (.int (0 : Int32)), .val (.int (0 : Int32)), .val (.int (0 : Int32)), .val (.ref x0), .val (.int b0)] [(.ref b3)])) st16 ?_
  refine own_st (T' := T16) (g' := (mkF m 133 #[.val (.ref a1), .val (.ref a2), .val (.int (3 : Int32)), .val (.int (1 : Int32)), .val (.int (0 : Int32)), .val (.int (0 : Int32)), .val (.int (0 : Int32)), .val (.ref x0), .val (.int b0)] [(.int (0 : Int32)), (.ref b3)])) (fun t k => XS.iload X16.here hx rfl (hb hby own_d13_131) rfl k) ?_
  refine own_st (T' := T16) (g' := (mkF m 135 #[.val (.ref a1), .val (.ref a2), .val (.int (3 : Int32)), .val (.int (1 : Int32)), .val (.int (0 : Int32)), .val (.int (0 : Int32)), .val (.int (0 : Int32)), .val (.ref x0), .val (.int b0)] [(.int (0 : Int32)), (.int (0 : Int32)), (.ref b3)])) (fun t k => XS.iload X16.here hx rfl (hb hby own_d13_133) rfl k) ?_
  obtain ⟨cl17, Ar17, q17, S17, N17n, H17, G17⟩ := V_b3
  have hin17 : ¬ ((0 : Int32) < 0 ∨ cl17.slots.size ≤ ((0 : Int32) : Int32).toNatClampNeg) := inb_of S17 ⟨by decide, by decide⟩
  obtain ⟨T18, h18, X18, e18, W18, st18⟩ := stI X16 hx hZ e16 Ar17 (j := (0 : Int32)) hin17 (g := (mkF m 135 #[.val (.ref a1), .val (.ref a2), .val (.int (3 : Int32)), .val (.int (1 : Int32)), .val (.int (0 : Int32)), .val (.int (0 : Int32)), .val (.int (0 : Int32)), .val (.ref x0), .val (.int b0)] [(.int (0 : Int32)), (.int (0 : Int32)), (.ref b3)])) rfl rfl (hb hby own_d13_135)
  have E_a1 := E_a1.wr W18
  have F_words_a1 := F_words_a1.other W18 (Or.inl ne_a1_b3)
  have F_word_a1 := F_word_a1.other W18 (Or.inl ne_a1_b3)
  have F_shift_a1 := F_shift_a1.other W18 (Or.inl ne_a1_b3)
  have F_mask_a1 := F_mask_a1.other W18 (Or.inl ne_a1_b3)
  have F_lower_a1 := F_lower_a1.other W18 (Or.inl ne_a1_b3)
  have E_a2 := E_a2.wr W18
  have F_size_a2 := F_size_a2.other W18 (Or.inl ne_a2_b3)
  have F_elementData_a2 := F_elementData_a2.other W18 (Or.inl ne_a2_b3)
  have V_ar := V_ar.other W18 ne_ar_b3
  have E_x0 := E_x0.wr W18
  have F_bounded_x0 := F_bounded_x0.other W18 (Or.inl ne_x0_b3)
  have F_lower_x0 := F_lower_x0.other W18 (Or.inl ne_x0_b3)
  have F_upper_x0 := F_upper_x0.other W18 (Or.inl ne_x0_b3)
  have E_x1 := E_x1.wr W18
  have F_bounded_x1 := F_bounded_x1.other W18 (Or.inl ne_x1_b3)
  have F_lower_x1 := F_lower_x1.other W18 (Or.inl ne_x1_b3)
  have F_upper_x1 := F_upper_x1.other W18 (Or.inl ne_x1_b3)
  have E_x2 := E_x2.wr W18
  have F_bounded_x2 := F_bounded_x2.other W18 (Or.inl ne_x2_b3)
  have F_lower_x2 := F_lower_x2.other W18 (Or.inl ne_x2_b3)
  have F_upper_x2 := F_upper_x2.other W18 (Or.inl ne_x2_b3)
  have E_b3 := E_b3.wr W18
  have V_b5 := V_b5.other W18 (Ne.symm ne_b3_b5)
  have E_b5 := E_b5.wr W18
  have V_b7 := V_b7.other W18 (Ne.symm ne_b3_b7)
  have E_b7 := E_b7.wr W18
  have V_b9 := V_b9.other W18 (Ne.symm ne_b3_b9)
  have E_b9 := E_b9.wr W18
  have V_b3 : Arv Z h18 b3 k3 .int (3 : Int32) [(.int (0 : Int32)), (.int (0 : Int32)), (.int (0 : Int32))] (.int (0 : Int32)) := Arv.set Ar17 q17 S17 N17n H17 G17 rfl W18 0 rfl (Nat.le_of_ble_eq_true rfl)
  have K0_18 := K0_10.wr W18 (Or.inr sz_b3)
  have N18 := Fr.snoc X18 N10 g_b3
  generalize hlc18 : (lc10 ++ [(⟨b3, ((0 : Int32) : Int32).toNatClampNeg⟩ : Loc)] : List Loc) = lc18 at X18 N18
  have Z18 : n0 ≤ h18.size := Nat.le_trans Z10 (Keep.of_wr W18).1
  refine own_st (T' := T18) (g' := (mkF m 136 #[.val (.ref a1), .val (.ref a2), .val (.int (3 : Int32)), .val (.int (1 : Int32)), .val (.int (0 : Int32)), .val (.int (0 : Int32)), .val (.int (0 : Int32)), .val (.ref x0), .val (.int b0)] [])) st18 ?_
  refine own_st (T' := T18) (g' := (mkF m 137 #[.val (.ref a1), .val (.ref a2), .val (.int (3 : Int32)), .val (.int (1 : Int32)), .val (.int (0 : Int32)), .val (.int (0 : Int32)), .val (.int (0 : Int32)), .val (.ref x0), .val (.int b0)] [(.ref a1)])) (fun t k => XS.aloadN X18.here hx rfl (hb hby own_d13_136) rfl rfl k) ?_
  obtain ⟨T19, X19, e19, st19⟩ := getF X18 hx hZ hown (host := "") (Or.inl (hw _ (List.mem_of_getElem? (i := 118) rfl))) Via.refl e18 F_shift_a1 (g := (mkF m 137 #[.val (.ref a1), .val (.ref a2), .val (.int (3 : Int32)), .val (.int (1 : Int32)), .val (.int (0 : Int32)), .val (.int (0 : Int32)), .val (.int (0 : Int32)), .val (.ref x0), .val (.int b0)] [(.ref a1)])) rfl rfl (hb hby own_d13_137)
  refine own_st (T' := T19) (g' := (mkF m 140 #[.val (.ref a1), .val (.ref a2), .val (.int (3 : Int32)), .val (.int (1 : Int32)), .val (.int (0 : Int32)), .val (.int (0 : Int32)), .val (.int (0 : Int32)), .val (.ref x0), .val (.int b0)] [(.ref b5)])) st19 ?_
  refine own_st (T' := T19) (g' := (mkF m 142 #[.val (.ref a1), .val (.ref a2), .val (.int (3 : Int32)), .val (.int (1 : Int32)), .val (.int (0 : Int32)), .val (.int (0 : Int32)), .val (.int (0 : Int32)), .val (.ref x0), .val (.int b0)] [(.int (0 : Int32)), (.ref b5)])) (fun t k => XS.iload X19.here hx rfl (hb hby own_d13_140) rfl k) ?_
  refine own_st (T' := T19) (g' := (mkF m 144 #[.val (.ref a1), .val (.ref a2), .val (.int (3 : Int32)), .val (.int (1 : Int32)), .val (.int (0 : Int32)), .val (.int (0 : Int32)), .val (.int (0 : Int32)), .val (.ref x0), .val (.int b0)] [(.int (0 : Int32)), (.int (0 : Int32)), (.ref b5)])) (fun t k => XS.iload X19.here hx rfl (hb hby own_d13_142) rfl k) ?_
  obtain ⟨cl20, Ar20, q20, S20, N20n, H20, G20⟩ := V_b5
  have hin20 : ¬ ((0 : Int32) < 0 ∨ cl20.slots.size ≤ ((0 : Int32) : Int32).toNatClampNeg) := inb_of S20 ⟨by decide, by decide⟩
  obtain ⟨T21, h21, X21, e21, W21, st21⟩ := stI X19 hx hZ e19 Ar20 (j := (0 : Int32)) hin20 (g := (mkF m 144 #[.val (.ref a1), .val (.ref a2), .val (.int (3 : Int32)), .val (.int (1 : Int32)), .val (.int (0 : Int32)), .val (.int (0 : Int32)), .val (.int (0 : Int32)), .val (.ref x0), .val (.int b0)] [(.int (0 : Int32)), (.int (0 : Int32)), (.ref b5)])) rfl rfl (hb hby own_d13_144)
  have E_a1 := E_a1.wr W21
  have F_words_a1 := F_words_a1.other W21 (Or.inl ne_a1_b5)
  have F_word_a1 := F_word_a1.other W21 (Or.inl ne_a1_b5)
  have F_shift_a1 := F_shift_a1.other W21 (Or.inl ne_a1_b5)
  have F_mask_a1 := F_mask_a1.other W21 (Or.inl ne_a1_b5)
  have F_lower_a1 := F_lower_a1.other W21 (Or.inl ne_a1_b5)
  have E_a2 := E_a2.wr W21
  have F_size_a2 := F_size_a2.other W21 (Or.inl ne_a2_b5)
  have F_elementData_a2 := F_elementData_a2.other W21 (Or.inl ne_a2_b5)
  have V_ar := V_ar.other W21 ne_ar_b5
  have E_x0 := E_x0.wr W21
  have F_bounded_x0 := F_bounded_x0.other W21 (Or.inl ne_x0_b5)
  have F_lower_x0 := F_lower_x0.other W21 (Or.inl ne_x0_b5)
  have F_upper_x0 := F_upper_x0.other W21 (Or.inl ne_x0_b5)
  have E_x1 := E_x1.wr W21
  have F_bounded_x1 := F_bounded_x1.other W21 (Or.inl ne_x1_b5)
  have F_lower_x1 := F_lower_x1.other W21 (Or.inl ne_x1_b5)
  have F_upper_x1 := F_upper_x1.other W21 (Or.inl ne_x1_b5)
  have E_x2 := E_x2.wr W21
  have F_bounded_x2 := F_bounded_x2.other W21 (Or.inl ne_x2_b5)
  have F_lower_x2 := F_lower_x2.other W21 (Or.inl ne_x2_b5)
  have F_upper_x2 := F_upper_x2.other W21 (Or.inl ne_x2_b5)
  have V_b3 := V_b3.other W21 ne_b3_b5
  have E_b3 := E_b3.wr W21
  have E_b5 := E_b5.wr W21
  have V_b7 := V_b7.other W21 (Ne.symm ne_b5_b7)
  have E_b7 := E_b7.wr W21
  have V_b9 := V_b9.other W21 (Ne.symm ne_b5_b9)
  have E_b9 := E_b9.wr W21
  have V_b5 : Arv Z h21 b5 k5 .int (3 : Int32) [(.int (0 : Int32)), (.int (0 : Int32)), (.int (0 : Int32))] (.int (0 : Int32)) := Arv.set Ar20 q20 S20 N20n H20 G20 rfl W21 0 rfl (Nat.le_of_ble_eq_true rfl)
  have K0_21 := K0_18.wr W21 (Or.inr sz_b5)
  have N21 := Fr.snoc X21 N18 g_b5
  generalize hlc21 : (lc18 ++ [(⟨b5, ((0 : Int32) : Int32).toNatClampNeg⟩ : Loc)] : List Loc) = lc21 at X21 N21
  have Z21 : n0 ≤ h21.size := Nat.le_trans Z18 (Keep.of_wr W21).1
  refine own_st (T' := T21) (g' := (mkF m 145 #[.val (.ref a1), .val (.ref a2), .val (.int (3 : Int32)), .val (.int (1 : Int32)), .val (.int (0 : Int32)), .val (.int (0 : Int32)), .val (.int (0 : Int32)), .val (.ref x0), .val (.int b0)] [])) st21 ?_
  refine own_st (T' := T21) (g' := (mkF m 146 #[.val (.ref a1), .val (.ref a2), .val (.int (3 : Int32)), .val (.int (1 : Int32)), .val (.int (0 : Int32)), .val (.int (0 : Int32)), .val (.int (0 : Int32)), .val (.ref x0), .val (.int b0)] [(.ref a1)])) (fun t k => XS.aloadN X21.here hx rfl (hb hby own_d13_145) rfl rfl k) ?_
  obtain ⟨T22, X22, e22, st22⟩ := getF X21 hx hZ hown (host := "") (Or.inl (hw _ (List.mem_of_getElem? (i := 121) rfl))) Via.refl e21 F_mask_a1 (g := (mkF m 146 #[.val (.ref a1), .val (.ref a2), .val (.int (3 : Int32)), .val (.int (1 : Int32)), .val (.int (0 : Int32)), .val (.int (0 : Int32)), .val (.int (0 : Int32)), .val (.ref x0), .val (.int b0)] [(.ref a1)])) rfl rfl (hb hby own_d13_146)
  refine own_st (T' := T22) (g' := (mkF m 149 #[.val (.ref a1), .val (.ref a2), .val (.int (3 : Int32)), .val (.int (1 : Int32)), .val (.int (0 : Int32)), .val (.int (0 : Int32)), .val (.int (0 : Int32)), .val (.ref x0), .val (.int b0)] [(.ref b7)])) st22 ?_
  refine own_st (T' := T22) (g' := (mkF m 151 #[.val (.ref a1), .val (.ref a2), .val (.int (3 : Int32)), .val (.int (1 : Int32)), .val (.int (0 : Int32)), .val (.int (0 : Int32)), .val (.int (0 : Int32)), .val (.ref x0), .val (.int b0)] [(.int (0 : Int32)), (.ref b7)])) (fun t k => XS.iload X22.here hx rfl (hb hby own_d13_149) rfl k) ?_
  refine own_st (T' := T22) (g' := (mkF m 152 #[.val (.ref a1), .val (.ref a2), .val (.int (3 : Int32)), .val (.int (1 : Int32)), .val (.int (0 : Int32)), .val (.int (0 : Int32)), .val (.int (0 : Int32)), .val (.ref x0), .val (.int b0)] [(.long (1 : Int64)), (.int (0 : Int32)), (.ref b7)])) (fun t k => XS.lconst X22.here hx rfl (hb hby own_d13_151) k) ?_
  refine own_st (T' := T22) (g' := (mkF m 154 #[.val (.ref a1), .val (.ref a2), .val (.int (3 : Int32)), .val (.int (1 : Int32)), .val (.int (0 : Int32)), .val (.int (0 : Int32)), .val (.int (0 : Int32)), .val (.ref x0), .val (.int b0)] [(.int b0), (.long (1 : Int64)), (.int (0 : Int32)), (.ref b7)])) (fun t k => XS.iload X22.here hx rfl (hb hby own_d13_152) rfl k) ?_
  refine own_st (T' := T22) (g' := (mkF m 155 #[.val (.ref a1), .val (.ref a2), .val (.int (3 : Int32)), .val (.int (1 : Int32)), .val (.int (0 : Int32)), .val (.int (0 : Int32)), .val (.int (0 : Int32)), .val (.ref x0), .val (.int b0)] [(.long ((1 : Int64) <<< (b0 &&& 0x3f).toInt64)), (.int (0 : Int32)), (.ref b7)])) (fun t k => XS.lshl X22.here hx rfl (hb hby own_d13_154) rfl k) ?_
  refine own_st (T' := T22) (g' := (mkF m 156 #[.val (.ref a1), .val (.ref a2), .val (.int (3 : Int32)), .val (.int (1 : Int32)), .val (.int (0 : Int32)), .val (.int (0 : Int32)), .val (.int (0 : Int32)), .val (.ref x0), .val (.int b0)] [(.long (1 : Int64)), (.long ((1 : Int64) <<< (b0 &&& 0x3f).toInt64)), (.int (0 : Int32)), (.ref b7)])) (fun t k => XS.lconst X22.here hx rfl (hb hby own_d13_155) k) ?_
  refine own_st (T' := T22) (g' := (mkF m 157 #[.val (.ref a1), .val (.ref a2), .val (.int (3 : Int32)), .val (.int (1 : Int32)), .val (.int (0 : Int32)), .val (.int (0 : Int32)), .val (.int (0 : Int32)), .val (.ref x0), .val (.int b0)] [(.long (((1 : Int64) <<< (b0 &&& 0x3f).toInt64) - (1 : Int64))), (.int (0 : Int32)), (.ref b7)])) (fun t k => XS.lsub X22.here hx rfl (hb hby own_d13_156) rfl k) ?_
  obtain ⟨cl23, Ar23, q23, S23, N23n, H23, G23⟩ := V_b7
  have hin23 : ¬ ((0 : Int32) < 0 ∨ cl23.slots.size ≤ ((0 : Int32) : Int32).toNatClampNeg) := inb_of S23 ⟨by decide, by decide⟩
  obtain ⟨T24, h24, X24, e24, W24, st24⟩ := stJ X22 hx hZ e22 Ar23 (j := (0 : Int32)) hin23 (g := (mkF m 157 #[.val (.ref a1), .val (.ref a2), .val (.int (3 : Int32)), .val (.int (1 : Int32)), .val (.int (0 : Int32)), .val (.int (0 : Int32)), .val (.int (0 : Int32)), .val (.ref x0), .val (.int b0)] [(.long (((1 : Int64) <<< (b0 &&& 0x3f).toInt64) - (1 : Int64))), (.int (0 : Int32)), (.ref b7)])) rfl rfl (hb hby own_d13_157)
  have E_a1 := E_a1.wr W24
  have F_words_a1 := F_words_a1.other W24 (Or.inl ne_a1_b7)
  have F_word_a1 := F_word_a1.other W24 (Or.inl ne_a1_b7)
  have F_shift_a1 := F_shift_a1.other W24 (Or.inl ne_a1_b7)
  have F_mask_a1 := F_mask_a1.other W24 (Or.inl ne_a1_b7)
  have F_lower_a1 := F_lower_a1.other W24 (Or.inl ne_a1_b7)
  have E_a2 := E_a2.wr W24
  have F_size_a2 := F_size_a2.other W24 (Or.inl ne_a2_b7)
  have F_elementData_a2 := F_elementData_a2.other W24 (Or.inl ne_a2_b7)
  have V_ar := V_ar.other W24 ne_ar_b7
  have E_x0 := E_x0.wr W24
  have F_bounded_x0 := F_bounded_x0.other W24 (Or.inl ne_x0_b7)
  have F_lower_x0 := F_lower_x0.other W24 (Or.inl ne_x0_b7)
  have F_upper_x0 := F_upper_x0.other W24 (Or.inl ne_x0_b7)
  have E_x1 := E_x1.wr W24
  have F_bounded_x1 := F_bounded_x1.other W24 (Or.inl ne_x1_b7)
  have F_lower_x1 := F_lower_x1.other W24 (Or.inl ne_x1_b7)
  have F_upper_x1 := F_upper_x1.other W24 (Or.inl ne_x1_b7)
  have E_x2 := E_x2.wr W24
  have F_bounded_x2 := F_bounded_x2.other W24 (Or.inl ne_x2_b7)
  have F_lower_x2 := F_lower_x2.other W24 (Or.inl ne_x2_b7)
  have F_upper_x2 := F_upper_x2.other W24 (Or.inl ne_x2_b7)
  have V_b3 := V_b3.other W24 ne_b3_b7
  have E_b3 := E_b3.wr W24
  have V_b5 := V_b5.other W24 ne_b5_b7
  have E_b5 := E_b5.wr W24
  have E_b7 := E_b7.wr W24
  have V_b9 := V_b9.other W24 (Ne.symm ne_b7_b9)
  have E_b9 := E_b9.wr W24
  have V_b7 : Arv Z h24 b7 k7 .long (3 : Int32) [(.long (((1 : Int64) <<< (b0 &&& 0x3f).toInt64) - (1 : Int64))), (.long (0 : Int64)), (.long (0 : Int64))] (.long (0 : Int64)) := Arv.set Ar23 q23 S23 N23n H23 G23 rfl W24 0 rfl (Nat.le_of_ble_eq_true rfl)
  have K0_24 := K0_21.wr W24 (Or.inr sz_b7)
  have N24 := Fr.snoc X24 N21 g_b7
  generalize hlc24 : (lc21 ++ [(⟨b7, ((0 : Int32) : Int32).toNatClampNeg⟩ : Loc)] : List Loc) = lc24 at X24 N24
  have Z24 : n0 ≤ h24.size := Nat.le_trans Z21 (Keep.of_wr W24).1
  refine own_st (T' := T24) (g' := (mkF m 158 #[.val (.ref a1), .val (.ref a2), .val (.int (3 : Int32)), .val (.int (1 : Int32)), .val (.int (0 : Int32)), .val (.int (0 : Int32)), .val (.int (0 : Int32)), .val (.ref x0), .val (.int b0)] [])) st24 ?_
  refine own_st (T' := T24) (g' := (mkF m 159 #[.val (.ref a1), .val (.ref a2), .val (.int (3 : Int32)), .val (.int (1 : Int32)), .val (.int (0 : Int32)), .val (.int (0 : Int32)), .val (.int (0 : Int32)), .val (.ref x0), .val (.int b0)] [(.ref a1)])) (fun t k => XS.aloadN X24.here hx rfl (hb hby own_d13_158) rfl rfl k) ?_
  obtain ⟨T25, X25, e25, st25⟩ := getF X24 hx hZ hown (host := "") (Or.inl (hw _ (List.mem_of_getElem? (i := 123) rfl))) Via.refl e24 F_lower_a1 (g := (mkF m 159 #[.val (.ref a1), .val (.ref a2), .val (.int (3 : Int32)), .val (.int (1 : Int32)), .val (.int (0 : Int32)), .val (.int (0 : Int32)), .val (.int (0 : Int32)), .val (.ref x0), .val (.int b0)] [(.ref a1)])) rfl rfl (hb hby own_d13_159)
  refine own_st (T' := T25) (g' := (mkF m 162 #[.val (.ref a1), .val (.ref a2), .val (.int (3 : Int32)), .val (.int (1 : Int32)), .val (.int (0 : Int32)), .val (.int (0 : Int32)), .val (.int (0 : Int32)), .val (.ref x0), .val (.int b0)] [(.ref b9)])) st25 ?_
  refine own_st (T' := T25) (g' := (mkF m 164 #[.val (.ref a1), .val (.ref a2), .val (.int (3 : Int32)), .val (.int (1 : Int32)), .val (.int (0 : Int32)), .val (.int (0 : Int32)), .val (.int (0 : Int32)), .val (.ref x0), .val (.int b0)] [(.int (0 : Int32)), (.ref b9)])) (fun t k => XS.iload X25.here hx rfl (hb hby own_d13_162) rfl k) ?_
  refine own_st (T' := T25) (g' := (mkF m 166 #[.val (.ref a1), .val (.ref a2), .val (.int (3 : Int32)), .val (.int (1 : Int32)), .val (.int (0 : Int32)), .val (.int (0 : Int32)), .val (.int (0 : Int32)), .val (.ref x0), .val (.int b0)] [(.ref x0), (.int (0 : Int32)), (.ref b9)])) (fun t k => XS.aload X25.here hx rfl (hb hby own_d13_164) rfl rfl k) ?_
  obtain ⟨_, T26, L26, hQ26, X26, st26⟩ := own_callV (y := (⟨"com/example/astraea/astraea/lang/Variable", "lower", "()J"⟩ : MethodName)) (z := (⟨"com/example/astraea/astraea/lang/Variable", "lower", "()J"⟩ : MethodName)) (argsL := []) 2 [(.int (0 : Int32)), (.ref b9)] (K := "com/example/astraea/astraea/lang/Variable") (own_rm22 l Z a0 hw h24 n0 Z24 x0 lo0 F_lower_x0) X25 hx hZ hown (hw _ (List.mem_of_getElem? (i := 161) rfl)) (hw _ (List.mem_of_getElem? (i := 162) rfl)) (notFace_of_selects (args := #[]) (mvT hZ (hw _ (List.mem_of_getElem? (i := 164) rfl)))) (hw _ (List.mem_of_getElem? (i := 164) rfl)) (hw _ (List.mem_of_getElem? (i := 163) rfl)) (hw _ (List.mem_of_getElem? (i := 165) rfl)) (hw _ (List.mem_of_getElem? (i := 33) rfl)) (by decide) (by decide) (by decide) (by decide) (by decide) e25 E_x0 (g := (mkF m 166 #[.val (.ref a1), .val (.ref a2), .val (.int (3 : Int32)), .val (.int (1 : Int32)), .val (.int (0 : Int32)), .val (.int (0 : Int32)), .val (.int (0 : Int32)), .val (.ref x0), .val (.int b0)] [(.ref x0), (.int (0 : Int32)), (.ref b9)])) rfl (by rw [hml]; rfl) (lenOf own_pd9 rfl) rfl (by show 2 * 0 + _ ≤ _; exact Nat.le_of_eq rfl) (hb hby own_d13_166)
  obtain ⟨rfl, e26, rfl⟩ := hQ26
  have X26 : Stand p l e ({ frames := 3, cells := 4, slots := 12, locals := 60 } : Room) s m #[(.ref a1), (.ref a2)] below meth c T26 lc24 4 12 := by have := X26; rwa [List.append_nil] at this
  refine own_st (T' := T26) (g' := (mkF m 169 #[.val (.ref a1), .val (.ref a2), .val (.int (3 : Int32)), .val (.int (1 : Int32)), .val (.int (0 : Int32)), .val (.int (0 : Int32)), .val (.int (0 : Int32)), .val (.ref x0), .val (.int b0)] [(.long lo0), (.int (0 : Int32)), (.ref b9)])) st26 ?_
  obtain ⟨cl27, Ar27, q27, S27, N27n, H27, G27⟩ := V_b9
  have hin27 : ¬ ((0 : Int32) < 0 ∨ cl27.slots.size ≤ ((0 : Int32) : Int32).toNatClampNeg) := inb_of S27 ⟨by decide, by decide⟩
  obtain ⟨T28, h28, X28, e28, W28, st28⟩ := stJ X26 hx hZ e26 Ar27 (j := (0 : Int32)) hin27 (g := (mkF m 169 #[.val (.ref a1), .val (.ref a2), .val (.int (3 : Int32)), .val (.int (1 : Int32)), .val (.int (0 : Int32)), .val (.int (0 : Int32)), .val (.int (0 : Int32)), .val (.ref x0), .val (.int b0)] [(.long lo0), (.int (0 : Int32)), (.ref b9)])) rfl rfl (hb hby own_d13_169)
  have E_a1 := E_a1.wr W28
  have F_words_a1 := F_words_a1.other W28 (Or.inl ne_a1_b9)
  have F_word_a1 := F_word_a1.other W28 (Or.inl ne_a1_b9)
  have F_shift_a1 := F_shift_a1.other W28 (Or.inl ne_a1_b9)
  have F_mask_a1 := F_mask_a1.other W28 (Or.inl ne_a1_b9)
  have F_lower_a1 := F_lower_a1.other W28 (Or.inl ne_a1_b9)
  have E_a2 := E_a2.wr W28
  have F_size_a2 := F_size_a2.other W28 (Or.inl ne_a2_b9)
  have F_elementData_a2 := F_elementData_a2.other W28 (Or.inl ne_a2_b9)
  have V_ar := V_ar.other W28 ne_ar_b9
  have E_x0 := E_x0.wr W28
  have F_bounded_x0 := F_bounded_x0.other W28 (Or.inl ne_x0_b9)
  have F_lower_x0 := F_lower_x0.other W28 (Or.inl ne_x0_b9)
  have F_upper_x0 := F_upper_x0.other W28 (Or.inl ne_x0_b9)
  have E_x1 := E_x1.wr W28
  have F_bounded_x1 := F_bounded_x1.other W28 (Or.inl ne_x1_b9)
  have F_lower_x1 := F_lower_x1.other W28 (Or.inl ne_x1_b9)
  have F_upper_x1 := F_upper_x1.other W28 (Or.inl ne_x1_b9)
  have E_x2 := E_x2.wr W28
  have F_bounded_x2 := F_bounded_x2.other W28 (Or.inl ne_x2_b9)
  have F_lower_x2 := F_lower_x2.other W28 (Or.inl ne_x2_b9)
  have F_upper_x2 := F_upper_x2.other W28 (Or.inl ne_x2_b9)
  have V_b3 := V_b3.other W28 ne_b3_b9
  have E_b3 := E_b3.wr W28
  have V_b5 := V_b5.other W28 ne_b5_b9
  have E_b5 := E_b5.wr W28
  have V_b7 := V_b7.other W28 ne_b7_b9
  have E_b7 := E_b7.wr W28
  have E_b9 := E_b9.wr W28
  have V_b9 : Arv Z h28 b9 k9 .long (3 : Int32) [(.long lo0), (.long (0 : Int64)), (.long (0 : Int64))] (.long (0 : Int64)) := Arv.set Ar27 q27 S27 N27n H27 G27 rfl W28 0 rfl (Nat.le_of_ble_eq_true rfl)
  have K0_28 := K0_24.wr W28 (Or.inr sz_b9)
  have N28 := Fr.snoc X28 N24 g_b9
  generalize hlc28 : (lc24 ++ [(⟨b9, ((0 : Int32) : Int32).toNatClampNeg⟩ : Loc)] : List Loc) = lc28 at X28 N28
  have Z28 : n0 ≤ h28.size := Nat.le_trans Z24 (Keep.of_wr W28).1
  refine own_st (T' := T28) (g' := (mkF m 170 #[.val (.ref a1), .val (.ref a2), .val (.int (3 : Int32)), .val (.int (1 : Int32)), .val (.int (0 : Int32)), .val (.int (0 : Int32)), .val (.int (0 : Int32)), .val (.ref x0), .val (.int b0)] [])) st28 ?_
  refine own_st (T' := T28) (g' := (mkF m 172 #[.val (.ref a1), .val (.ref a2), .val (.int (3 : Int32)), .val (.int (1 : Int32)), .val (.int (0 : Int32)), .val (.int (0 : Int32)), .val (.int (0 : Int32)), .val (.ref x0), .val (.int b0)] [(.int (0 : Int32))])) (fun t k => XS.iload X28.here hx rfl (hb hby own_d13_170) rfl k) ?_
  refine own_st (T' := T28) (g' := (mkF m 174 #[.val (.ref a1), .val (.ref a2), .val (.int (3 : Int32)), .val (.int (1 : Int32)), .val (.int (0 : Int32)), .val (.int (0 : Int32)), .val (.int (0 : Int32)), .val (.ref x0), .val (.int b0)] [(.int b0), (.int (0 : Int32))])) (fun t k => XS.iload X28.here hx rfl (hb hby own_d13_172) rfl k) ?_
  refine own_st (T' := T28) (g' := (mkF m 175 #[.val (.ref a1), .val (.ref a2), .val (.int (3 : Int32)), .val (.int (1 : Int32)), .val (.int (0 : Int32)), .val (.int (0 : Int32)), .val (.int (0 : Int32)), .val (.ref x0), .val (.int b0)] [(.int ((0 : Int32) + b0))])) (fun t k => XS.iadd X28.here hx rfl (hb hby own_d13_174) rfl k) ?_
  refine own_st (T' := T28) (g' := (mkF m 177 #[.val (.ref a1), .val (.ref a2), .val (.int (3 : Int32)), .val (.int (1 : Int32)), .val (.int (0 : Int32)), .val (.int ((0 : Int32) + b0)), .val (.int (0 : Int32)), .val (.ref x0), .val (.int b0)] [])) (fun t k => XS.istore X28.here hx rfl (hb hby own_d13_175) rfl (l' := #[.val (.ref a1), .val (.ref a2), .val (.int (3 : Int32)), .val (.int (1 : Int32)), .val (.int (0 : Int32)), .val (.int ((0 : Int32) + b0)), .val (.int (0 : Int32)), .val (.ref x0), .val (.int b0)]) rfl k) ?_
  refine own_st (T' := T28) (g' := (mkF m 180 #[.val (.ref a1), .val (.ref a2), .val (.int (3 : Int32)), .val (.int (1 : Int32)), .val (.int (0 : Int32)), .val (.int ((0 : Int32) + b0)), .val (.int (1 : Int32)), .val (.ref x0), .val (.int b0)] [])) (fun t k => XS.iinc X28.here hx rfl (hb hby own_d13_177) rfl (l' := #[.val (.ref a1), .val (.ref a2), .val (.int (3 : Int32)), .val (.int (1 : Int32)), .val (.int (0 : Int32)), .val (.int ((0 : Int32) + b0)), .val (.int (1 : Int32)), .val (.ref x0), .val (.int b0)]) rfl k) ?_
  refine own_st (T' := T28) (g' := (mkF m 51 #[.val (.ref a1), .val (.ref a2), .val (.int (3 : Int32)), .val (.int (1 : Int32)), .val (.int (0 : Int32)), .val (.int ((0 : Int32) + b0)), .val (.int (1 : Int32)), .val (.ref x0), .val (.int b0)] [])) (fun t k => XS.goto X28.here hx rfl (pc0 := 180) (pc' := 51) rfl (hb hby own_d13_180) (by decide) (by decide) k) ?_
  refine own_st (T' := T28) (g' := (mkF m 53 #[.val (.ref a1), .val (.ref a2), .val (.int (3 : Int32)), .val (.int (1 : Int32)), .val (.int (0 : Int32)), .val (.int ((0 : Int32) + b0)), .val (.int (1 : Int32)), .val (.ref x0), .val (.int b0)] [(.int (1 : Int32))])) (fun t k => XS.iload X28.here hx rfl (hb hby own_d13_51) rfl k) ?_
  refine own_st (T' := T28) (g' := (mkF m 54 #[.val (.ref a1), .val (.ref a2), .val (.int (3 : Int32)), .val (.int (1 : Int32)), .val (.int (0 : Int32)), .val (.int ((0 : Int32) + b0)), .val (.int (1 : Int32)), .val (.ref x0), .val (.int b0)] [(.int (3 : Int32)), (.int (1 : Int32))])) (fun t k => XS.iloadN X28.here hx rfl (hb hby own_d13_53) rfl k) ?_
  refine own_st (T' := T28) (g' := (mkF m 57 #[.val (.ref a1), .val (.ref a2), .val (.int (3 : Int32)), .val (.int (1 : Int32)), .val (.int (0 : Int32)), .val (.int ((0 : Int32) + b0)), .val (.int (1 : Int32)), .val (.ref x0), .val (.int b0)] [])) (fun t k => XS.icmpNo X28.here hx rfl (hb hby own_d13_54) rfl (tlt (by decide)).2.1 k) ?_
  refine own_st (T' := T28) (g' := (mkF m 58 #[.val (.ref a1), .val (.ref a2), .val (.int (3 : Int32)), .val (.int (1 : Int32)), .val (.int (0 : Int32)), .val (.int ((0 : Int32) + b0)), .val (.int (1 : Int32)), .val (.ref x0), .val (.int b0)] [(.ref a2)])) (fun t k => XS.aloadN X28.here hx rfl (hb hby own_d13_57) rfl rfl k) ?_
  refine own_st (T' := T28) (g' := (mkF m 60 #[.val (.ref a1), .val (.ref a2), .val (.int (3 : Int32)), .val (.int (1 : Int32)), .val (.int (0 : Int32)), .val (.int ((0 : Int32) + b0)), .val (.int (1 : Int32)), .val (.ref x0), .val (.int b0)] [(.int (1 : Int32)), (.ref a2)])) (fun t k => XS.iload X28.here hx rfl (hb hby own_d13_58) rfl k) ?_
  obtain ⟨_, T29, L29, hQ29, X29, st29⟩ := own_callF (y := (⟨"java/util/List", "get", "(I)Ljava/lang/Object;"⟩ : MethodName)) (z := (⟨"java/util/ArrayList", "get", "(I)Ljava/lang/Object;"⟩ : MethodName)) (argsL := [(.int (1 : Int32))]) 0 [] (K := "java/util/ArrayList") (own_rm15n1 l Z a0 hw h28 n0 Z28 a2 ar x0 x1 x2 ka E_a2 F_size_a2 F_elementData_a2 V_ar) X28 hx hZ hown (hw _ (List.mem_of_getElem? (i := 125) rfl)) (hw _ (List.mem_of_getElem? (i := 126) rfl)) (mvT hZ (hw _ (List.mem_of_getElem? (i := 127) rfl))) (hw _ (List.mem_of_getElem? (i := 128) rfl)) (hw _ (List.mem_of_getElem? (i := 129) rfl)) (hw _ (List.mem_of_getElem? (i := 130) rfl)) (hw _ (List.mem_of_getElem? (i := 131) rfl)) (hw _ (List.mem_of_getElem? (i := 113) rfl)) (hw _ (List.mem_of_getElem? (i := 132) rfl)) (hw _ (List.mem_of_getElem? (i := 7) rfl)) (by decide) (by decide) (by decide) (by decide) (by decide) e28 E_a2 (g := (mkF m 60 #[.val (.ref a1), .val (.ref a2), .val (.int (3 : Int32)), .val (.int (1 : Int32)), .val (.int (0 : Int32)), .val (.int ((0 : Int32) + b0)), .val (.int (1 : Int32)), .val (.ref x0), .val (.int b0)] [(.int (1 : Int32)), (.ref a2)])) rfl (by rw [hml]; rfl) (lenOf own_pd6 rfl) rfl (by show 2 * 0 + _ ≤ _; exact Nat.le_of_eq rfl) (hb hby own_d13_60)
  obtain ⟨rfl, e29, rfl⟩ := hQ29
  have X29 : Stand p l e ({ frames := 3, cells := 4, slots := 12, locals := 60 } : Room) s m #[(.ref a1), (.ref a2)] below meth c T29 lc28 4 12 := by have := X29; rwa [List.append_nil] at this
  refine own_st (T' := T29) (g' := (mkF m 65 #[.val (.ref a1), .val (.ref a2), .val (.int (3 : Int32)), .val (.int (1 : Int32)), .val (.int (0 : Int32)), .val (.int ((0 : Int32) + b0)), .val (.int (1 : Int32)), .val (.ref x0), .val (.int b0)] [(.ref x1)])) st29 ?_
  obtain ⟨T30, X30, e30, st30⟩ := castY X29 hx hZ hown (hw _ (List.mem_of_getElem? (i := 146) rfl)) e29 (Ins.self E_x1) (g := (mkF m 65 #[.val (.ref a1), .val (.ref a2), .val (.int (3 : Int32)), .val (.int (1 : Int32)), .val (.int (0 : Int32)), .val (.int ((0 : Int32) + b0)), .val (.int (1 : Int32)), .val (.ref x0), .val (.int b0)] [(.ref x1)])) rfl rfl (hb hby own_d13_65)
  refine own_st (T' := T30) (g' := (mkF m 68 #[.val (.ref a1), .val (.ref a2), .val (.int (3 : Int32)), .val (.int (1 : Int32)), .val (.int (0 : Int32)), .val (.int ((0 : Int32) + b0)), .val (.int (1 : Int32)), .val (.ref x0), .val (.int b0)] [(.ref x1)])) st30 ?_
  refine own_st (T' := T30) (g' := (mkF m 70 #[.val (.ref a1), .val (.ref a2), .val (.int (3 : Int32)), .val (.int (1 : Int32)), .val (.int (0 : Int32)), .val (.int ((0 : Int32) + b0)), .val (.int (1 : Int32)), .val (.ref x1), .val (.int b0)] [])) (fun t k => XS.astore X30.here hx rfl (hb hby own_d13_68) rfl rfl (l' := #[.val (.ref a1), .val (.ref a2), .val (.int (3 : Int32)), .val (.int (1 : Int32)), .val (.int (0 : Int32)), .val (.int ((0 : Int32) + b0)), .val (.int (1 : Int32)), .val (.ref x1), .val (.int b0)]) rfl k) ?_
  refine own_st (T' := T30) (g' := (mkF m 72 #[.val (.ref a1), .val (.ref a2), .val (.int (3 : Int32)), .val (.int (1 : Int32)), .val (.int (0 : Int32)), .val (.int ((0 : Int32) + b0)), .val (.int (1 : Int32)), .val (.ref x1), .val (.int b0)] [(.ref x1)])) (fun t k => XS.aload X30.here hx rfl (hb hby own_d13_70) rfl rfl k) ?_
  obtain ⟨_, T31, L31, hQ31, X31, st31⟩ := own_callS (y := (⟨"com/example/astraea/astraea/explicit/StateLayout", "bitsFor", "(Lcom/example/astraea/astraea/lang/Variable;)I"⟩ : MethodName)) (argsL := [(.ref x1)]) 0 [] (own_rm19 l Z a0 hw h28 n0 Z28 x1 z1 lo1 up1 hz1 E_x1 F_bounded_x1 F_lower_x1 F_upper_x1 b1 hb1) X30 hx hZ hown (hw _ (List.mem_of_getElem? (i := 148) rfl)) (hw _ (List.mem_of_getElem? (i := 149) rfl)) (hw _ (List.mem_of_getElem? (i := 101) rfl)) (hw _ (List.mem_of_getElem? (i := 150) rfl)) (by decide) (by decide) (by decide) (by decide) (by decide) e30 (g := (mkF m 72 #[.val (.ref a1), .val (.ref a2), .val (.int (3 : Int32)), .val (.int (1 : Int32)), .val (.int (0 : Int32)), .val (.int ((0 : Int32) + b0)), .val (.int (1 : Int32)), .val (.ref x1), .val (.int b0)] [(.ref x1)])) rfl (by rw [hml]; rfl) (lenOf own_pd12 rfl) rfl (by show 2 * 0 + _ ≤ _; exact Nat.le_of_eq rfl) (hb hby own_d13_72)
  obtain ⟨rfl, e31, rfl⟩ := hQ31
  have X31 : Stand p l e ({ frames := 3, cells := 4, slots := 12, locals := 60 } : Room) s m #[(.ref a1), (.ref a2)] below meth c T31 lc28 4 12 := by have := X31; rwa [List.append_nil] at this
  refine own_st (T' := T31) (g' := (mkF m 75 #[.val (.ref a1), .val (.ref a2), .val (.int (3 : Int32)), .val (.int (1 : Int32)), .val (.int (0 : Int32)), .val (.int ((0 : Int32) + b0)), .val (.int (1 : Int32)), .val (.ref x1), .val (.int b0)] [(.int b1)])) st31 ?_
  refine own_st (T' := T31) (g' := (mkF m 77 #[.val (.ref a1), .val (.ref a2), .val (.int (3 : Int32)), .val (.int (1 : Int32)), .val (.int (0 : Int32)), .val (.int ((0 : Int32) + b0)), .val (.int (1 : Int32)), .val (.ref x1), .val (.int b1)] [])) (fun t k => XS.istore X31.here hx rfl (hb hby own_d13_75) rfl (l' := #[.val (.ref a1), .val (.ref a2), .val (.int (3 : Int32)), .val (.int (1 : Int32)), .val (.int (0 : Int32)), .val (.int ((0 : Int32) + b0)), .val (.int (1 : Int32)), .val (.ref x1), .val (.int b1)]) rfl k) ?_
  refine own_st (T' := T31) (g' := (mkF m 79 #[.val (.ref a1), .val (.ref a2), .val (.int (3 : Int32)), .val (.int (1 : Int32)), .val (.int (0 : Int32)), .val (.int ((0 : Int32) + b0)), .val (.int (1 : Int32)), .val (.ref x1), .val (.int b1)] [(.int b1)])) (fun t k => XS.iload X31.here hx rfl (hb hby own_d13_77) rfl k) ?_
  refine own_st (T' := T31) (g' := (mkF m 81 #[.val (.ref a1), .val (.ref a2), .val (.int (3 : Int32)), .val (.int (1 : Int32)), .val (.int (0 : Int32)), .val (.int ((0 : Int32) + b0)), .val (.int (1 : Int32)), .val (.ref x1), .val (.int b1)] [(.int (64 : Int32)), (.int b1)])) (fun t k => XS.bipush X31.here hx rfl (hb hby own_d13_79) k) ?_
  have hk32 : b1 = (64 : Int32) := h64_1
  refine own_st (T' := T31) (g' := (mkF m 84 #[.val (.ref a1), .val (.ref a2), .val (.int (3 : Int32)), .val (.int (1 : Int32)), .val (.int (0 : Int32)), .val (.int ((0 : Int32) + b0)), .val (.int (1 : Int32)), .val (.ref x1), .val (.int b1)] [])) (fun t k => XS.icmpNo X31.here hx rfl (hb hby own_d13_81) rfl (teq hk32).2 k) ?_
  refine own_st (T' := T31) (g' := (mkF m 85 #[.val (.ref a1), .val (.ref a2), .val (.int (3 : Int32)), .val (.int (1 : Int32)), .val (.int (0 : Int32)), .val (.int ((0 : Int32) + b0)), .val (.int (1 : Int32)), .val (.ref x1), .val (.int b1)] [(.ref a1)])) (fun t k => XS.aloadN X31.here hx rfl (hb hby own_d13_84) rfl rfl k) ?_
  obtain ⟨T33, X33, e33, st33⟩ := getF X31 hx hZ hown (host := "") (Or.inl (hw _ (List.mem_of_getElem? (i := 116) rfl))) Via.refl e31 F_word_a1 (g := (mkF m 85 #[.val (.ref a1), .val (.ref a2), .val (.int (3 : Int32)), .val (.int (1 : Int32)), .val (.int (0 : Int32)), .val (.int ((0 : Int32) + b0)), .val (.int (1 : Int32)), .val (.ref x1), .val (.int b1)] [(.ref a1)])) rfl rfl (hb hby own_d13_85)
  refine own_st (T' := T33) (g' := (mkF m 88 #[.val (.ref a1), .val (.ref a2), .val (.int (3 : Int32)), .val (.int (1 : Int32)), .val (.int (0 : Int32)), .val (.int ((0 : Int32) + b0)), .val (.int (1 : Int32)), .val (.ref x1), .val (.int b1)] [(.ref b3)])) st33 ?_
  refine own_st (T' := T33) (g' := (mkF m 90 #[.val (.ref a1), .val (.ref a2), .val (.int (3 : Int32)), .val (.int (1 : Int32)), .val (.int (0 : Int32)), .val (.int ((0 : Int32) + b0)), .val (.int (1 : Int32)), .val (.ref x1), .val (.int b1)] [(.int (1 : Int32)), (.ref b3)])) (fun t k => XS.iload X33.here hx rfl (hb hby own_d13_88) rfl k) ?_
  refine own_st (T' := T33) (g' := (mkF m 91 #[.val (.ref a1), .val (.ref a2), .val (.int (3 : Int32)), .val (.int (1 : Int32)), .val (.int (0 : Int32)), .val (.int ((0 : Int32) + b0)), .val (.int (1 : Int32)), .val (.ref x1), .val (.int b1)] [(.int (1 : Int32)), (.int (1 : Int32)), (.ref b3)])) (fun t k => XS.iloadN X33.here hx rfl (hb hby own_d13_90) rfl k) ?_
  refine own_st (T' := T33) (g' := (mkF m 94 #[.val (.ref a1), .val (.ref a2), .val (.int (3 : Int32)), .val (.int (2 : Int32)), .val (.int (0 : Int32)), .val (.int ((0 : Int32) + b0)), .val (.int (1 : Int32)), .val (.ref x1), .val (.int b1)] [(.int (1 : Int32)), (.int (1 : Int32)), (.ref b3)])) (fun t k => XS.iinc X33.here hx rfl (hb hby own_d13_91) rfl (l' := #[.val (.ref a1), .val (.ref a2), .val (.int (3 : Int32)), .val (.int (2 : Int32)), .val (.int (0 : Int32)), .val (.int ((0 : Int32) + b0)), .val (.int (1 : Int32)), .val (.ref x1), .val (.int b1)]) rfl k) ?_
  obtain ⟨cl34, Ar34, q34, S34, N34n, H34, G34⟩ := V_b3
  have hin34 : ¬ ((1 : Int32) < 0 ∨ cl34.slots.size ≤ ((1 : Int32) : Int32).toNatClampNeg) := inb_of S34 ⟨by decide, by decide⟩
  obtain ⟨T35, h35, X35, e35, W35, st35⟩ := stI X33 hx hZ e33 Ar34 (j := (1 : Int32)) hin34 (g := (mkF m 94 #[.val (.ref a1), .val (.ref a2), .val (.int (3 : Int32)), .val (.int (2 : Int32)), .val (.int (0 : Int32)), .val (.int ((0 : Int32) + b0)), .val (.int (1 : Int32)), .val (.ref x1), .val (.int b1)] [(.int (1 : Int32)), (.int (1 : Int32)), (.ref b3)])) rfl rfl (hb hby own_d13_94)
  have E_a1 := E_a1.wr W35
  have F_words_a1 := F_words_a1.other W35 (Or.inl ne_a1_b3)
  have F_word_a1 := F_word_a1.other W35 (Or.inl ne_a1_b3)
  have F_shift_a1 := F_shift_a1.other W35 (Or.inl ne_a1_b3)
  have F_mask_a1 := F_mask_a1.other W35 (Or.inl ne_a1_b3)
  have F_lower_a1 := F_lower_a1.other W35 (Or.inl ne_a1_b3)
  have E_a2 := E_a2.wr W35
  have F_size_a2 := F_size_a2.other W35 (Or.inl ne_a2_b3)
  have F_elementData_a2 := F_elementData_a2.other W35 (Or.inl ne_a2_b3)
  have V_ar := V_ar.other W35 ne_ar_b3
  have E_x0 := E_x0.wr W35
  have F_bounded_x0 := F_bounded_x0.other W35 (Or.inl ne_x0_b3)
  have F_lower_x0 := F_lower_x0.other W35 (Or.inl ne_x0_b3)
  have F_upper_x0 := F_upper_x0.other W35 (Or.inl ne_x0_b3)
  have E_x1 := E_x1.wr W35
  have F_bounded_x1 := F_bounded_x1.other W35 (Or.inl ne_x1_b3)
  have F_lower_x1 := F_lower_x1.other W35 (Or.inl ne_x1_b3)
  have F_upper_x1 := F_upper_x1.other W35 (Or.inl ne_x1_b3)
  have E_x2 := E_x2.wr W35
  have F_bounded_x2 := F_bounded_x2.other W35 (Or.inl ne_x2_b3)
  have F_lower_x2 := F_lower_x2.other W35 (Or.inl ne_x2_b3)
  have F_upper_x2 := F_upper_x2.other W35 (Or.inl ne_x2_b3)
  have E_b3 := E_b3.wr W35
  have V_b5 := V_b5.other W35 (Ne.symm ne_b3_b5)
  have E_b5 := E_b5.wr W35
  have V_b7 := V_b7.other W35 (Ne.symm ne_b3_b7)
  have E_b7 := E_b7.wr W35
  have V_b9 := V_b9.other W35 (Ne.symm ne_b3_b9)
  have E_b9 := E_b9.wr W35
  have V_b3 : Arv Z h35 b3 k3 .int (3 : Int32) [(.int (0 : Int32)), (.int (1 : Int32)), (.int (0 : Int32))] (.int (0 : Int32)) := Arv.set Ar34 q34 S34 N34n H34 G34 rfl W35 1 rfl (Nat.le_of_ble_eq_true rfl)
  have K0_35 := K0_28.wr W35 (Or.inr sz_b3)
  have N35 := Fr.snoc X35 N28 g_b3
  generalize hlc35 : (lc28 ++ [(⟨b3, ((1 : Int32) : Int32).toNatClampNeg⟩ : Loc)] : List Loc) = lc35 at X35 N35
  have Z35 : n0 ≤ h35.size := Nat.le_trans Z28 (Keep.of_wr W35).1
  refine own_st (T' := T35) (g' := (mkF m 95 #[.val (.ref a1), .val (.ref a2), .val (.int (3 : Int32)), .val (.int (2 : Int32)), .val (.int (0 : Int32)), .val (.int ((0 : Int32) + b0)), .val (.int (1 : Int32)), .val (.ref x1), .val (.int b1)] [])) st35 ?_
  refine own_st (T' := T35) (g' := (mkF m 96 #[.val (.ref a1), .val (.ref a2), .val (.int (3 : Int32)), .val (.int (2 : Int32)), .val (.int (0 : Int32)), .val (.int ((0 : Int32) + b0)), .val (.int (1 : Int32)), .val (.ref x1), .val (.int b1)] [(.ref a1)])) (fun t k => XS.aloadN X35.here hx rfl (hb hby own_d13_95) rfl rfl k) ?_
  obtain ⟨T36, X36, e36, st36⟩ := getF X35 hx hZ hown (host := "") (Or.inl (hw _ (List.mem_of_getElem? (i := 121) rfl))) Via.refl e35 F_mask_a1 (g := (mkF m 96 #[.val (.ref a1), .val (.ref a2), .val (.int (3 : Int32)), .val (.int (2 : Int32)), .val (.int (0 : Int32)), .val (.int ((0 : Int32) + b0)), .val (.int (1 : Int32)), .val (.ref x1), .val (.int b1)] [(.ref a1)])) rfl rfl (hb hby own_d13_96)
  refine own_st (T' := T36) (g' := (mkF m 99 #[.val (.ref a1), .val (.ref a2), .val (.int (3 : Int32)), .val (.int (2 : Int32)), .val (.int (0 : Int32)), .val (.int ((0 : Int32) + b0)), .val (.int (1 : Int32)), .val (.ref x1), .val (.int b1)] [(.ref b7)])) st36 ?_
  refine own_st (T' := T36) (g' := (mkF m 101 #[.val (.ref a1), .val (.ref a2), .val (.int (3 : Int32)), .val (.int (2 : Int32)), .val (.int (0 : Int32)), .val (.int ((0 : Int32) + b0)), .val (.int (1 : Int32)), .val (.ref x1), .val (.int b1)] [(.int (1 : Int32)), (.ref b7)])) (fun t k => XS.iload X36.here hx rfl (hb hby own_d13_99) rfl k) ?_
  refine own_st (T' := T36) (g' := (mkF m 104 #[.val (.ref a1), .val (.ref a2), .val (.int (3 : Int32)), .val (.int (2 : Int32)), .val (.int (0 : Int32)), .val (.int ((0 : Int32) + b0)), .val (.int (1 : Int32)), .val (.ref x1), .val (.int b1)] [(.long (-1 : Int64)), (.int (1 : Int32)), (.ref b7)])) (X36.ldc2Long hx hown (mvT hZ (hw _ (List.mem_of_getElem? (i := 175) rfl))) (g := (mkF m 101 #[.val (.ref a1), .val (.ref a2), .val (.int (3 : Int32)), .val (.int (2 : Int32)), .val (.int (0 : Int32)), .val (.int ((0 : Int32) + b0)), .val (.int (1 : Int32)), .val (.ref x1), .val (.int b1)] [(.int (1 : Int32)), (.ref b7)])) rfl (hb hby own_d13_101)) ?_
  obtain ⟨cl37, Ar37, q37, S37, N37n, H37, G37⟩ := V_b7
  have hin37 : ¬ ((1 : Int32) < 0 ∨ cl37.slots.size ≤ ((1 : Int32) : Int32).toNatClampNeg) := inb_of S37 ⟨by decide, by decide⟩
  obtain ⟨T38, h38, X38, e38, W38, st38⟩ := stJ X36 hx hZ e36 Ar37 (j := (1 : Int32)) hin37 (g := (mkF m 104 #[.val (.ref a1), .val (.ref a2), .val (.int (3 : Int32)), .val (.int (2 : Int32)), .val (.int (0 : Int32)), .val (.int ((0 : Int32) + b0)), .val (.int (1 : Int32)), .val (.ref x1), .val (.int b1)] [(.long (-1 : Int64)), (.int (1 : Int32)), (.ref b7)])) rfl rfl (hb hby own_d13_104)
  have E_a1 := E_a1.wr W38
  have F_words_a1 := F_words_a1.other W38 (Or.inl ne_a1_b7)
  have F_word_a1 := F_word_a1.other W38 (Or.inl ne_a1_b7)
  have F_shift_a1 := F_shift_a1.other W38 (Or.inl ne_a1_b7)
  have F_mask_a1 := F_mask_a1.other W38 (Or.inl ne_a1_b7)
  have F_lower_a1 := F_lower_a1.other W38 (Or.inl ne_a1_b7)
  have E_a2 := E_a2.wr W38
  have F_size_a2 := F_size_a2.other W38 (Or.inl ne_a2_b7)
  have F_elementData_a2 := F_elementData_a2.other W38 (Or.inl ne_a2_b7)
  have V_ar := V_ar.other W38 ne_ar_b7
  have E_x0 := E_x0.wr W38
  have F_bounded_x0 := F_bounded_x0.other W38 (Or.inl ne_x0_b7)
  have F_lower_x0 := F_lower_x0.other W38 (Or.inl ne_x0_b7)
  have F_upper_x0 := F_upper_x0.other W38 (Or.inl ne_x0_b7)
  have E_x1 := E_x1.wr W38
  have F_bounded_x1 := F_bounded_x1.other W38 (Or.inl ne_x1_b7)
  have F_lower_x1 := F_lower_x1.other W38 (Or.inl ne_x1_b7)
  have F_upper_x1 := F_upper_x1.other W38 (Or.inl ne_x1_b7)
  have E_x2 := E_x2.wr W38
  have F_bounded_x2 := F_bounded_x2.other W38 (Or.inl ne_x2_b7)
  have F_lower_x2 := F_lower_x2.other W38 (Or.inl ne_x2_b7)
  have F_upper_x2 := F_upper_x2.other W38 (Or.inl ne_x2_b7)
  have V_b3 := V_b3.other W38 ne_b3_b7
  have E_b3 := E_b3.wr W38
  have V_b5 := V_b5.other W38 ne_b5_b7
  have E_b5 := E_b5.wr W38
  have E_b7 := E_b7.wr W38
  have V_b9 := V_b9.other W38 (Ne.symm ne_b7_b9)
  have E_b9 := E_b9.wr W38
  have V_b7 : Arv Z h38 b7 k7 .long (3 : Int32) [(.long (((1 : Int64) <<< (b0 &&& 0x3f).toInt64) - (1 : Int64))), (.long (-1 : Int64)), (.long (0 : Int64))] (.long (0 : Int64)) := Arv.set Ar37 q37 S37 N37n H37 G37 rfl W38 1 rfl (Nat.le_of_ble_eq_true rfl)
  have K0_38 := K0_35.wr W38 (Or.inr sz_b7)
  have N38 := Fr.snoc X38 N35 g_b7
  generalize hlc38 : (lc35 ++ [(⟨b7, ((1 : Int32) : Int32).toNatClampNeg⟩ : Loc)] : List Loc) = lc38 at X38 N38
  have Z38 : n0 ≤ h38.size := Nat.le_trans Z35 (Keep.of_wr W38).1
  refine own_st (T' := T38) (g' := (mkF m 105 #[.val (.ref a1), .val (.ref a2), .val (.int (3 : Int32)), .val (.int (2 : Int32)), .val (.int (0 : Int32)), .val (.int ((0 : Int32) + b0)), .val (.int (1 : Int32)), .val (.ref x1), .val (.int b1)] [])) st38 ?_
  refine own_st (T' := T38) (g' := (mkF m 177 #[.val (.ref a1), .val (.ref a2), .val (.int (3 : Int32)), .val (.int (2 : Int32)), .val (.int (0 : Int32)), .val (.int ((0 : Int32) + b0)), .val (.int (1 : Int32)), .val (.ref x1), .val (.int b1)] [])) (fun t k => XS.goto X38.here hx rfl (pc0 := 105) (pc' := 177) rfl (hb hby own_d13_105) (by decide) (by decide) k) ?_
  refine own_st (T' := T38) (g' := (mkF m 180 #[.val (.ref a1), .val (.ref a2), .val (.int (3 : Int32)), .val (.int (2 : Int32)), .val (.int (0 : Int32)), .val (.int ((0 : Int32) + b0)), .val (.int (2 : Int32)), .val (.ref x1), .val (.int b1)] [])) (fun t k => XS.iinc X38.here hx rfl (hb hby own_d13_177) rfl (l' := #[.val (.ref a1), .val (.ref a2), .val (.int (3 : Int32)), .val (.int (2 : Int32)), .val (.int (0 : Int32)), .val (.int ((0 : Int32) + b0)), .val (.int (2 : Int32)), .val (.ref x1), .val (.int b1)]) rfl k) ?_
  refine own_st (T' := T38) (g' := (mkF m 51 #[.val (.ref a1), .val (.ref a2), .val (.int (3 : Int32)), .val (.int (2 : Int32)), .val (.int (0 : Int32)), .val (.int ((0 : Int32) + b0)), .val (.int (2 : Int32)), .val (.ref x1), .val (.int b1)] [])) (fun t k => XS.goto X38.here hx rfl (pc0 := 180) (pc' := 51) rfl (hb hby own_d13_180) (by decide) (by decide) k) ?_
  refine own_st (T' := T38) (g' := (mkF m 53 #[.val (.ref a1), .val (.ref a2), .val (.int (3 : Int32)), .val (.int (2 : Int32)), .val (.int (0 : Int32)), .val (.int ((0 : Int32) + b0)), .val (.int (2 : Int32)), .val (.ref x1), .val (.int b1)] [(.int (2 : Int32))])) (fun t k => XS.iload X38.here hx rfl (hb hby own_d13_51) rfl k) ?_
  refine own_st (T' := T38) (g' := (mkF m 54 #[.val (.ref a1), .val (.ref a2), .val (.int (3 : Int32)), .val (.int (2 : Int32)), .val (.int (0 : Int32)), .val (.int ((0 : Int32) + b0)), .val (.int (2 : Int32)), .val (.ref x1), .val (.int b1)] [(.int (3 : Int32)), (.int (2 : Int32))])) (fun t k => XS.iloadN X38.here hx rfl (hb hby own_d13_53) rfl k) ?_
  refine own_st (T' := T38) (g' := (mkF m 57 #[.val (.ref a1), .val (.ref a2), .val (.int (3 : Int32)), .val (.int (2 : Int32)), .val (.int (0 : Int32)), .val (.int ((0 : Int32) + b0)), .val (.int (2 : Int32)), .val (.ref x1), .val (.int b1)] [])) (fun t k => XS.icmpNo X38.here hx rfl (hb hby own_d13_54) rfl (tlt (by decide)).2.1 k) ?_
  refine own_st (T' := T38) (g' := (mkF m 58 #[.val (.ref a1), .val (.ref a2), .val (.int (3 : Int32)), .val (.int (2 : Int32)), .val (.int (0 : Int32)), .val (.int ((0 : Int32) + b0)), .val (.int (2 : Int32)), .val (.ref x1), .val (.int b1)] [(.ref a2)])) (fun t k => XS.aloadN X38.here hx rfl (hb hby own_d13_57) rfl rfl k) ?_
  refine own_st (T' := T38) (g' := (mkF m 60 #[.val (.ref a1), .val (.ref a2), .val (.int (3 : Int32)), .val (.int (2 : Int32)), .val (.int (0 : Int32)), .val (.int ((0 : Int32) + b0)), .val (.int (2 : Int32)), .val (.ref x1), .val (.int b1)] [(.int (2 : Int32)), (.ref a2)])) (fun t k => XS.iload X38.here hx rfl (hb hby own_d13_58) rfl k) ?_
  obtain ⟨_, T39, L39, hQ39, X39, st39⟩ := own_callF (y := (⟨"java/util/List", "get", "(I)Ljava/lang/Object;"⟩ : MethodName)) (z := (⟨"java/util/ArrayList", "get", "(I)Ljava/lang/Object;"⟩ : MethodName)) (argsL := [(.int (2 : Int32))]) 0 [] (K := "java/util/ArrayList") (own_rm15n2 l Z a0 hw h38 n0 Z38 a2 ar x0 x1 x2 ka E_a2 F_size_a2 F_elementData_a2 V_ar) X38 hx hZ hown (hw _ (List.mem_of_getElem? (i := 125) rfl)) (hw _ (List.mem_of_getElem? (i := 126) rfl)) (mvT hZ (hw _ (List.mem_of_getElem? (i := 127) rfl))) (hw _ (List.mem_of_getElem? (i := 128) rfl)) (hw _ (List.mem_of_getElem? (i := 129) rfl)) (hw _ (List.mem_of_getElem? (i := 130) rfl)) (hw _ (List.mem_of_getElem? (i := 131) rfl)) (hw _ (List.mem_of_getElem? (i := 113) rfl)) (hw _ (List.mem_of_getElem? (i := 132) rfl)) (hw _ (List.mem_of_getElem? (i := 7) rfl)) (by decide) (by decide) (by decide) (by decide) (by decide) e38 E_a2 (g := (mkF m 60 #[.val (.ref a1), .val (.ref a2), .val (.int (3 : Int32)), .val (.int (2 : Int32)), .val (.int (0 : Int32)), .val (.int ((0 : Int32) + b0)), .val (.int (2 : Int32)), .val (.ref x1), .val (.int b1)] [(.int (2 : Int32)), (.ref a2)])) rfl (by rw [hml]; rfl) (lenOf own_pd6 rfl) rfl (by show 2 * 0 + _ ≤ _; exact Nat.le_of_eq rfl) (hb hby own_d13_60)
  obtain ⟨rfl, e39, rfl⟩ := hQ39
  have X39 : Stand p l e ({ frames := 3, cells := 4, slots := 12, locals := 60 } : Room) s m #[(.ref a1), (.ref a2)] below meth c T39 lc38 4 12 := by have := X39; rwa [List.append_nil] at this
  refine own_st (T' := T39) (g' := (mkF m 65 #[.val (.ref a1), .val (.ref a2), .val (.int (3 : Int32)), .val (.int (2 : Int32)), .val (.int (0 : Int32)), .val (.int ((0 : Int32) + b0)), .val (.int (2 : Int32)), .val (.ref x1), .val (.int b1)] [(.ref x2)])) st39 ?_
  obtain ⟨T40, X40, e40, st40⟩ := castY X39 hx hZ hown (hw _ (List.mem_of_getElem? (i := 146) rfl)) e39 (Ins.self E_x2) (g := (mkF m 65 #[.val (.ref a1), .val (.ref a2), .val (.int (3 : Int32)), .val (.int (2 : Int32)), .val (.int (0 : Int32)), .val (.int ((0 : Int32) + b0)), .val (.int (2 : Int32)), .val (.ref x1), .val (.int b1)] [(.ref x2)])) rfl rfl (hb hby own_d13_65)
  refine own_st (T' := T40) (g' := (mkF m 68 #[.val (.ref a1), .val (.ref a2), .val (.int (3 : Int32)), .val (.int (2 : Int32)), .val (.int (0 : Int32)), .val (.int ((0 : Int32) + b0)), .val (.int (2 : Int32)), .val (.ref x1), .val (.int b1)] [(.ref x2)])) st40 ?_
  refine own_st (T' := T40) (g' := (mkF m 70 #[.val (.ref a1), .val (.ref a2), .val (.int (3 : Int32)), .val (.int (2 : Int32)), .val (.int (0 : Int32)), .val (.int ((0 : Int32) + b0)), .val (.int (2 : Int32)), .val (.ref x2), .val (.int b1)] [])) (fun t k => XS.astore X40.here hx rfl (hb hby own_d13_68) rfl rfl (l' := #[.val (.ref a1), .val (.ref a2), .val (.int (3 : Int32)), .val (.int (2 : Int32)), .val (.int (0 : Int32)), .val (.int ((0 : Int32) + b0)), .val (.int (2 : Int32)), .val (.ref x2), .val (.int b1)]) rfl k) ?_
  refine own_st (T' := T40) (g' := (mkF m 72 #[.val (.ref a1), .val (.ref a2), .val (.int (3 : Int32)), .val (.int (2 : Int32)), .val (.int (0 : Int32)), .val (.int ((0 : Int32) + b0)), .val (.int (2 : Int32)), .val (.ref x2), .val (.int b1)] [(.ref x2)])) (fun t k => XS.aload X40.here hx rfl (hb hby own_d13_70) rfl rfl k) ?_
  obtain ⟨_, T41, L41, hQ41, X41, st41⟩ := own_callS (y := (⟨"com/example/astraea/astraea/explicit/StateLayout", "bitsFor", "(Lcom/example/astraea/astraea/lang/Variable;)I"⟩ : MethodName)) (argsL := [(.ref x2)]) 0 [] (own_rm19 l Z a0 hw h38 n0 Z38 x2 z2 lo2 up2 hz2 E_x2 F_bounded_x2 F_lower_x2 F_upper_x2 b2 hb2) X40 hx hZ hown (hw _ (List.mem_of_getElem? (i := 148) rfl)) (hw _ (List.mem_of_getElem? (i := 149) rfl)) (hw _ (List.mem_of_getElem? (i := 101) rfl)) (hw _ (List.mem_of_getElem? (i := 150) rfl)) (by decide) (by decide) (by decide) (by decide) (by decide) e40 (g := (mkF m 72 #[.val (.ref a1), .val (.ref a2), .val (.int (3 : Int32)), .val (.int (2 : Int32)), .val (.int (0 : Int32)), .val (.int ((0 : Int32) + b0)), .val (.int (2 : Int32)), .val (.ref x2), .val (.int b1)] [(.ref x2)])) rfl (by rw [hml]; rfl) (lenOf own_pd12 rfl) rfl (by show 2 * 0 + _ ≤ _; exact Nat.le_of_eq rfl) (hb hby own_d13_72)
  obtain ⟨rfl, e41, rfl⟩ := hQ41
  have X41 : Stand p l e ({ frames := 3, cells := 4, slots := 12, locals := 60 } : Room) s m #[(.ref a1), (.ref a2)] below meth c T41 lc38 4 12 := by have := X41; rwa [List.append_nil] at this
  refine own_st (T' := T41) (g' := (mkF m 75 #[.val (.ref a1), .val (.ref a2), .val (.int (3 : Int32)), .val (.int (2 : Int32)), .val (.int (0 : Int32)), .val (.int ((0 : Int32) + b0)), .val (.int (2 : Int32)), .val (.ref x2), .val (.int b1)] [(.int b2)])) st41 ?_
  refine own_st (T' := T41) (g' := (mkF m 77 #[.val (.ref a1), .val (.ref a2), .val (.int (3 : Int32)), .val (.int (2 : Int32)), .val (.int (0 : Int32)), .val (.int ((0 : Int32) + b0)), .val (.int (2 : Int32)), .val (.ref x2), .val (.int b2)] [])) (fun t k => XS.istore X41.here hx rfl (hb hby own_d13_75) rfl (l' := #[.val (.ref a1), .val (.ref a2), .val (.int (3 : Int32)), .val (.int (2 : Int32)), .val (.int (0 : Int32)), .val (.int ((0 : Int32) + b0)), .val (.int (2 : Int32)), .val (.ref x2), .val (.int b2)]) rfl k) ?_
  refine own_st (T' := T41) (g' := (mkF m 79 #[.val (.ref a1), .val (.ref a2), .val (.int (3 : Int32)), .val (.int (2 : Int32)), .val (.int (0 : Int32)), .val (.int ((0 : Int32) + b0)), .val (.int (2 : Int32)), .val (.ref x2), .val (.int b2)] [(.int b2)])) (fun t k => XS.iload X41.here hx rfl (hb hby own_d13_77) rfl k) ?_
  refine own_st (T' := T41) (g' := (mkF m 81 #[.val (.ref a1), .val (.ref a2), .val (.int (3 : Int32)), .val (.int (2 : Int32)), .val (.int (0 : Int32)), .val (.int ((0 : Int32) + b0)), .val (.int (2 : Int32)), .val (.ref x2), .val (.int b2)] [(.int (64 : Int32)), (.int b2)])) (fun t k => XS.bipush X41.here hx rfl (hb hby own_d13_79) k) ?_
  have hk42 : ¬ (b2 = (64 : Int32)) := h64_2
  refine own_st (T' := T41) (g' := (mkF m 108 #[.val (.ref a1), .val (.ref a2), .val (.int (3 : Int32)), .val (.int (2 : Int32)), .val (.int (0 : Int32)), .val (.int ((0 : Int32) + b0)), .val (.int (2 : Int32)), .val (.ref x2), .val (.int b2)] [])) (fun t k => XS.icmpYes X41.here hx rfl (pc0 := 81) (pc' := 108) rfl (hb hby own_d13_81) rfl (feq hk42).2 (by decide) (by decide) k) ?_
  refine own_st (T' := T41) (g' := (mkF m 110 #[.val (.ref a1), .val (.ref a2), .val (.int (3 : Int32)), .val (.int (2 : Int32)), .val (.int (0 : Int32)), .val (.int ((0 : Int32) + b0)), .val (.int (2 : Int32)), .val (.ref x2), .val (.int b2)] [(.int ((0 : Int32) + b0))])) (fun t k => XS.iload X41.here hx rfl (hb hby own_d13_108) rfl k) ?_
  refine own_st (T' := T41) (g' := (mkF m 112 #[.val (.ref a1), .val (.ref a2), .val (.int (3 : Int32)), .val (.int (2 : Int32)), .val (.int (0 : Int32)), .val (.int ((0 : Int32) + b0)), .val (.int (2 : Int32)), .val (.ref x2), .val (.int b2)] [(.int b2), (.int ((0 : Int32) + b0))])) (fun t k => XS.iload X41.here hx rfl (hb hby own_d13_110) rfl k) ?_
  refine own_st (T' := T41) (g' := (mkF m 113 #[.val (.ref a1), .val (.ref a2), .val (.int (3 : Int32)), .val (.int (2 : Int32)), .val (.int (0 : Int32)), .val (.int ((0 : Int32) + b0)), .val (.int (2 : Int32)), .val (.ref x2), .val (.int b2)] [(.int (((0 : Int32) + b0) + b2))])) (fun t k => XS.iadd X41.here hx rfl (hb hby own_d13_112) rfl k) ?_
  refine own_st (T' := T41) (g' := (mkF m 115 #[.val (.ref a1), .val (.ref a2), .val (.int (3 : Int32)), .val (.int (2 : Int32)), .val (.int (0 : Int32)), .val (.int ((0 : Int32) + b0)), .val (.int (2 : Int32)), .val (.ref x2), .val (.int b2)] [(.int (64 : Int32)), (.int (((0 : Int32) + b0) + b2))])) (fun t k => XS.bipush X41.here hx rfl (hb hby own_d13_113) k) ?_
  by_cases hc115_43 : (64 : Int32) < (((0 : Int32) + b0) + b2)
  ·
    refine own_st (T' := T41) (g' := (mkF m 118 #[.val (.ref a1), .val (.ref a2), .val (.int (3 : Int32)), .val (.int (2 : Int32)), .val (.int (0 : Int32)), .val (.int ((0 : Int32) + b0)), .val (.int (2 : Int32)), .val (.ref x2), .val (.int b2)] [])) (fun t k => XS.icmpNo X41.here hx rfl (hb hby own_d13_115) rfl (tlt hc115_43).2.2.2 k) ?_
    refine own_st (T' := T41) (g' := (mkF m 119 #[.val (.ref a1), .val (.ref a2), .val (.int (3 : Int32)), .val (.int (2 : Int32)), .val (.int (0 : Int32)), .val (.int ((0 : Int32) + b0)), .val (.int (2 : Int32)), .val (.ref x2), .val (.int b2)] [(.int (2 : Int32))])) (fun t k => XS.iloadN X41.here hx rfl (hb hby own_d13_118) rfl k) ?_
    refine own_st (T' := T41) (g' := (mkF m 122 #[.val (.ref a1), .val (.ref a2), .val (.int (3 : Int32)), .val (.int (3 : Int32)), .val (.int (0 : Int32)), .val (.int ((0 : Int32) + b0)), .val (.int (2 : Int32)), .val (.ref x2), .val (.int b2)] [(.int (2 : Int32))])) (fun t k => XS.iinc X41.here hx rfl (hb hby own_d13_119) rfl (l' := #[.val (.ref a1), .val (.ref a2), .val (.int (3 : Int32)), .val (.int (3 : Int32)), .val (.int (0 : Int32)), .val (.int ((0 : Int32) + b0)), .val (.int (2 : Int32)), .val (.ref x2), .val (.int b2)]) rfl k) ?_
    refine own_st (T' := T41) (g' := (mkF m 124 #[.val (.ref a1), .val (.ref a2), .val (.int (3 : Int32)), .val (.int (3 : Int32)), .val (.int (2 : Int32)), .val (.int ((0 : Int32) + b0)), .val (.int (2 : Int32)), .val (.ref x2), .val (.int b2)] [])) (fun t k => XS.istore X41.here hx rfl (hb hby own_d13_122) rfl (l' := #[.val (.ref a1), .val (.ref a2), .val (.int (3 : Int32)), .val (.int (3 : Int32)), .val (.int (2 : Int32)), .val (.int ((0 : Int32) + b0)), .val (.int (2 : Int32)), .val (.ref x2), .val (.int b2)]) rfl k) ?_
    refine own_st (T' := T41) (g' := (mkF m 125 #[.val (.ref a1), .val (.ref a2), .val (.int (3 : Int32)), .val (.int (3 : Int32)), .val (.int (2 : Int32)), .val (.int ((0 : Int32) + b0)), .val (.int (2 : Int32)), .val (.ref x2), .val (.int b2)] [(.int (0 : Int32))])) (fun t k => XS.iconst X41.here hx rfl (hb hby own_d13_124) k) ?_
    refine own_st (T' := T41) (g' := (mkF m 127 #[.val (.ref a1), .val (.ref a2), .val (.int (3 : Int32)), .val (.int (3 : Int32)), .val (.int (2 : Int32)), .val (.int (0 : Int32)), .val (.int (2 : Int32)), .val (.ref x2), .val (.int b2)] [])) (fun t k => XS.istore X41.here hx rfl (hb hby own_d13_125) rfl (l' := #[.val (.ref a1), .val (.ref a2), .val (.int (3 : Int32)), .val (.int (3 : Int32)), .val (.int (2 : Int32)), .val (.int (0 : Int32)), .val (.int (2 : Int32)), .val (.ref x2), .val (.int b2)]) rfl k) ?_
    refine own_st (T' := T41) (g' := (mkF m 128 #[.val (.ref a1), .val (.ref a2), .val (.int (3 : Int32)), .val (.int (3 : Int32)), .val (.int (2 : Int32)), .val (.int (0 : Int32)), .val (.int (2 : Int32)), .val (.ref x2), .val (.int b2)] [(.ref a1)])) (fun t k => XS.aloadN X41.here hx rfl (hb hby own_d13_127) rfl rfl k) ?_
    obtain ⟨T44, X44, e44, st44⟩ := getF X41 hx hZ hown (host := "") (Or.inl (hw _ (List.mem_of_getElem? (i := 116) rfl))) Via.refl e41 F_word_a1 (g := (mkF m 128 #[.val (.ref a1), .val (.ref a2), .val (.int (3 : Int32)), .val (.int (3 : Int32)), .val (.int (2 : Int32)), .val (.int (0 : Int32)), .val (.int (2 : Int32)), .val (.ref x2), .val (.int b2)] [(.ref a1)])) rfl rfl (hb hby own_d13_128)
    refine own_st (T' := T44) (g' := (mkF m 131 #[.val (.ref a1), .val (.ref a2), .val (.int (3 : Int32)), .val (.int (3 : Int32)), .val (.int (2 : Int32)), .val (.int (0 : Int32)), .val (.int (2 : Int32)), .val (.ref x2), .val (.int b2)] [(.ref b3)])) st44 ?_
    refine own_st (T' := T44) (g' := (mkF m 133 #[.val (.ref a1), .val (.ref a2), .val (.int (3 : Int32)), .val (.int (3 : Int32)), .val (.int (2 : Int32)), .val (.int (0 : Int32)), .val (.int (2 : Int32)), .val (.ref x2), .val (.int b2)] [(.int (2 : Int32)), (.ref b3)])) (fun t k => XS.iload X44.here hx rfl (hb hby own_d13_131) rfl k) ?_
    refine own_st (T' := T44) (g' := (mkF m 135 #[.val (.ref a1), .val (.ref a2), .val (.int (3 : Int32)), .val (.int (3 : Int32)), .val (.int (2 : Int32)), .val (.int (0 : Int32)), .val (.int (2 : Int32)), .val (.ref x2), .val (.int b2)] [(.int (2 : Int32)), (.int (2 : Int32)), (.ref b3)])) (fun t k => XS.iload X44.here hx rfl (hb hby own_d13_133) rfl k) ?_
    obtain ⟨cl45, Ar45, q45, S45, N45n, H45, G45⟩ := V_b3
    have hin45 : ¬ ((2 : Int32) < 0 ∨ cl45.slots.size ≤ ((2 : Int32) : Int32).toNatClampNeg) := inb_of S45 ⟨by decide, by decide⟩
    obtain ⟨T46, h46, X46, e46, W46, st46⟩ := stI X44 hx hZ e44 Ar45 (j := (2 : Int32)) hin45 (g := (mkF m 135 #[.val (.ref a1), .val (.ref a2), .val (.int (3 : Int32)), .val (.int (3 : Int32)), .val (.int (2 : Int32)), .val (.int (0 : Int32)), .val (.int (2 : Int32)), .val (.ref x2), .val (.int b2)] [(.int (2 : Int32)), (.int (2 : Int32)), (.ref b3)])) rfl rfl (hb hby own_d13_135)
    have E_a1 := E_a1.wr W46
    have F_words_a1 := F_words_a1.other W46 (Or.inl ne_a1_b3)
    have F_word_a1 := F_word_a1.other W46 (Or.inl ne_a1_b3)
    have F_shift_a1 := F_shift_a1.other W46 (Or.inl ne_a1_b3)
    have F_mask_a1 := F_mask_a1.other W46 (Or.inl ne_a1_b3)
    have F_lower_a1 := F_lower_a1.other W46 (Or.inl ne_a1_b3)
    have E_a2 := E_a2.wr W46
    have F_size_a2 := F_size_a2.other W46 (Or.inl ne_a2_b3)
    have F_elementData_a2 := F_elementData_a2.other W46 (Or.inl ne_a2_b3)
    have V_ar := V_ar.other W46 ne_ar_b3
    have E_x0 := E_x0.wr W46
    have F_bounded_x0 := F_bounded_x0.other W46 (Or.inl ne_x0_b3)
    have F_lower_x0 := F_lower_x0.other W46 (Or.inl ne_x0_b3)
    have F_upper_x0 := F_upper_x0.other W46 (Or.inl ne_x0_b3)
    have E_x1 := E_x1.wr W46
    have F_bounded_x1 := F_bounded_x1.other W46 (Or.inl ne_x1_b3)
    have F_lower_x1 := F_lower_x1.other W46 (Or.inl ne_x1_b3)
    have F_upper_x1 := F_upper_x1.other W46 (Or.inl ne_x1_b3)
    have E_x2 := E_x2.wr W46
    have F_bounded_x2 := F_bounded_x2.other W46 (Or.inl ne_x2_b3)
    have F_lower_x2 := F_lower_x2.other W46 (Or.inl ne_x2_b3)
    have F_upper_x2 := F_upper_x2.other W46 (Or.inl ne_x2_b3)
    have E_b3 := E_b3.wr W46
    have V_b5 := V_b5.other W46 (Ne.symm ne_b3_b5)
    have E_b5 := E_b5.wr W46
    have V_b7 := V_b7.other W46 (Ne.symm ne_b3_b7)
    have E_b7 := E_b7.wr W46
    have V_b9 := V_b9.other W46 (Ne.symm ne_b3_b9)
    have E_b9 := E_b9.wr W46
    have V_b3 : Arv Z h46 b3 k3 .int (3 : Int32) [(.int (0 : Int32)), (.int (1 : Int32)), (.int (2 : Int32))] (.int (0 : Int32)) := Arv.set Ar45 q45 S45 N45n H45 G45 rfl W46 2 rfl (Nat.le_of_ble_eq_true rfl)
    have K0_46 := K0_38.wr W46 (Or.inr sz_b3)
    have N46 := Fr.snoc X46 N38 g_b3
    generalize hlc46 : (lc38 ++ [(⟨b3, ((2 : Int32) : Int32).toNatClampNeg⟩ : Loc)] : List Loc) = lc46 at X46 N46
    have Z46 : n0 ≤ h46.size := Nat.le_trans Z38 (Keep.of_wr W46).1
    refine own_st (T' := T46) (g' := (mkF m 136 #[.val (.ref a1), .val (.ref a2), .val (.int (3 : Int32)), .val (.int (3 : Int32)), .val (.int (2 : Int32)), .val (.int (0 : Int32)), .val (.int (2 : Int32)), .val (.ref x2), .val (.int b2)] [])) st46 ?_
    refine own_st (T' := T46) (g' := (mkF m 137 #[.val (.ref a1), .val (.ref a2), .val (.int (3 : Int32)), .val (.int (3 : Int32)), .val (.int (2 : Int32)), .val (.int (0 : Int32)), .val (.int (2 : Int32)), .val (.ref x2), .val (.int b2)] [(.ref a1)])) (fun t k => XS.aloadN X46.here hx rfl (hb hby own_d13_136) rfl rfl k) ?_
    obtain ⟨T47, X47, e47, st47⟩ := getF X46 hx hZ hown (host := "") (Or.inl (hw _ (List.mem_of_getElem? (i := 118) rfl))) Via.refl e46 F_shift_a1 (g := (mkF m 137 #[.val (.ref a1), .val (.ref a2), .val (.int (3 : Int32)), .val (.int (3 : Int32)), .val (.int (2 : Int32)), .val (.int (0 : Int32)), .val (.int (2 : Int32)), .val (.ref x2), .val (.int b2)] [(.ref a1)])) rfl rfl (hb hby own_d13_137)
    refine own_st (T' := T47) (g' := (mkF m 140 #[.val (.ref a1), .val (.ref a2), .val (.int (3 : Int32)), .val (.int (3 : Int32)), .val (.int (2 : Int32)), .val (.int (0 : Int32)), .val (.int (2 : Int32)), .val (.ref x2), .val (.int b2)] [(.ref b5)])) st47 ?_
    refine own_st (T' := T47) (g' := (mkF m 142 #[.val (.ref a1), .val (.ref a2), .val (.int (3 : Int32)), .val (.int (3 : Int32)), .val (.int (2 : Int32)), .val (.int (0 : Int32)), .val (.int (2 : Int32)), .val (.ref x2), .val (.int b2)] [(.int (2 : Int32)), (.ref b5)])) (fun t k => XS.iload X47.here hx rfl (hb hby own_d13_140) rfl k) ?_
    refine own_st (T' := T47) (g' := (mkF m 144 #[.val (.ref a1), .val (.ref a2), .val (.int (3 : Int32)), .val (.int (3 : Int32)), .val (.int (2 : Int32)), .val (.int (0 : Int32)), .val (.int (2 : Int32)), .val (.ref x2), .val (.int b2)] [(.int (0 : Int32)), (.int (2 : Int32)), (.ref b5)])) (fun t k => XS.iload X47.here hx rfl (hb hby own_d13_142) rfl k) ?_
    obtain ⟨cl48, Ar48, q48, S48, N48n, H48, G48⟩ := V_b5
    have hin48 : ¬ ((2 : Int32) < 0 ∨ cl48.slots.size ≤ ((2 : Int32) : Int32).toNatClampNeg) := inb_of S48 ⟨by decide, by decide⟩
    obtain ⟨T49, h49, X49, e49, W49, st49⟩ := stI X47 hx hZ e47 Ar48 (j := (2 : Int32)) hin48 (g := (mkF m 144 #[.val (.ref a1), .val (.ref a2), .val (.int (3 : Int32)), .val (.int (3 : Int32)), .val (.int (2 : Int32)), .val (.int (0 : Int32)), .val (.int (2 : Int32)), .val (.ref x2), .val (.int b2)] [(.int (0 : Int32)), (.int (2 : Int32)), (.ref b5)])) rfl rfl (hb hby own_d13_144)
    have E_a1 := E_a1.wr W49
    have F_words_a1 := F_words_a1.other W49 (Or.inl ne_a1_b5)
    have F_word_a1 := F_word_a1.other W49 (Or.inl ne_a1_b5)
    have F_shift_a1 := F_shift_a1.other W49 (Or.inl ne_a1_b5)
    have F_mask_a1 := F_mask_a1.other W49 (Or.inl ne_a1_b5)
    have F_lower_a1 := F_lower_a1.other W49 (Or.inl ne_a1_b5)
    have E_a2 := E_a2.wr W49
    have F_size_a2 := F_size_a2.other W49 (Or.inl ne_a2_b5)
    have F_elementData_a2 := F_elementData_a2.other W49 (Or.inl ne_a2_b5)
    have V_ar := V_ar.other W49 ne_ar_b5
    have E_x0 := E_x0.wr W49
    have F_bounded_x0 := F_bounded_x0.other W49 (Or.inl ne_x0_b5)
    have F_lower_x0 := F_lower_x0.other W49 (Or.inl ne_x0_b5)
    have F_upper_x0 := F_upper_x0.other W49 (Or.inl ne_x0_b5)
    have E_x1 := E_x1.wr W49
    have F_bounded_x1 := F_bounded_x1.other W49 (Or.inl ne_x1_b5)
    have F_lower_x1 := F_lower_x1.other W49 (Or.inl ne_x1_b5)
    have F_upper_x1 := F_upper_x1.other W49 (Or.inl ne_x1_b5)
    have E_x2 := E_x2.wr W49
    have F_bounded_x2 := F_bounded_x2.other W49 (Or.inl ne_x2_b5)
    have F_lower_x2 := F_lower_x2.other W49 (Or.inl ne_x2_b5)
    have F_upper_x2 := F_upper_x2.other W49 (Or.inl ne_x2_b5)
    have V_b3 := V_b3.other W49 ne_b3_b5
    have E_b3 := E_b3.wr W49
    have E_b5 := E_b5.wr W49
    have V_b7 := V_b7.other W49 (Ne.symm ne_b5_b7)
    have E_b7 := E_b7.wr W49
    have V_b9 := V_b9.other W49 (Ne.symm ne_b5_b9)
    have E_b9 := E_b9.wr W49
    have V_b5 : Arv Z h49 b5 k5 .int (3 : Int32) [(.int (0 : Int32)), (.int (0 : Int32)), (.int (0 : Int32))] (.int (0 : Int32)) := Arv.set Ar48 q48 S48 N48n H48 G48 rfl W49 2 rfl (Nat.le_of_ble_eq_true rfl)
    have K0_49 := K0_46.wr W49 (Or.inr sz_b5)
    have N49 := Fr.snoc X49 N46 g_b5
    generalize hlc49 : (lc46 ++ [(⟨b5, ((2 : Int32) : Int32).toNatClampNeg⟩ : Loc)] : List Loc) = lc49 at X49 N49
    have Z49 : n0 ≤ h49.size := Nat.le_trans Z46 (Keep.of_wr W49).1
    refine own_st (T' := T49) (g' := (mkF m 145 #[.val (.ref a1), .val (.ref a2), .val (.int (3 : Int32)), .val (.int (3 : Int32)), .val (.int (2 : Int32)), .val (.int (0 : Int32)), .val (.int (2 : Int32)), .val (.ref x2), .val (.int b2)] [])) st49 ?_
    refine own_st (T' := T49) (g' := (mkF m 146 #[.val (.ref a1), .val (.ref a2), .val (.int (3 : Int32)), .val (.int (3 : Int32)), .val (.int (2 : Int32)), .val (.int (0 : Int32)), .val (.int (2 : Int32)), .val (.ref x2), .val (.int b2)] [(.ref a1)])) (fun t k => XS.aloadN X49.here hx rfl (hb hby own_d13_145) rfl rfl k) ?_
    obtain ⟨T50, X50, e50, st50⟩ := getF X49 hx hZ hown (host := "") (Or.inl (hw _ (List.mem_of_getElem? (i := 121) rfl))) Via.refl e49 F_mask_a1 (g := (mkF m 146 #[.val (.ref a1), .val (.ref a2), .val (.int (3 : Int32)), .val (.int (3 : Int32)), .val (.int (2 : Int32)), .val (.int (0 : Int32)), .val (.int (2 : Int32)), .val (.ref x2), .val (.int b2)] [(.ref a1)])) rfl rfl (hb hby own_d13_146)
    refine own_st (T' := T50) (g' := (mkF m 149 #[.val (.ref a1), .val (.ref a2), .val (.int (3 : Int32)), .val (.int (3 : Int32)), .val (.int (2 : Int32)), .val (.int (0 : Int32)), .val (.int (2 : Int32)), .val (.ref x2), .val (.int b2)] [(.ref b7)])) st50 ?_
    refine own_st (T' := T50) (g' := (mkF m 151 #[.val (.ref a1), .val (.ref a2), .val (.int (3 : Int32)), .val (.int (3 : Int32)), .val (.int (2 : Int32)), .val (.int (0 : Int32)), .val (.int (2 : Int32)), .val (.ref x2), .val (.int b2)] [(.int (2 : Int32)), (.ref b7)])) (fun t k => XS.iload X50.here hx rfl (hb hby own_d13_149) rfl k) ?_
    refine own_st (T' := T50) (g' := (mkF m 152 #[.val (.ref a1), .val (.ref a2), .val (.int (3 : Int32)), .val (.int (3 : Int32)), .val (.int (2 : Int32)), .val (.int (0 : Int32)), .val (.int (2 : Int32)), .val (.ref x2), .val (.int b2)] [(.long (1 : Int64)), (.int (2 : Int32)), (.ref b7)])) (fun t k => XS.lconst X50.here hx rfl (hb hby own_d13_151) k) ?_
    refine own_st (T' := T50) (g' := (mkF m 154 #[.val (.ref a1), .val (.ref a2), .val (.int (3 : Int32)), .val (.int (3 : Int32)), .val (.int (2 : Int32)), .val (.int (0 : Int32)), .val (.int (2 : Int32)), .val (.ref x2), .val (.int b2)] [(.int b2), (.long (1 : Int64)), (.int (2 : Int32)), (.ref b7)])) (fun t k => XS.iload X50.here hx rfl (hb hby own_d13_152) rfl k) ?_
    refine own_st (T' := T50) (g' := (mkF m 155 #[.val (.ref a1), .val (.ref a2), .val (.int (3 : Int32)), .val (.int (3 : Int32)), .val (.int (2 : Int32)), .val (.int (0 : Int32)), .val (.int (2 : Int32)), .val (.ref x2), .val (.int b2)] [(.long ((1 : Int64) <<< (b2 &&& 0x3f).toInt64)), (.int (2 : Int32)), (.ref b7)])) (fun t k => XS.lshl X50.here hx rfl (hb hby own_d13_154) rfl k) ?_
    refine own_st (T' := T50) (g' := (mkF m 156 #[.val (.ref a1), .val (.ref a2), .val (.int (3 : Int32)), .val (.int (3 : Int32)), .val (.int (2 : Int32)), .val (.int (0 : Int32)), .val (.int (2 : Int32)), .val (.ref x2), .val (.int b2)] [(.long (1 : Int64)), (.long ((1 : Int64) <<< (b2 &&& 0x3f).toInt64)), (.int (2 : Int32)), (.ref b7)])) (fun t k => XS.lconst X50.here hx rfl (hb hby own_d13_155) k) ?_
    refine own_st (T' := T50) (g' := (mkF m 157 #[.val (.ref a1), .val (.ref a2), .val (.int (3 : Int32)), .val (.int (3 : Int32)), .val (.int (2 : Int32)), .val (.int (0 : Int32)), .val (.int (2 : Int32)), .val (.ref x2), .val (.int b2)] [(.long (((1 : Int64) <<< (b2 &&& 0x3f).toInt64) - (1 : Int64))), (.int (2 : Int32)), (.ref b7)])) (fun t k => XS.lsub X50.here hx rfl (hb hby own_d13_156) rfl k) ?_
    obtain ⟨cl51, Ar51, q51, S51, N51n, H51, G51⟩ := V_b7
    have hin51 : ¬ ((2 : Int32) < 0 ∨ cl51.slots.size ≤ ((2 : Int32) : Int32).toNatClampNeg) := inb_of S51 ⟨by decide, by decide⟩
    obtain ⟨T52, h52, X52, e52, W52, st52⟩ := stJ X50 hx hZ e50 Ar51 (j := (2 : Int32)) hin51 (g := (mkF m 157 #[.val (.ref a1), .val (.ref a2), .val (.int (3 : Int32)), .val (.int (3 : Int32)), .val (.int (2 : Int32)), .val (.int (0 : Int32)), .val (.int (2 : Int32)), .val (.ref x2), .val (.int b2)] [(.long (((1 : Int64) <<< (b2 &&& 0x3f).toInt64) - (1 : Int64))), (.int (2 : Int32)), (.ref b7)])) rfl rfl (hb hby own_d13_157)
    have E_a1 := E_a1.wr W52
    have F_words_a1 := F_words_a1.other W52 (Or.inl ne_a1_b7)
    have F_word_a1 := F_word_a1.other W52 (Or.inl ne_a1_b7)
    have F_shift_a1 := F_shift_a1.other W52 (Or.inl ne_a1_b7)
    have F_mask_a1 := F_mask_a1.other W52 (Or.inl ne_a1_b7)
    have F_lower_a1 := F_lower_a1.other W52 (Or.inl ne_a1_b7)
    have E_a2 := E_a2.wr W52
    have F_size_a2 := F_size_a2.other W52 (Or.inl ne_a2_b7)
    have F_elementData_a2 := F_elementData_a2.other W52 (Or.inl ne_a2_b7)
    have V_ar := V_ar.other W52 ne_ar_b7
    have E_x0 := E_x0.wr W52
    have F_bounded_x0 := F_bounded_x0.other W52 (Or.inl ne_x0_b7)
    have F_lower_x0 := F_lower_x0.other W52 (Or.inl ne_x0_b7)
    have F_upper_x0 := F_upper_x0.other W52 (Or.inl ne_x0_b7)
    have E_x1 := E_x1.wr W52
    have F_bounded_x1 := F_bounded_x1.other W52 (Or.inl ne_x1_b7)
    have F_lower_x1 := F_lower_x1.other W52 (Or.inl ne_x1_b7)
    have F_upper_x1 := F_upper_x1.other W52 (Or.inl ne_x1_b7)
    have E_x2 := E_x2.wr W52
    have F_bounded_x2 := F_bounded_x2.other W52 (Or.inl ne_x2_b7)
    have F_lower_x2 := F_lower_x2.other W52 (Or.inl ne_x2_b7)
    have F_upper_x2 := F_upper_x2.other W52 (Or.inl ne_x2_b7)
    have V_b3 := V_b3.other W52 ne_b3_b7
    have E_b3 := E_b3.wr W52
    have V_b5 := V_b5.other W52 ne_b5_b7
    have E_b5 := E_b5.wr W52
    have E_b7 := E_b7.wr W52
    have V_b9 := V_b9.other W52 (Ne.symm ne_b7_b9)
    have E_b9 := E_b9.wr W52
    have V_b7 : Arv Z h52 b7 k7 .long (3 : Int32) [(.long (((1 : Int64) <<< (b0 &&& 0x3f).toInt64) - (1 : Int64))), (.long (-1 : Int64)), (.long (((1 : Int64) <<< (b2 &&& 0x3f).toInt64) - (1 : Int64)))] (.long (0 : Int64)) := Arv.set Ar51 q51 S51 N51n H51 G51 rfl W52 2 rfl (Nat.le_of_ble_eq_true rfl)
    have K0_52 := K0_49.wr W52 (Or.inr sz_b7)
    have N52 := Fr.snoc X52 N49 g_b7
    generalize hlc52 : (lc49 ++ [(⟨b7, ((2 : Int32) : Int32).toNatClampNeg⟩ : Loc)] : List Loc) = lc52 at X52 N52
    have Z52 : n0 ≤ h52.size := Nat.le_trans Z49 (Keep.of_wr W52).1
    refine own_st (T' := T52) (g' := (mkF m 158 #[.val (.ref a1), .val (.ref a2), .val (.int (3 : Int32)), .val (.int (3 : Int32)), .val (.int (2 : Int32)), .val (.int (0 : Int32)), .val (.int (2 : Int32)), .val (.ref x2), .val (.int b2)] [])) st52 ?_
    refine own_st (T' := T52) (g' := (mkF m 159 #[.val (.ref a1), .val (.ref a2), .val (.int (3 : Int32)), .val (.int (3 : Int32)), .val (.int (2 : Int32)), .val (.int (0 : Int32)), .val (.int (2 : Int32)), .val (.ref x2), .val (.int b2)] [(.ref a1)])) (fun t k => XS.aloadN X52.here hx rfl (hb hby own_d13_158) rfl rfl k) ?_
    obtain ⟨T53, X53, e53, st53⟩ := getF X52 hx hZ hown (host := "") (Or.inl (hw _ (List.mem_of_getElem? (i := 123) rfl))) Via.refl e52 F_lower_a1 (g := (mkF m 159 #[.val (.ref a1), .val (.ref a2), .val (.int (3 : Int32)), .val (.int (3 : Int32)), .val (.int (2 : Int32)), .val (.int (0 : Int32)), .val (.int (2 : Int32)), .val (.ref x2), .val (.int b2)] [(.ref a1)])) rfl rfl (hb hby own_d13_159)
    refine own_st (T' := T53) (g' := (mkF m 162 #[.val (.ref a1), .val (.ref a2), .val (.int (3 : Int32)), .val (.int (3 : Int32)), .val (.int (2 : Int32)), .val (.int (0 : Int32)), .val (.int (2 : Int32)), .val (.ref x2), .val (.int b2)] [(.ref b9)])) st53 ?_
    refine own_st (T' := T53) (g' := (mkF m 164 #[.val (.ref a1), .val (.ref a2), .val (.int (3 : Int32)), .val (.int (3 : Int32)), .val (.int (2 : Int32)), .val (.int (0 : Int32)), .val (.int (2 : Int32)), .val (.ref x2), .val (.int b2)] [(.int (2 : Int32)), (.ref b9)])) (fun t k => XS.iload X53.here hx rfl (hb hby own_d13_162) rfl k) ?_
    refine own_st (T' := T53) (g' := (mkF m 166 #[.val (.ref a1), .val (.ref a2), .val (.int (3 : Int32)), .val (.int (3 : Int32)), .val (.int (2 : Int32)), .val (.int (0 : Int32)), .val (.int (2 : Int32)), .val (.ref x2), .val (.int b2)] [(.ref x2), (.int (2 : Int32)), (.ref b9)])) (fun t k => XS.aload X53.here hx rfl (hb hby own_d13_164) rfl rfl k) ?_
    obtain ⟨_, T54, L54, hQ54, X54, st54⟩ := own_callV (y := (⟨"com/example/astraea/astraea/lang/Variable", "lower", "()J"⟩ : MethodName)) (z := (⟨"com/example/astraea/astraea/lang/Variable", "lower", "()J"⟩ : MethodName)) (argsL := []) 2 [(.int (2 : Int32)), (.ref b9)] (K := "com/example/astraea/astraea/lang/Variable") (own_rm22 l Z a0 hw h52 n0 Z52 x2 lo2 F_lower_x2) X53 hx hZ hown (hw _ (List.mem_of_getElem? (i := 161) rfl)) (hw _ (List.mem_of_getElem? (i := 162) rfl)) (notFace_of_selects (args := #[]) (mvT hZ (hw _ (List.mem_of_getElem? (i := 164) rfl)))) (hw _ (List.mem_of_getElem? (i := 164) rfl)) (hw _ (List.mem_of_getElem? (i := 163) rfl)) (hw _ (List.mem_of_getElem? (i := 165) rfl)) (hw _ (List.mem_of_getElem? (i := 33) rfl)) (by decide) (by decide) (by decide) (by decide) (by decide) e53 E_x2 (g := (mkF m 166 #[.val (.ref a1), .val (.ref a2), .val (.int (3 : Int32)), .val (.int (3 : Int32)), .val (.int (2 : Int32)), .val (.int (0 : Int32)), .val (.int (2 : Int32)), .val (.ref x2), .val (.int b2)] [(.ref x2), (.int (2 : Int32)), (.ref b9)])) rfl (by rw [hml]; rfl) (lenOf own_pd9 rfl) rfl (by show 2 * 0 + _ ≤ _; exact Nat.le_of_eq rfl) (hb hby own_d13_166)
    obtain ⟨rfl, e54, rfl⟩ := hQ54
    have X54 : Stand p l e ({ frames := 3, cells := 4, slots := 12, locals := 60 } : Room) s m #[(.ref a1), (.ref a2)] below meth c T54 lc52 4 12 := by have := X54; rwa [List.append_nil] at this
    refine own_st (T' := T54) (g' := (mkF m 169 #[.val (.ref a1), .val (.ref a2), .val (.int (3 : Int32)), .val (.int (3 : Int32)), .val (.int (2 : Int32)), .val (.int (0 : Int32)), .val (.int (2 : Int32)), .val (.ref x2), .val (.int b2)] [(.long lo2), (.int (2 : Int32)), (.ref b9)])) st54 ?_
    obtain ⟨cl55, Ar55, q55, S55, N55n, H55, G55⟩ := V_b9
    have hin55 : ¬ ((2 : Int32) < 0 ∨ cl55.slots.size ≤ ((2 : Int32) : Int32).toNatClampNeg) := inb_of S55 ⟨by decide, by decide⟩
    obtain ⟨T56, h56, X56, e56, W56, st56⟩ := stJ X54 hx hZ e54 Ar55 (j := (2 : Int32)) hin55 (g := (mkF m 169 #[.val (.ref a1), .val (.ref a2), .val (.int (3 : Int32)), .val (.int (3 : Int32)), .val (.int (2 : Int32)), .val (.int (0 : Int32)), .val (.int (2 : Int32)), .val (.ref x2), .val (.int b2)] [(.long lo2), (.int (2 : Int32)), (.ref b9)])) rfl rfl (hb hby own_d13_169)
    have E_a1 := E_a1.wr W56
    have F_words_a1 := F_words_a1.other W56 (Or.inl ne_a1_b9)
    have F_word_a1 := F_word_a1.other W56 (Or.inl ne_a1_b9)
    have F_shift_a1 := F_shift_a1.other W56 (Or.inl ne_a1_b9)
    have F_mask_a1 := F_mask_a1.other W56 (Or.inl ne_a1_b9)
    have F_lower_a1 := F_lower_a1.other W56 (Or.inl ne_a1_b9)
    have E_a2 := E_a2.wr W56
    have F_size_a2 := F_size_a2.other W56 (Or.inl ne_a2_b9)
    have F_elementData_a2 := F_elementData_a2.other W56 (Or.inl ne_a2_b9)
    have V_ar := V_ar.other W56 ne_ar_b9
    have E_x0 := E_x0.wr W56
    have F_bounded_x0 := F_bounded_x0.other W56 (Or.inl ne_x0_b9)
    have F_lower_x0 := F_lower_x0.other W56 (Or.inl ne_x0_b9)
    have F_upper_x0 := F_upper_x0.other W56 (Or.inl ne_x0_b9)
    have E_x1 := E_x1.wr W56
    have F_bounded_x1 := F_bounded_x1.other W56 (Or.inl ne_x1_b9)
    have F_lower_x1 := F_lower_x1.other W56 (Or.inl ne_x1_b9)
    have F_upper_x1 := F_upper_x1.other W56 (Or.inl ne_x1_b9)
    have E_x2 := E_x2.wr W56
    have F_bounded_x2 := F_bounded_x2.other W56 (Or.inl ne_x2_b9)
    have F_lower_x2 := F_lower_x2.other W56 (Or.inl ne_x2_b9)
    have F_upper_x2 := F_upper_x2.other W56 (Or.inl ne_x2_b9)
    have V_b3 := V_b3.other W56 ne_b3_b9
    have E_b3 := E_b3.wr W56
    have V_b5 := V_b5.other W56 ne_b5_b9
    have E_b5 := E_b5.wr W56
    have V_b7 := V_b7.other W56 ne_b7_b9
    have E_b7 := E_b7.wr W56
    have E_b9 := E_b9.wr W56
    have V_b9 : Arv Z h56 b9 k9 .long (3 : Int32) [(.long lo0), (.long (0 : Int64)), (.long lo2)] (.long (0 : Int64)) := Arv.set Ar55 q55 S55 N55n H55 G55 rfl W56 2 rfl (Nat.le_of_ble_eq_true rfl)
    have K0_56 := K0_52.wr W56 (Or.inr sz_b9)
    have N56 := Fr.snoc X56 N52 g_b9
    generalize hlc56 : (lc52 ++ [(⟨b9, ((2 : Int32) : Int32).toNatClampNeg⟩ : Loc)] : List Loc) = lc56 at X56 N56
    have Z56 : n0 ≤ h56.size := Nat.le_trans Z52 (Keep.of_wr W56).1
    refine own_st (T' := T56) (g' := (mkF m 170 #[.val (.ref a1), .val (.ref a2), .val (.int (3 : Int32)), .val (.int (3 : Int32)), .val (.int (2 : Int32)), .val (.int (0 : Int32)), .val (.int (2 : Int32)), .val (.ref x2), .val (.int b2)] [])) st56 ?_
    refine own_st (T' := T56) (g' := (mkF m 172 #[.val (.ref a1), .val (.ref a2), .val (.int (3 : Int32)), .val (.int (3 : Int32)), .val (.int (2 : Int32)), .val (.int (0 : Int32)), .val (.int (2 : Int32)), .val (.ref x2), .val (.int b2)] [(.int (0 : Int32))])) (fun t k => XS.iload X56.here hx rfl (hb hby own_d13_170) rfl k) ?_
    refine own_st (T' := T56) (g' := (mkF m 174 #[.val (.ref a1), .val (.ref a2), .val (.int (3 : Int32)), .val (.int (3 : Int32)), .val (.int (2 : Int32)), .val (.int (0 : Int32)), .val (.int (2 : Int32)), .val (.ref x2), .val (.int b2)] [(.int b2), (.int (0 : Int32))])) (fun t k => XS.iload X56.here hx rfl (hb hby own_d13_172) rfl k) ?_
    refine own_st (T' := T56) (g' := (mkF m 175 #[.val (.ref a1), .val (.ref a2), .val (.int (3 : Int32)), .val (.int (3 : Int32)), .val (.int (2 : Int32)), .val (.int (0 : Int32)), .val (.int (2 : Int32)), .val (.ref x2), .val (.int b2)] [(.int ((0 : Int32) + b2))])) (fun t k => XS.iadd X56.here hx rfl (hb hby own_d13_174) rfl k) ?_
    refine own_st (T' := T56) (g' := (mkF m 177 #[.val (.ref a1), .val (.ref a2), .val (.int (3 : Int32)), .val (.int (3 : Int32)), .val (.int (2 : Int32)), .val (.int ((0 : Int32) + b2)), .val (.int (2 : Int32)), .val (.ref x2), .val (.int b2)] [])) (fun t k => XS.istore X56.here hx rfl (hb hby own_d13_175) rfl (l' := #[.val (.ref a1), .val (.ref a2), .val (.int (3 : Int32)), .val (.int (3 : Int32)), .val (.int (2 : Int32)), .val (.int ((0 : Int32) + b2)), .val (.int (2 : Int32)), .val (.ref x2), .val (.int b2)]) rfl k) ?_
    refine own_st (T' := T56) (g' := (mkF m 180 #[.val (.ref a1), .val (.ref a2), .val (.int (3 : Int32)), .val (.int (3 : Int32)), .val (.int (2 : Int32)), .val (.int ((0 : Int32) + b2)), .val (.int (3 : Int32)), .val (.ref x2), .val (.int b2)] [])) (fun t k => XS.iinc X56.here hx rfl (hb hby own_d13_177) rfl (l' := #[.val (.ref a1), .val (.ref a2), .val (.int (3 : Int32)), .val (.int (3 : Int32)), .val (.int (2 : Int32)), .val (.int ((0 : Int32) + b2)), .val (.int (3 : Int32)), .val (.ref x2), .val (.int b2)]) rfl k) ?_
    refine own_st (T' := T56) (g' := (mkF m 51 #[.val (.ref a1), .val (.ref a2), .val (.int (3 : Int32)), .val (.int (3 : Int32)), .val (.int (2 : Int32)), .val (.int ((0 : Int32) + b2)), .val (.int (3 : Int32)), .val (.ref x2), .val (.int b2)] [])) (fun t k => XS.goto X56.here hx rfl (pc0 := 180) (pc' := 51) rfl (hb hby own_d13_180) (by decide) (by decide) k) ?_
    refine own_st (T' := T56) (g' := (mkF m 53 #[.val (.ref a1), .val (.ref a2), .val (.int (3 : Int32)), .val (.int (3 : Int32)), .val (.int (2 : Int32)), .val (.int ((0 : Int32) + b2)), .val (.int (3 : Int32)), .val (.ref x2), .val (.int b2)] [(.int (3 : Int32))])) (fun t k => XS.iload X56.here hx rfl (hb hby own_d13_51) rfl k) ?_
    refine own_st (T' := T56) (g' := (mkF m 54 #[.val (.ref a1), .val (.ref a2), .val (.int (3 : Int32)), .val (.int (3 : Int32)), .val (.int (2 : Int32)), .val (.int ((0 : Int32) + b2)), .val (.int (3 : Int32)), .val (.ref x2), .val (.int b2)] [(.int (3 : Int32)), (.int (3 : Int32))])) (fun t k => XS.iloadN X56.here hx rfl (hb hby own_d13_53) rfl k) ?_
    refine own_st (T' := T56) (g' := (mkF m 183 #[.val (.ref a1), .val (.ref a2), .val (.int (3 : Int32)), .val (.int (3 : Int32)), .val (.int (2 : Int32)), .val (.int ((0 : Int32) + b2)), .val (.int (3 : Int32)), .val (.ref x2), .val (.int b2)] [])) (fun t k => XS.icmpYes X56.here hx rfl (pc0 := 54) (pc' := 183) rfl (hb hby own_d13_54) rfl (flt (by decide)).2.1 (by decide) (by decide) k) ?_
    refine own_st (T' := T56) (g' := (mkF m 184 #[.val (.ref a1), .val (.ref a2), .val (.int (3 : Int32)), .val (.int (3 : Int32)), .val (.int (2 : Int32)), .val (.int ((0 : Int32) + b2)), .val (.int (3 : Int32)), .val (.ref x2), .val (.int b2)] [(.ref a1)])) (fun t k => XS.aloadN X56.here hx rfl (hb hby own_d13_183) rfl rfl k) ?_
    refine own_st (T' := T56) (g' := (mkF m 185 #[.val (.ref a1), .val (.ref a2), .val (.int (3 : Int32)), .val (.int (3 : Int32)), .val (.int (2 : Int32)), .val (.int ((0 : Int32) + b2)), .val (.int (3 : Int32)), .val (.ref x2), .val (.int b2)] [(.int (3 : Int32)), (.ref a1)])) (fun t k => XS.iloadN X56.here hx rfl (hb hby own_d13_184) rfl k) ?_
    obtain ⟨T57, h57, X57, e57, W57, st57⟩ := putF X56 hx hZ hown (host := "") (Or.inl (hw _ (List.mem_of_getElem? (i := 176) rfl))) Via.refl e56 F_words_a1 E_a1 (Or.inr ⟨(hw _ (List.mem_of_getElem? (i := 177) rfl)), rfl, hnm⟩) (hw _ (List.mem_of_getElem? (i := 100) rfl)) (ty := .int) (by decide) rfl rfl (g := (mkF m 185 #[.val (.ref a1), .val (.ref a2), .val (.int (3 : Int32)), .val (.int (3 : Int32)), .val (.int (2 : Int32)), .val (.int ((0 : Int32) + b2)), .val (.int (3 : Int32)), .val (.ref x2), .val (.int b2)] [(.int (3 : Int32)), (.ref a1)])) rfl rfl (hb hby own_d13_185)
    have E_a1 := E_a1.wr W57
    have F_words_a1 := F_words_a1.same W57
    have F_word_a1 := F_word_a1.other W57 (Or.inr (slot_ne (Or.inr (hw _ (List.mem_of_getElem? (i := 117) rfl))) (Or.inr (hw _ (List.mem_of_getElem? (i := 177) rfl))) (by decide) (t := (.array .int)) (t' := .int) (by decide) (by decide)))
    have F_shift_a1 := F_shift_a1.other W57 (Or.inr (slot_ne (Or.inr (hw _ (List.mem_of_getElem? (i := 119) rfl))) (Or.inr (hw _ (List.mem_of_getElem? (i := 177) rfl))) (by decide) (t := (.array .int)) (t' := .int) (by decide) (by decide)))
    have F_mask_a1 := F_mask_a1.other W57 (Or.inr (slot_ne (Or.inr (hw _ (List.mem_of_getElem? (i := 122) rfl))) (Or.inr (hw _ (List.mem_of_getElem? (i := 177) rfl))) (by decide) (t := (.array .long)) (t' := .int) (by decide) (by decide)))
    have F_lower_a1 := F_lower_a1.other W57 (Or.inr (slot_ne (Or.inr (hw _ (List.mem_of_getElem? (i := 124) rfl))) (Or.inr (hw _ (List.mem_of_getElem? (i := 177) rfl))) (by decide) (t := (.array .long)) (t' := .int) (by decide) (by decide)))
    have E_a2 := E_a2.wr W57
    have F_size_a2 := F_size_a2.other W57 (Or.inl ne_a2_a1)
    have F_elementData_a2 := F_elementData_a2.other W57 (Or.inl ne_a2_a1)
    have V_ar := V_ar.other W57 ne_ar_a1
    have E_x0 := E_x0.wr W57
    have F_bounded_x0 := F_bounded_x0.other W57 (Or.inl ne_x0_a1)
    have F_lower_x0 := F_lower_x0.other W57 (Or.inl ne_x0_a1)
    have F_upper_x0 := F_upper_x0.other W57 (Or.inl ne_x0_a1)
    have E_x1 := E_x1.wr W57
    have F_bounded_x1 := F_bounded_x1.other W57 (Or.inl ne_x1_a1)
    have F_lower_x1 := F_lower_x1.other W57 (Or.inl ne_x1_a1)
    have F_upper_x1 := F_upper_x1.other W57 (Or.inl ne_x1_a1)
    have E_x2 := E_x2.wr W57
    have F_bounded_x2 := F_bounded_x2.other W57 (Or.inl ne_x2_a1)
    have F_lower_x2 := F_lower_x2.other W57 (Or.inl ne_x2_a1)
    have F_upper_x2 := F_upper_x2.other W57 (Or.inl ne_x2_a1)
    have V_b3 := V_b3.other W57 (Ne.symm ne_a1_b3)
    have E_b3 := E_b3.wr W57
    have V_b5 := V_b5.other W57 (Ne.symm ne_a1_b5)
    have E_b5 := E_b5.wr W57
    have V_b7 := V_b7.other W57 (Ne.symm ne_a1_b7)
    have E_b7 := E_b7.wr W57
    have V_b9 := V_b9.other W57 (Ne.symm ne_a1_b9)
    have E_b9 := E_b9.wr W57
    have K0_57 := K0_56.wr W57 (Or.inl (List.mem_of_getElem? (i := 0) rfl))
    have N57 := Fr.snoc X57 N56 g_a1
    generalize hlc57 : (lc56 ++ [(⟨a1, Jvm.RoadKit.slotOf Z "com/example/astraea/astraea/explicit/StateLayout" "words" "I"⟩ : Loc)] : List Loc) = lc57 at X57 N57
    have Z57 : n0 ≤ h57.size := Nat.le_trans Z56 (Keep.of_wr W57).1
    refine own_st (T' := T57) (g' := (mkF m 188 #[.val (.ref a1), .val (.ref a2), .val (.int (3 : Int32)), .val (.int (3 : Int32)), .val (.int (2 : Int32)), .val (.int ((0 : Int32) + b2)), .val (.int (3 : Int32)), .val (.ref x2), .val (.int b2)] [])) st57 ?_
    exact own_retV X57 hx hlk hret (hb hby own_d13_188) (by decide) (by decide) (by rw [e57]; exact ⟨rfl, N57, K0_57, (0 : Int32), (1 : Int32), (2 : Int32), (0 : Int32), (0 : Int32), (0 : Int32), (((1 : Int64) <<< (b0 &&& 0x3f).toInt64) - (1 : Int64)), (-1 : Int64), (((1 : Int64) <<< (b2 &&& 0x3f).toInt64) - (1 : Int64)), lo0, (0 : Int64), lo2, (3 : Int32), ⟨E_a1, F_words_a1, b3, b5, b7, b9, k3, k5, k7, k9, F_word_a1, F_shift_a1, F_mask_a1, F_lower_a1, V_b3, V_b5, V_b7, V_b9⟩, own_layA hr0 hr2 h64_0 h64_1 h64_2, Or.inr rfl⟩)
  ·
    refine own_st (T' := T41) (g' := (mkF m 127 #[.val (.ref a1), .val (.ref a2), .val (.int (3 : Int32)), .val (.int (2 : Int32)), .val (.int (0 : Int32)), .val (.int ((0 : Int32) + b0)), .val (.int (2 : Int32)), .val (.ref x2), .val (.int b2)] [])) (fun t k => XS.icmpYes X41.here hx rfl (pc0 := 115) (pc' := 127) rfl (hb hby own_d13_115) rfl (flt hc115_43).2.2.2 (by decide) (by decide) k) ?_
    refine own_st (T' := T41) (g' := (mkF m 128 #[.val (.ref a1), .val (.ref a2), .val (.int (3 : Int32)), .val (.int (2 : Int32)), .val (.int (0 : Int32)), .val (.int ((0 : Int32) + b0)), .val (.int (2 : Int32)), .val (.ref x2), .val (.int b2)] [(.ref a1)])) (fun t k => XS.aloadN X41.here hx rfl (hb hby own_d13_127) rfl rfl k) ?_
    obtain ⟨T58, X58, e58, st58⟩ := getF X41 hx hZ hown (host := "") (Or.inl (hw _ (List.mem_of_getElem? (i := 116) rfl))) Via.refl e41 F_word_a1 (g := (mkF m 128 #[.val (.ref a1), .val (.ref a2), .val (.int (3 : Int32)), .val (.int (2 : Int32)), .val (.int (0 : Int32)), .val (.int ((0 : Int32) + b0)), .val (.int (2 : Int32)), .val (.ref x2), .val (.int b2)] [(.ref a1)])) rfl rfl (hb hby own_d13_128)
    refine own_st (T' := T58) (g' := (mkF m 131 #[.val (.ref a1), .val (.ref a2), .val (.int (3 : Int32)), .val (.int (2 : Int32)), .val (.int (0 : Int32)), .val (.int ((0 : Int32) + b0)), .val (.int (2 : Int32)), .val (.ref x2), .val (.int b2)] [(.ref b3)])) st58 ?_
    refine own_st (T' := T58) (g' := (mkF m 133 #[.val (.ref a1), .val (.ref a2), .val (.int (3 : Int32)), .val (.int (2 : Int32)), .val (.int (0 : Int32)), .val (.int ((0 : Int32) + b0)), .val (.int (2 : Int32)), .val (.ref x2), .val (.int b2)] [(.int (2 : Int32)), (.ref b3)])) (fun t k => XS.iload X58.here hx rfl (hb hby own_d13_131) rfl k) ?_
    refine own_st (T' := T58) (g' := (mkF m 135 #[.val (.ref a1), .val (.ref a2), .val (.int (3 : Int32)), .val (.int (2 : Int32)), .val (.int (0 : Int32)), .val (.int ((0 : Int32) + b0)), .val (.int (2 : Int32)), .val (.ref x2), .val (.int b2)] [(.int (0 : Int32)), (.int (2 : Int32)), (.ref b3)])) (fun t k => XS.iload X58.here hx rfl (hb hby own_d13_133) rfl k) ?_
    obtain ⟨cl59, Ar59, q59, S59, N59n, H59, G59⟩ := V_b3
    have hin59 : ¬ ((2 : Int32) < 0 ∨ cl59.slots.size ≤ ((2 : Int32) : Int32).toNatClampNeg) := inb_of S59 ⟨by decide, by decide⟩
    obtain ⟨T60, h60, X60, e60, W60, st60⟩ := stI X58 hx hZ e58 Ar59 (j := (2 : Int32)) hin59 (g := (mkF m 135 #[.val (.ref a1), .val (.ref a2), .val (.int (3 : Int32)), .val (.int (2 : Int32)), .val (.int (0 : Int32)), .val (.int ((0 : Int32) + b0)), .val (.int (2 : Int32)), .val (.ref x2), .val (.int b2)] [(.int (0 : Int32)), (.int (2 : Int32)), (.ref b3)])) rfl rfl (hb hby own_d13_135)
    have E_a1 := E_a1.wr W60
    have F_words_a1 := F_words_a1.other W60 (Or.inl ne_a1_b3)
    have F_word_a1 := F_word_a1.other W60 (Or.inl ne_a1_b3)
    have F_shift_a1 := F_shift_a1.other W60 (Or.inl ne_a1_b3)
    have F_mask_a1 := F_mask_a1.other W60 (Or.inl ne_a1_b3)
    have F_lower_a1 := F_lower_a1.other W60 (Or.inl ne_a1_b3)
    have E_a2 := E_a2.wr W60
    have F_size_a2 := F_size_a2.other W60 (Or.inl ne_a2_b3)
    have F_elementData_a2 := F_elementData_a2.other W60 (Or.inl ne_a2_b3)
    have V_ar := V_ar.other W60 ne_ar_b3
    have E_x0 := E_x0.wr W60
    have F_bounded_x0 := F_bounded_x0.other W60 (Or.inl ne_x0_b3)
    have F_lower_x0 := F_lower_x0.other W60 (Or.inl ne_x0_b3)
    have F_upper_x0 := F_upper_x0.other W60 (Or.inl ne_x0_b3)
    have E_x1 := E_x1.wr W60
    have F_bounded_x1 := F_bounded_x1.other W60 (Or.inl ne_x1_b3)
    have F_lower_x1 := F_lower_x1.other W60 (Or.inl ne_x1_b3)
    have F_upper_x1 := F_upper_x1.other W60 (Or.inl ne_x1_b3)
    have E_x2 := E_x2.wr W60
    have F_bounded_x2 := F_bounded_x2.other W60 (Or.inl ne_x2_b3)
    have F_lower_x2 := F_lower_x2.other W60 (Or.inl ne_x2_b3)
    have F_upper_x2 := F_upper_x2.other W60 (Or.inl ne_x2_b3)
    have E_b3 := E_b3.wr W60
    have V_b5 := V_b5.other W60 (Ne.symm ne_b3_b5)
    have E_b5 := E_b5.wr W60
    have V_b7 := V_b7.other W60 (Ne.symm ne_b3_b7)
    have E_b7 := E_b7.wr W60
    have V_b9 := V_b9.other W60 (Ne.symm ne_b3_b9)
    have E_b9 := E_b9.wr W60
    have V_b3 : Arv Z h60 b3 k3 .int (3 : Int32) [(.int (0 : Int32)), (.int (1 : Int32)), (.int (0 : Int32))] (.int (0 : Int32)) := Arv.set Ar59 q59 S59 N59n H59 G59 rfl W60 2 rfl (Nat.le_of_ble_eq_true rfl)
    have K0_60 := K0_38.wr W60 (Or.inr sz_b3)
    have N60 := Fr.snoc X60 N38 g_b3
    generalize hlc60 : (lc38 ++ [(⟨b3, ((2 : Int32) : Int32).toNatClampNeg⟩ : Loc)] : List Loc) = lc60 at X60 N60
    have Z60 : n0 ≤ h60.size := Nat.le_trans Z38 (Keep.of_wr W60).1
    refine own_st (T' := T60) (g' := (mkF m 136 #[.val (.ref a1), .val (.ref a2), .val (.int (3 : Int32)), .val (.int (2 : Int32)), .val (.int (0 : Int32)), .val (.int ((0 : Int32) + b0)), .val (.int (2 : Int32)), .val (.ref x2), .val (.int b2)] [])) st60 ?_
    refine own_st (T' := T60) (g' := (mkF m 137 #[.val (.ref a1), .val (.ref a2), .val (.int (3 : Int32)), .val (.int (2 : Int32)), .val (.int (0 : Int32)), .val (.int ((0 : Int32) + b0)), .val (.int (2 : Int32)), .val (.ref x2), .val (.int b2)] [(.ref a1)])) (fun t k => XS.aloadN X60.here hx rfl (hb hby own_d13_136) rfl rfl k) ?_
    obtain ⟨T61, X61, e61, st61⟩ := getF X60 hx hZ hown (host := "") (Or.inl (hw _ (List.mem_of_getElem? (i := 118) rfl))) Via.refl e60 F_shift_a1 (g := (mkF m 137 #[.val (.ref a1), .val (.ref a2), .val (.int (3 : Int32)), .val (.int (2 : Int32)), .val (.int (0 : Int32)), .val (.int ((0 : Int32) + b0)), .val (.int (2 : Int32)), .val (.ref x2), .val (.int b2)] [(.ref a1)])) rfl rfl (hb hby own_d13_137)
    refine own_st (T' := T61) (g' := (mkF m 140 #[.val (.ref a1), .val (.ref a2), .val (.int (3 : Int32)), .val (.int (2 : Int32)), .val (.int (0 : Int32)), .val (.int ((0 : Int32) + b0)), .val (.int (2 : Int32)), .val (.ref x2), .val (.int b2)] [(.ref b5)])) st61 ?_
    refine own_st (T' := T61) (g' := (mkF m 142 #[.val (.ref a1), .val (.ref a2), .val (.int (3 : Int32)), .val (.int (2 : Int32)), .val (.int (0 : Int32)), .val (.int ((0 : Int32) + b0)), .val (.int (2 : Int32)), .val (.ref x2), .val (.int b2)] [(.int (2 : Int32)), (.ref b5)])) (fun t k => XS.iload X61.here hx rfl (hb hby own_d13_140) rfl k) ?_
    refine own_st (T' := T61) (g' := (mkF m 144 #[.val (.ref a1), .val (.ref a2), .val (.int (3 : Int32)), .val (.int (2 : Int32)), .val (.int (0 : Int32)), .val (.int ((0 : Int32) + b0)), .val (.int (2 : Int32)), .val (.ref x2), .val (.int b2)] [(.int ((0 : Int32) + b0)), (.int (2 : Int32)), (.ref b5)])) (fun t k => XS.iload X61.here hx rfl (hb hby own_d13_142) rfl k) ?_
    obtain ⟨cl62, Ar62, q62, S62, N62n, H62, G62⟩ := V_b5
    have hin62 : ¬ ((2 : Int32) < 0 ∨ cl62.slots.size ≤ ((2 : Int32) : Int32).toNatClampNeg) := inb_of S62 ⟨by decide, by decide⟩
    obtain ⟨T63, h63, X63, e63, W63, st63⟩ := stI X61 hx hZ e61 Ar62 (j := (2 : Int32)) hin62 (g := (mkF m 144 #[.val (.ref a1), .val (.ref a2), .val (.int (3 : Int32)), .val (.int (2 : Int32)), .val (.int (0 : Int32)), .val (.int ((0 : Int32) + b0)), .val (.int (2 : Int32)), .val (.ref x2), .val (.int b2)] [(.int ((0 : Int32) + b0)), (.int (2 : Int32)), (.ref b5)])) rfl rfl (hb hby own_d13_144)
    have E_a1 := E_a1.wr W63
    have F_words_a1 := F_words_a1.other W63 (Or.inl ne_a1_b5)
    have F_word_a1 := F_word_a1.other W63 (Or.inl ne_a1_b5)
    have F_shift_a1 := F_shift_a1.other W63 (Or.inl ne_a1_b5)
    have F_mask_a1 := F_mask_a1.other W63 (Or.inl ne_a1_b5)
    have F_lower_a1 := F_lower_a1.other W63 (Or.inl ne_a1_b5)
    have E_a2 := E_a2.wr W63
    have F_size_a2 := F_size_a2.other W63 (Or.inl ne_a2_b5)
    have F_elementData_a2 := F_elementData_a2.other W63 (Or.inl ne_a2_b5)
    have V_ar := V_ar.other W63 ne_ar_b5
    have E_x0 := E_x0.wr W63
    have F_bounded_x0 := F_bounded_x0.other W63 (Or.inl ne_x0_b5)
    have F_lower_x0 := F_lower_x0.other W63 (Or.inl ne_x0_b5)
    have F_upper_x0 := F_upper_x0.other W63 (Or.inl ne_x0_b5)
    have E_x1 := E_x1.wr W63
    have F_bounded_x1 := F_bounded_x1.other W63 (Or.inl ne_x1_b5)
    have F_lower_x1 := F_lower_x1.other W63 (Or.inl ne_x1_b5)
    have F_upper_x1 := F_upper_x1.other W63 (Or.inl ne_x1_b5)
    have E_x2 := E_x2.wr W63
    have F_bounded_x2 := F_bounded_x2.other W63 (Or.inl ne_x2_b5)
    have F_lower_x2 := F_lower_x2.other W63 (Or.inl ne_x2_b5)
    have F_upper_x2 := F_upper_x2.other W63 (Or.inl ne_x2_b5)
    have V_b3 := V_b3.other W63 ne_b3_b5
    have E_b3 := E_b3.wr W63
    have E_b5 := E_b5.wr W63
    have V_b7 := V_b7.other W63 (Ne.symm ne_b5_b7)
    have E_b7 := E_b7.wr W63
    have V_b9 := V_b9.other W63 (Ne.symm ne_b5_b9)
    have E_b9 := E_b9.wr W63
    have V_b5 : Arv Z h63 b5 k5 .int (3 : Int32) [(.int (0 : Int32)), (.int (0 : Int32)), (.int ((0 : Int32) + b0))] (.int (0 : Int32)) := Arv.set Ar62 q62 S62 N62n H62 G62 rfl W63 2 rfl (Nat.le_of_ble_eq_true rfl)
    have K0_63 := K0_60.wr W63 (Or.inr sz_b5)
    have N63 := Fr.snoc X63 N60 g_b5
    generalize hlc63 : (lc60 ++ [(⟨b5, ((2 : Int32) : Int32).toNatClampNeg⟩ : Loc)] : List Loc) = lc63 at X63 N63
    have Z63 : n0 ≤ h63.size := Nat.le_trans Z60 (Keep.of_wr W63).1
    refine own_st (T' := T63) (g' := (mkF m 145 #[.val (.ref a1), .val (.ref a2), .val (.int (3 : Int32)), .val (.int (2 : Int32)), .val (.int (0 : Int32)), .val (.int ((0 : Int32) + b0)), .val (.int (2 : Int32)), .val (.ref x2), .val (.int b2)] [])) st63 ?_
    refine own_st (T' := T63) (g' := (mkF m 146 #[.val (.ref a1), .val (.ref a2), .val (.int (3 : Int32)), .val (.int (2 : Int32)), .val (.int (0 : Int32)), .val (.int ((0 : Int32) + b0)), .val (.int (2 : Int32)), .val (.ref x2), .val (.int b2)] [(.ref a1)])) (fun t k => XS.aloadN X63.here hx rfl (hb hby own_d13_145) rfl rfl k) ?_
    obtain ⟨T64, X64, e64, st64⟩ := getF X63 hx hZ hown (host := "") (Or.inl (hw _ (List.mem_of_getElem? (i := 121) rfl))) Via.refl e63 F_mask_a1 (g := (mkF m 146 #[.val (.ref a1), .val (.ref a2), .val (.int (3 : Int32)), .val (.int (2 : Int32)), .val (.int (0 : Int32)), .val (.int ((0 : Int32) + b0)), .val (.int (2 : Int32)), .val (.ref x2), .val (.int b2)] [(.ref a1)])) rfl rfl (hb hby own_d13_146)
    refine own_st (T' := T64) (g' := (mkF m 149 #[.val (.ref a1), .val (.ref a2), .val (.int (3 : Int32)), .val (.int (2 : Int32)), .val (.int (0 : Int32)), .val (.int ((0 : Int32) + b0)), .val (.int (2 : Int32)), .val (.ref x2), .val (.int b2)] [(.ref b7)])) st64 ?_
    refine own_st (T' := T64) (g' := (mkF m 151 #[.val (.ref a1), .val (.ref a2), .val (.int (3 : Int32)), .val (.int (2 : Int32)), .val (.int (0 : Int32)), .val (.int ((0 : Int32) + b0)), .val (.int (2 : Int32)), .val (.ref x2), .val (.int b2)] [(.int (2 : Int32)), (.ref b7)])) (fun t k => XS.iload X64.here hx rfl (hb hby own_d13_149) rfl k) ?_
    refine own_st (T' := T64) (g' := (mkF m 152 #[.val (.ref a1), .val (.ref a2), .val (.int (3 : Int32)), .val (.int (2 : Int32)), .val (.int (0 : Int32)), .val (.int ((0 : Int32) + b0)), .val (.int (2 : Int32)), .val (.ref x2), .val (.int b2)] [(.long (1 : Int64)), (.int (2 : Int32)), (.ref b7)])) (fun t k => XS.lconst X64.here hx rfl (hb hby own_d13_151) k) ?_
    refine own_st (T' := T64) (g' := (mkF m 154 #[.val (.ref a1), .val (.ref a2), .val (.int (3 : Int32)), .val (.int (2 : Int32)), .val (.int (0 : Int32)), .val (.int ((0 : Int32) + b0)), .val (.int (2 : Int32)), .val (.ref x2), .val (.int b2)] [(.int b2), (.long (1 : Int64)), (.int (2 : Int32)), (.ref b7)])) (fun t k => XS.iload X64.here hx rfl (hb hby own_d13_152) rfl k) ?_
    refine own_st (T' := T64) (g' := (mkF m 155 #[.val (.ref a1), .val (.ref a2), .val (.int (3 : Int32)), .val (.int (2 : Int32)), .val (.int (0 : Int32)), .val (.int ((0 : Int32) + b0)), .val (.int (2 : Int32)), .val (.ref x2), .val (.int b2)] [(.long ((1 : Int64) <<< (b2 &&& 0x3f).toInt64)), (.int (2 : Int32)), (.ref b7)])) (fun t k => XS.lshl X64.here hx rfl (hb hby own_d13_154) rfl k) ?_
    refine own_st (T' := T64) (g' := (mkF m 156 #[.val (.ref a1), .val (.ref a2), .val (.int (3 : Int32)), .val (.int (2 : Int32)), .val (.int (0 : Int32)), .val (.int ((0 : Int32) + b0)), .val (.int (2 : Int32)), .val (.ref x2), .val (.int b2)] [(.long (1 : Int64)), (.long ((1 : Int64) <<< (b2 &&& 0x3f).toInt64)), (.int (2 : Int32)), (.ref b7)])) (fun t k => XS.lconst X64.here hx rfl (hb hby own_d13_155) k) ?_
    refine own_st (T' := T64) (g' := (mkF m 157 #[.val (.ref a1), .val (.ref a2), .val (.int (3 : Int32)), .val (.int (2 : Int32)), .val (.int (0 : Int32)), .val (.int ((0 : Int32) + b0)), .val (.int (2 : Int32)), .val (.ref x2), .val (.int b2)] [(.long (((1 : Int64) <<< (b2 &&& 0x3f).toInt64) - (1 : Int64))), (.int (2 : Int32)), (.ref b7)])) (fun t k => XS.lsub X64.here hx rfl (hb hby own_d13_156) rfl k) ?_
    obtain ⟨cl65, Ar65, q65, S65, N65n, H65, G65⟩ := V_b7
    have hin65 : ¬ ((2 : Int32) < 0 ∨ cl65.slots.size ≤ ((2 : Int32) : Int32).toNatClampNeg) := inb_of S65 ⟨by decide, by decide⟩
    obtain ⟨T66, h66, X66, e66, W66, st66⟩ := stJ X64 hx hZ e64 Ar65 (j := (2 : Int32)) hin65 (g := (mkF m 157 #[.val (.ref a1), .val (.ref a2), .val (.int (3 : Int32)), .val (.int (2 : Int32)), .val (.int (0 : Int32)), .val (.int ((0 : Int32) + b0)), .val (.int (2 : Int32)), .val (.ref x2), .val (.int b2)] [(.long (((1 : Int64) <<< (b2 &&& 0x3f).toInt64) - (1 : Int64))), (.int (2 : Int32)), (.ref b7)])) rfl rfl (hb hby own_d13_157)
    have E_a1 := E_a1.wr W66
    have F_words_a1 := F_words_a1.other W66 (Or.inl ne_a1_b7)
    have F_word_a1 := F_word_a1.other W66 (Or.inl ne_a1_b7)
    have F_shift_a1 := F_shift_a1.other W66 (Or.inl ne_a1_b7)
    have F_mask_a1 := F_mask_a1.other W66 (Or.inl ne_a1_b7)
    have F_lower_a1 := F_lower_a1.other W66 (Or.inl ne_a1_b7)
    have E_a2 := E_a2.wr W66
    have F_size_a2 := F_size_a2.other W66 (Or.inl ne_a2_b7)
    have F_elementData_a2 := F_elementData_a2.other W66 (Or.inl ne_a2_b7)
    have V_ar := V_ar.other W66 ne_ar_b7
    have E_x0 := E_x0.wr W66
    have F_bounded_x0 := F_bounded_x0.other W66 (Or.inl ne_x0_b7)
    have F_lower_x0 := F_lower_x0.other W66 (Or.inl ne_x0_b7)
    have F_upper_x0 := F_upper_x0.other W66 (Or.inl ne_x0_b7)
    have E_x1 := E_x1.wr W66
    have F_bounded_x1 := F_bounded_x1.other W66 (Or.inl ne_x1_b7)
    have F_lower_x1 := F_lower_x1.other W66 (Or.inl ne_x1_b7)
    have F_upper_x1 := F_upper_x1.other W66 (Or.inl ne_x1_b7)
    have E_x2 := E_x2.wr W66
    have F_bounded_x2 := F_bounded_x2.other W66 (Or.inl ne_x2_b7)
    have F_lower_x2 := F_lower_x2.other W66 (Or.inl ne_x2_b7)
    have F_upper_x2 := F_upper_x2.other W66 (Or.inl ne_x2_b7)
    have V_b3 := V_b3.other W66 ne_b3_b7
    have E_b3 := E_b3.wr W66
    have V_b5 := V_b5.other W66 ne_b5_b7
    have E_b5 := E_b5.wr W66
    have E_b7 := E_b7.wr W66
    have V_b9 := V_b9.other W66 (Ne.symm ne_b7_b9)
    have E_b9 := E_b9.wr W66
    have V_b7 : Arv Z h66 b7 k7 .long (3 : Int32) [(.long (((1 : Int64) <<< (b0 &&& 0x3f).toInt64) - (1 : Int64))), (.long (-1 : Int64)), (.long (((1 : Int64) <<< (b2 &&& 0x3f).toInt64) - (1 : Int64)))] (.long (0 : Int64)) := Arv.set Ar65 q65 S65 N65n H65 G65 rfl W66 2 rfl (Nat.le_of_ble_eq_true rfl)
    have K0_66 := K0_63.wr W66 (Or.inr sz_b7)
    have N66 := Fr.snoc X66 N63 g_b7
    generalize hlc66 : (lc63 ++ [(⟨b7, ((2 : Int32) : Int32).toNatClampNeg⟩ : Loc)] : List Loc) = lc66 at X66 N66
    have Z66 : n0 ≤ h66.size := Nat.le_trans Z63 (Keep.of_wr W66).1
    refine own_st (T' := T66) (g' := (mkF m 158 #[.val (.ref a1), .val (.ref a2), .val (.int (3 : Int32)), .val (.int (2 : Int32)), .val (.int (0 : Int32)), .val (.int ((0 : Int32) + b0)), .val (.int (2 : Int32)), .val (.ref x2), .val (.int b2)] [])) st66 ?_
    refine own_st (T' := T66) (g' := (mkF m 159 #[.val (.ref a1), .val (.ref a2), .val (.int (3 : Int32)), .val (.int (2 : Int32)), .val (.int (0 : Int32)), .val (.int ((0 : Int32) + b0)), .val (.int (2 : Int32)), .val (.ref x2), .val (.int b2)] [(.ref a1)])) (fun t k => XS.aloadN X66.here hx rfl (hb hby own_d13_158) rfl rfl k) ?_
    obtain ⟨T67, X67, e67, st67⟩ := getF X66 hx hZ hown (host := "") (Or.inl (hw _ (List.mem_of_getElem? (i := 123) rfl))) Via.refl e66 F_lower_a1 (g := (mkF m 159 #[.val (.ref a1), .val (.ref a2), .val (.int (3 : Int32)), .val (.int (2 : Int32)), .val (.int (0 : Int32)), .val (.int ((0 : Int32) + b0)), .val (.int (2 : Int32)), .val (.ref x2), .val (.int b2)] [(.ref a1)])) rfl rfl (hb hby own_d13_159)
    refine own_st (T' := T67) (g' := (mkF m 162 #[.val (.ref a1), .val (.ref a2), .val (.int (3 : Int32)), .val (.int (2 : Int32)), .val (.int (0 : Int32)), .val (.int ((0 : Int32) + b0)), .val (.int (2 : Int32)), .val (.ref x2), .val (.int b2)] [(.ref b9)])) st67 ?_
    refine own_st (T' := T67) (g' := (mkF m 164 #[.val (.ref a1), .val (.ref a2), .val (.int (3 : Int32)), .val (.int (2 : Int32)), .val (.int (0 : Int32)), .val (.int ((0 : Int32) + b0)), .val (.int (2 : Int32)), .val (.ref x2), .val (.int b2)] [(.int (2 : Int32)), (.ref b9)])) (fun t k => XS.iload X67.here hx rfl (hb hby own_d13_162) rfl k) ?_
    refine own_st (T' := T67) (g' := (mkF m 166 #[.val (.ref a1), .val (.ref a2), .val (.int (3 : Int32)), .val (.int (2 : Int32)), .val (.int (0 : Int32)), .val (.int ((0 : Int32) + b0)), .val (.int (2 : Int32)), .val (.ref x2), .val (.int b2)] [(.ref x2), (.int (2 : Int32)), (.ref b9)])) (fun t k => XS.aload X67.here hx rfl (hb hby own_d13_164) rfl rfl k) ?_
    obtain ⟨_, T68, L68, hQ68, X68, st68⟩ := own_callV (y := (⟨"com/example/astraea/astraea/lang/Variable", "lower", "()J"⟩ : MethodName)) (z := (⟨"com/example/astraea/astraea/lang/Variable", "lower", "()J"⟩ : MethodName)) (argsL := []) 2 [(.int (2 : Int32)), (.ref b9)] (K := "com/example/astraea/astraea/lang/Variable") (own_rm22 l Z a0 hw h66 n0 Z66 x2 lo2 F_lower_x2) X67 hx hZ hown (hw _ (List.mem_of_getElem? (i := 161) rfl)) (hw _ (List.mem_of_getElem? (i := 162) rfl)) (notFace_of_selects (args := #[]) (mvT hZ (hw _ (List.mem_of_getElem? (i := 164) rfl)))) (hw _ (List.mem_of_getElem? (i := 164) rfl)) (hw _ (List.mem_of_getElem? (i := 163) rfl)) (hw _ (List.mem_of_getElem? (i := 165) rfl)) (hw _ (List.mem_of_getElem? (i := 33) rfl)) (by decide) (by decide) (by decide) (by decide) (by decide) e67 E_x2 (g := (mkF m 166 #[.val (.ref a1), .val (.ref a2), .val (.int (3 : Int32)), .val (.int (2 : Int32)), .val (.int (0 : Int32)), .val (.int ((0 : Int32) + b0)), .val (.int (2 : Int32)), .val (.ref x2), .val (.int b2)] [(.ref x2), (.int (2 : Int32)), (.ref b9)])) rfl (by rw [hml]; rfl) (lenOf own_pd9 rfl) rfl (by show 2 * 0 + _ ≤ _; exact Nat.le_of_eq rfl) (hb hby own_d13_166)
    obtain ⟨rfl, e68, rfl⟩ := hQ68
    have X68 : Stand p l e ({ frames := 3, cells := 4, slots := 12, locals := 60 } : Room) s m #[(.ref a1), (.ref a2)] below meth c T68 lc66 4 12 := by have := X68; rwa [List.append_nil] at this
    refine own_st (T' := T68) (g' := (mkF m 169 #[.val (.ref a1), .val (.ref a2), .val (.int (3 : Int32)), .val (.int (2 : Int32)), .val (.int (0 : Int32)), .val (.int ((0 : Int32) + b0)), .val (.int (2 : Int32)), .val (.ref x2), .val (.int b2)] [(.long lo2), (.int (2 : Int32)), (.ref b9)])) st68 ?_
    obtain ⟨cl69, Ar69, q69, S69, N69n, H69, G69⟩ := V_b9
    have hin69 : ¬ ((2 : Int32) < 0 ∨ cl69.slots.size ≤ ((2 : Int32) : Int32).toNatClampNeg) := inb_of S69 ⟨by decide, by decide⟩
    obtain ⟨T70, h70, X70, e70, W70, st70⟩ := stJ X68 hx hZ e68 Ar69 (j := (2 : Int32)) hin69 (g := (mkF m 169 #[.val (.ref a1), .val (.ref a2), .val (.int (3 : Int32)), .val (.int (2 : Int32)), .val (.int (0 : Int32)), .val (.int ((0 : Int32) + b0)), .val (.int (2 : Int32)), .val (.ref x2), .val (.int b2)] [(.long lo2), (.int (2 : Int32)), (.ref b9)])) rfl rfl (hb hby own_d13_169)
    have E_a1 := E_a1.wr W70
    have F_words_a1 := F_words_a1.other W70 (Or.inl ne_a1_b9)
    have F_word_a1 := F_word_a1.other W70 (Or.inl ne_a1_b9)
    have F_shift_a1 := F_shift_a1.other W70 (Or.inl ne_a1_b9)
    have F_mask_a1 := F_mask_a1.other W70 (Or.inl ne_a1_b9)
    have F_lower_a1 := F_lower_a1.other W70 (Or.inl ne_a1_b9)
    have E_a2 := E_a2.wr W70
    have F_size_a2 := F_size_a2.other W70 (Or.inl ne_a2_b9)
    have F_elementData_a2 := F_elementData_a2.other W70 (Or.inl ne_a2_b9)
    have V_ar := V_ar.other W70 ne_ar_b9
    have E_x0 := E_x0.wr W70
    have F_bounded_x0 := F_bounded_x0.other W70 (Or.inl ne_x0_b9)
    have F_lower_x0 := F_lower_x0.other W70 (Or.inl ne_x0_b9)
    have F_upper_x0 := F_upper_x0.other W70 (Or.inl ne_x0_b9)
    have E_x1 := E_x1.wr W70
    have F_bounded_x1 := F_bounded_x1.other W70 (Or.inl ne_x1_b9)
    have F_lower_x1 := F_lower_x1.other W70 (Or.inl ne_x1_b9)
    have F_upper_x1 := F_upper_x1.other W70 (Or.inl ne_x1_b9)
    have E_x2 := E_x2.wr W70
    have F_bounded_x2 := F_bounded_x2.other W70 (Or.inl ne_x2_b9)
    have F_lower_x2 := F_lower_x2.other W70 (Or.inl ne_x2_b9)
    have F_upper_x2 := F_upper_x2.other W70 (Or.inl ne_x2_b9)
    have V_b3 := V_b3.other W70 ne_b3_b9
    have E_b3 := E_b3.wr W70
    have V_b5 := V_b5.other W70 ne_b5_b9
    have E_b5 := E_b5.wr W70
    have V_b7 := V_b7.other W70 ne_b7_b9
    have E_b7 := E_b7.wr W70
    have E_b9 := E_b9.wr W70
    have V_b9 : Arv Z h70 b9 k9 .long (3 : Int32) [(.long lo0), (.long (0 : Int64)), (.long lo2)] (.long (0 : Int64)) := Arv.set Ar69 q69 S69 N69n H69 G69 rfl W70 2 rfl (Nat.le_of_ble_eq_true rfl)
    have K0_70 := K0_66.wr W70 (Or.inr sz_b9)
    have N70 := Fr.snoc X70 N66 g_b9
    generalize hlc70 : (lc66 ++ [(⟨b9, ((2 : Int32) : Int32).toNatClampNeg⟩ : Loc)] : List Loc) = lc70 at X70 N70
    have Z70 : n0 ≤ h70.size := Nat.le_trans Z66 (Keep.of_wr W70).1
    refine own_st (T' := T70) (g' := (mkF m 170 #[.val (.ref a1), .val (.ref a2), .val (.int (3 : Int32)), .val (.int (2 : Int32)), .val (.int (0 : Int32)), .val (.int ((0 : Int32) + b0)), .val (.int (2 : Int32)), .val (.ref x2), .val (.int b2)] [])) st70 ?_
    refine own_st (T' := T70) (g' := (mkF m 172 #[.val (.ref a1), .val (.ref a2), .val (.int (3 : Int32)), .val (.int (2 : Int32)), .val (.int (0 : Int32)), .val (.int ((0 : Int32) + b0)), .val (.int (2 : Int32)), .val (.ref x2), .val (.int b2)] [(.int ((0 : Int32) + b0))])) (fun t k => XS.iload X70.here hx rfl (hb hby own_d13_170) rfl k) ?_
    refine own_st (T' := T70) (g' := (mkF m 174 #[.val (.ref a1), .val (.ref a2), .val (.int (3 : Int32)), .val (.int (2 : Int32)), .val (.int (0 : Int32)), .val (.int ((0 : Int32) + b0)), .val (.int (2 : Int32)), .val (.ref x2), .val (.int b2)] [(.int b2), (.int ((0 : Int32) + b0))])) (fun t k => XS.iload X70.here hx rfl (hb hby own_d13_172) rfl k) ?_
    refine own_st (T' := T70) (g' := (mkF m 175 #[.val (.ref a1), .val (.ref a2), .val (.int (3 : Int32)), .val (.int (2 : Int32)), .val (.int (0 : Int32)), .val (.int ((0 : Int32) + b0)), .val (.int (2 : Int32)), .val (.ref x2), .val (.int b2)] [(.int (((0 : Int32) + b0) + b2))])) (fun t k => XS.iadd X70.here hx rfl (hb hby own_d13_174) rfl k) ?_
    refine own_st (T' := T70) (g' := (mkF m 177 #[.val (.ref a1), .val (.ref a2), .val (.int (3 : Int32)), .val (.int (2 : Int32)), .val (.int (0 : Int32)), .val (.int (((0 : Int32) + b0) + b2)), .val (.int (2 : Int32)), .val (.ref x2), .val (.int b2)] [])) (fun t k => XS.istore X70.here hx rfl (hb hby own_d13_175) rfl (l' := #[.val (.ref a1), .val (.ref a2), .val (.int (3 : Int32)), .val (.int (2 : Int32)), .val (.int (0 : Int32)), .val (.int (((0 : Int32) + b0) + b2)), .val (.int (2 : Int32)), .val (.ref x2), .val (.int b2)]) rfl k) ?_
    refine own_st (T' := T70) (g' := (mkF m 180 #[.val (.ref a1), .val (.ref a2), .val (.int (3 : Int32)), .val (.int (2 : Int32)), .val (.int (0 : Int32)), .val (.int (((0 : Int32) + b0) + b2)), .val (.int (3 : Int32)), .val (.ref x2), .val (.int b2)] [])) (fun t k => XS.iinc X70.here hx rfl (hb hby own_d13_177) rfl (l' := #[.val (.ref a1), .val (.ref a2), .val (.int (3 : Int32)), .val (.int (2 : Int32)), .val (.int (0 : Int32)), .val (.int (((0 : Int32) + b0) + b2)), .val (.int (3 : Int32)), .val (.ref x2), .val (.int b2)]) rfl k) ?_
    refine own_st (T' := T70) (g' := (mkF m 51 #[.val (.ref a1), .val (.ref a2), .val (.int (3 : Int32)), .val (.int (2 : Int32)), .val (.int (0 : Int32)), .val (.int (((0 : Int32) + b0) + b2)), .val (.int (3 : Int32)), .val (.ref x2), .val (.int b2)] [])) (fun t k => XS.goto X70.here hx rfl (pc0 := 180) (pc' := 51) rfl (hb hby own_d13_180) (by decide) (by decide) k) ?_
    refine own_st (T' := T70) (g' := (mkF m 53 #[.val (.ref a1), .val (.ref a2), .val (.int (3 : Int32)), .val (.int (2 : Int32)), .val (.int (0 : Int32)), .val (.int (((0 : Int32) + b0) + b2)), .val (.int (3 : Int32)), .val (.ref x2), .val (.int b2)] [(.int (3 : Int32))])) (fun t k => XS.iload X70.here hx rfl (hb hby own_d13_51) rfl k) ?_
    refine own_st (T' := T70) (g' := (mkF m 54 #[.val (.ref a1), .val (.ref a2), .val (.int (3 : Int32)), .val (.int (2 : Int32)), .val (.int (0 : Int32)), .val (.int (((0 : Int32) + b0) + b2)), .val (.int (3 : Int32)), .val (.ref x2), .val (.int b2)] [(.int (3 : Int32)), (.int (3 : Int32))])) (fun t k => XS.iloadN X70.here hx rfl (hb hby own_d13_53) rfl k) ?_
    refine own_st (T' := T70) (g' := (mkF m 183 #[.val (.ref a1), .val (.ref a2), .val (.int (3 : Int32)), .val (.int (2 : Int32)), .val (.int (0 : Int32)), .val (.int (((0 : Int32) + b0) + b2)), .val (.int (3 : Int32)), .val (.ref x2), .val (.int b2)] [])) (fun t k => XS.icmpYes X70.here hx rfl (pc0 := 54) (pc' := 183) rfl (hb hby own_d13_54) rfl (flt (by decide)).2.1 (by decide) (by decide) k) ?_
    refine own_st (T' := T70) (g' := (mkF m 184 #[.val (.ref a1), .val (.ref a2), .val (.int (3 : Int32)), .val (.int (2 : Int32)), .val (.int (0 : Int32)), .val (.int (((0 : Int32) + b0) + b2)), .val (.int (3 : Int32)), .val (.ref x2), .val (.int b2)] [(.ref a1)])) (fun t k => XS.aloadN X70.here hx rfl (hb hby own_d13_183) rfl rfl k) ?_
    refine own_st (T' := T70) (g' := (mkF m 185 #[.val (.ref a1), .val (.ref a2), .val (.int (3 : Int32)), .val (.int (2 : Int32)), .val (.int (0 : Int32)), .val (.int (((0 : Int32) + b0) + b2)), .val (.int (3 : Int32)), .val (.ref x2), .val (.int b2)] [(.int (2 : Int32)), (.ref a1)])) (fun t k => XS.iloadN X70.here hx rfl (hb hby own_d13_184) rfl k) ?_
    obtain ⟨T71, h71, X71, e71, W71, st71⟩ := putF X70 hx hZ hown (host := "") (Or.inl (hw _ (List.mem_of_getElem? (i := 176) rfl))) Via.refl e70 F_words_a1 E_a1 (Or.inr ⟨(hw _ (List.mem_of_getElem? (i := 177) rfl)), rfl, hnm⟩) (hw _ (List.mem_of_getElem? (i := 100) rfl)) (ty := .int) (by decide) rfl rfl (g := (mkF m 185 #[.val (.ref a1), .val (.ref a2), .val (.int (3 : Int32)), .val (.int (2 : Int32)), .val (.int (0 : Int32)), .val (.int (((0 : Int32) + b0) + b2)), .val (.int (3 : Int32)), .val (.ref x2), .val (.int b2)] [(.int (2 : Int32)), (.ref a1)])) rfl rfl (hb hby own_d13_185)
    have E_a1 := E_a1.wr W71
    have F_words_a1 := F_words_a1.same W71
    have F_word_a1 := F_word_a1.other W71 (Or.inr (slot_ne (Or.inr (hw _ (List.mem_of_getElem? (i := 117) rfl))) (Or.inr (hw _ (List.mem_of_getElem? (i := 177) rfl))) (by decide) (t := (.array .int)) (t' := .int) (by decide) (by decide)))
    have F_shift_a1 := F_shift_a1.other W71 (Or.inr (slot_ne (Or.inr (hw _ (List.mem_of_getElem? (i := 119) rfl))) (Or.inr (hw _ (List.mem_of_getElem? (i := 177) rfl))) (by decide) (t := (.array .int)) (t' := .int) (by decide) (by decide)))
    have F_mask_a1 := F_mask_a1.other W71 (Or.inr (slot_ne (Or.inr (hw _ (List.mem_of_getElem? (i := 122) rfl))) (Or.inr (hw _ (List.mem_of_getElem? (i := 177) rfl))) (by decide) (t := (.array .long)) (t' := .int) (by decide) (by decide)))
    have F_lower_a1 := F_lower_a1.other W71 (Or.inr (slot_ne (Or.inr (hw _ (List.mem_of_getElem? (i := 124) rfl))) (Or.inr (hw _ (List.mem_of_getElem? (i := 177) rfl))) (by decide) (t := (.array .long)) (t' := .int) (by decide) (by decide)))
    have E_a2 := E_a2.wr W71
    have F_size_a2 := F_size_a2.other W71 (Or.inl ne_a2_a1)
    have F_elementData_a2 := F_elementData_a2.other W71 (Or.inl ne_a2_a1)
    have V_ar := V_ar.other W71 ne_ar_a1
    have E_x0 := E_x0.wr W71
    have F_bounded_x0 := F_bounded_x0.other W71 (Or.inl ne_x0_a1)
    have F_lower_x0 := F_lower_x0.other W71 (Or.inl ne_x0_a1)
    have F_upper_x0 := F_upper_x0.other W71 (Or.inl ne_x0_a1)
    have E_x1 := E_x1.wr W71
    have F_bounded_x1 := F_bounded_x1.other W71 (Or.inl ne_x1_a1)
    have F_lower_x1 := F_lower_x1.other W71 (Or.inl ne_x1_a1)
    have F_upper_x1 := F_upper_x1.other W71 (Or.inl ne_x1_a1)
    have E_x2 := E_x2.wr W71
    have F_bounded_x2 := F_bounded_x2.other W71 (Or.inl ne_x2_a1)
    have F_lower_x2 := F_lower_x2.other W71 (Or.inl ne_x2_a1)
    have F_upper_x2 := F_upper_x2.other W71 (Or.inl ne_x2_a1)
    have V_b3 := V_b3.other W71 (Ne.symm ne_a1_b3)
    have E_b3 := E_b3.wr W71
    have V_b5 := V_b5.other W71 (Ne.symm ne_a1_b5)
    have E_b5 := E_b5.wr W71
    have V_b7 := V_b7.other W71 (Ne.symm ne_a1_b7)
    have E_b7 := E_b7.wr W71
    have V_b9 := V_b9.other W71 (Ne.symm ne_a1_b9)
    have E_b9 := E_b9.wr W71
    have K0_71 := K0_70.wr W71 (Or.inl (List.mem_of_getElem? (i := 0) rfl))
    have N71 := Fr.snoc X71 N70 g_a1
    generalize hlc71 : (lc70 ++ [(⟨a1, Jvm.RoadKit.slotOf Z "com/example/astraea/astraea/explicit/StateLayout" "words" "I"⟩ : Loc)] : List Loc) = lc71 at X71 N71
    have Z71 : n0 ≤ h71.size := Nat.le_trans Z70 (Keep.of_wr W71).1
    refine own_st (T' := T71) (g' := (mkF m 188 #[.val (.ref a1), .val (.ref a2), .val (.int (3 : Int32)), .val (.int (2 : Int32)), .val (.int (0 : Int32)), .val (.int (((0 : Int32) + b0) + b2)), .val (.int (3 : Int32)), .val (.ref x2), .val (.int b2)] [])) st71 ?_
    exact own_retV X71 hx hlk hret (hb hby own_d13_188) (by decide) (by decide) (by rw [e71]; exact ⟨rfl, N71, K0_71, (0 : Int32), (1 : Int32), (0 : Int32), (0 : Int32), (0 : Int32), ((0 : Int32) + b0), (((1 : Int64) <<< (b0 &&& 0x3f).toInt64) - (1 : Int64)), (-1 : Int64), (((1 : Int64) <<< (b2 &&& 0x3f).toInt64) - (1 : Int64)), lo0, (0 : Int64), lo2, (2 : Int32), ⟨E_a1, F_words_a1, b3, b5, b7, b9, k3, k5, k7, k9, F_word_a1, F_shift_a1, F_mask_a1, F_lower_a1, V_b3, V_b5, V_b7, V_b9⟩, own_layB hr0 hr2 h64_0 h64_1 h64_2 hc115_43, Or.inl rfl⟩)
theorem own_d25_0 : decode prog_5_method_2_code 0 = .ok (.aload_n 0, 1) := by decide +kernel
theorem own_d25_1 : decode prog_5_method_2_code 1 = .ok (.getfield 44, 3) := by decide +kernel
theorem own_d25_4 : decode prog_5_method_2_code 4 = .ok (.ireturn, 1) := by decide +kernel
theorem own_pn25 : plainFor (⟨"com/example/astraea/astraea/explicit/StateLayout", "words", "()I"⟩ : MethodName) = true := plainFor_of_name (show plainName "com/example/astraea/astraea/explicit/StateLayout" = true by first | (simp [plainName, overriddenIn]; done) | decide +kernel)
theorem own_ef25 (m : MethodId) (a1 : Addr) : entryFrame m #[(.ref a1)] 1 = (mkF m 0 #[.val (.ref a1)] []) := by first | (simp [entryFrame, mkF, argsToLocals, Value.category]; done) | rfl
set_option maxRecDepth 65536 in
set_option maxHeartbeats 40000000 in
theorem own_rm25 (l : Launch) (Z : State) (a0 : Array Value) (hw : ∀ d ∈ tables_1, d.before a0 Z = true) (h0 : Heap) (n0 : Nat) (Z0 : n0 ≤ h0.size) (a1 : Addr) (z : Int32) (F_words_a1 : Fld Z h0 a1 "com/example/astraea/astraea/explicit/StateLayout" "words" "I" (.int z)) :
    own_C l Z (⟨"com/example/astraea/astraea/explicit/StateLayout", "words", "()I"⟩ : MethodName) prog_5_method_2_code 1 (some .int) [] ({ frames := 0, cells := 0, slots := 0, locals := 0 } : Room) #[(.ref a1)] h0 (own_P (.int z) h0) := by
  refine own_body own_pn25 (f0 := fun m => (mkF m 0 #[.val (.ref a1)] [])) (fun m => own_ef25 m a1) ?_
  intro p e s m below meth c s₁ hx hby hml hown hnm hret hlk hZ X0 e0
  change own_G p e below (own_F (own_P (.int z) h0) s 0 0) s₁ (mkF m 0 #[.val (.ref a1)] [])
  have N0 := Fr.nil n0
  refine own_st (T' := s₁) (g' := (mkF m 1 #[.val (.ref a1)] [(.ref a1)])) (fun t k => XS.aloadN X0.here hx rfl (hb hby own_d25_0) rfl rfl k) ?_
  obtain ⟨T1, X1, e1, st1⟩ := getF X0 hx hZ hown (host := "") (Or.inl (hw _ (List.mem_of_getElem? (i := 176) rfl))) Via.refl e0 F_words_a1 (g := (mkF m 1 #[.val (.ref a1)] [(.ref a1)])) rfl rfl (hb hby own_d25_1)
  refine own_st (T' := T1) (g' := (mkF m 4 #[.val (.ref a1)] [(.int z)])) st1 ?_
  exact own_retI X1 hx hlk hret (hb hby own_d25_4) (by decide) (by decide) ⟨rfl, e1, rfl⟩
theorem own_d27_0 : decode prog_5_method_3_code 0 = .ok (.iconst 0, 1) := by decide +kernel
theorem own_d27_1 : decode prog_5_method_3_code 1 = .ok (.istore 4, 2) := by decide +kernel
theorem own_d27_3 : decode prog_5_method_3_code 3 = .ok (.iload 4, 2) := by decide +kernel
theorem own_d27_5 : decode prog_5_method_3_code 5 = .ok (.aload_n 1, 1) := by decide +kernel
theorem own_d27_6 : decode prog_5_method_3_code 6 = .ok (.arraylength, 1) := by decide +kernel
theorem own_d27_7 : decode prog_5_method_3_code 7 = .ok (.if_icmp .ge 51, 3) := by decide +kernel
theorem own_d27_10 : decode prog_5_method_3_code 10 = .ok (.aload_n 2, 1) := by decide +kernel
theorem own_d27_11 : decode prog_5_method_3_code 11 = .ok (.iload_n 3, 1) := by decide +kernel
theorem own_d27_12 : decode prog_5_method_3_code 12 = .ok (.aload_n 0, 1) := by decide +kernel
theorem own_d27_13 : decode prog_5_method_3_code 13 = .ok (.getfield 13, 3) := by decide +kernel
theorem own_d27_16 : decode prog_5_method_3_code 16 = .ok (.iload 4, 2) := by decide +kernel
theorem own_d27_18 : decode prog_5_method_3_code 18 = .ok (.iaload, 1) := by decide +kernel
theorem own_d27_19 : decode prog_5_method_3_code 19 = .ok (.iadd, 1) := by decide +kernel
theorem own_d27_20 : decode prog_5_method_3_code 20 = .ok (.dup2, 1) := by decide +kernel
theorem own_d27_21 : decode prog_5_method_3_code 21 = .ok (.laload, 1) := by decide +kernel
theorem own_d27_22 : decode prog_5_method_3_code 22 = .ok (.aload_n 1, 1) := by decide +kernel
theorem own_d27_23 : decode prog_5_method_3_code 23 = .ok (.iload 4, 2) := by decide +kernel
theorem own_d27_25 : decode prog_5_method_3_code 25 = .ok (.laload, 1) := by decide +kernel
theorem own_d27_26 : decode prog_5_method_3_code 26 = .ok (.aload_n 0, 1) := by decide +kernel
theorem own_d27_27 : decode prog_5_method_3_code 27 = .ok (.getfield 26, 3) := by decide +kernel
theorem own_d27_30 : decode prog_5_method_3_code 30 = .ok (.iload 4, 2) := by decide +kernel
theorem own_d27_32 : decode prog_5_method_3_code 32 = .ok (.laload, 1) := by decide +kernel
theorem own_d27_33 : decode prog_5_method_3_code 33 = .ok (.lsub, 1) := by decide +kernel
theorem own_d27_34 : decode prog_5_method_3_code 34 = .ok (.aload_n 0, 1) := by decide +kernel
theorem own_d27_35 : decode prog_5_method_3_code 35 = .ok (.getfield 22, 3) := by decide +kernel
theorem own_d27_38 : decode prog_5_method_3_code 38 = .ok (.iload 4, 2) := by decide +kernel
theorem own_d27_40 : decode prog_5_method_3_code 40 = .ok (.laload, 1) := by decide +kernel
theorem own_d27_41 : decode prog_5_method_3_code 41 = .ok (.land, 1) := by decide +kernel
theorem own_d27_42 : decode prog_5_method_3_code 42 = .ok (.aload_n 0, 1) := by decide +kernel
theorem own_d27_43 : decode prog_5_method_3_code 43 = .ok (.getfield 19, 3) := by decide +kernel
theorem own_d27_46 : decode prog_5_method_3_code 46 = .ok (.iload 4, 2) := by decide +kernel
theorem own_d27_48 : decode prog_5_method_3_code 48 = .ok (.iaload, 1) := by decide +kernel
theorem own_d27_49 : decode prog_5_method_3_code 49 = .ok (.lshl, 1) := by decide +kernel
theorem own_d27_50 : decode prog_5_method_3_code 50 = .ok (.lor, 1) := by decide +kernel
theorem own_d27_51 : decode prog_5_method_3_code 51 = .ok (.lastore, 1) := by decide +kernel
theorem own_d27_52 : decode prog_5_method_3_code 52 = .ok (.iinc 4 1, 3) := by decide +kernel
theorem own_d27_55 : decode prog_5_method_3_code 55 = .ok (.goto (-52), 3) := by decide +kernel
theorem own_d27_58 : decode prog_5_method_3_code 58 = .ok (.return_, 1) := by decide +kernel
theorem own_pn27 : plainFor (⟨"com/example/astraea/astraea/explicit/StateLayout", "pack", "([J[JI)V"⟩ : MethodName) = true := plainFor_of_name (show plainName "com/example/astraea/astraea/explicit/StateLayout" = true by first | (simp [plainName, overriddenIn]; done) | decide +kernel)
theorem own_ef27 (m : MethodId) (a1 : Addr) (a2 : Addr) (a3 : Addr) (p_at : Int32) : entryFrame m #[(.ref a1), (.ref a2), (.ref a3), (.int p_at)] 5 = (mkF m 0 #[.val (.ref a1), .val (.ref a2), .val (.ref a3), .val (.int p_at), .unset] []) := by first | (simp [entryFrame, mkF, argsToLocals, Value.category]; done) | rfl
set_option maxRecDepth 65536 in
set_option maxHeartbeats 40000000 in
theorem own_rm27 (l : Launch) (Z : State) (a0 : Array Value) (hw : ∀ d ∈ tables_1, d.before a0 Z = true) (h0 : Heap) (n0 : Nat) (Z0 : n0 ≤ h0.size) (a1 : Addr) (a2 : Addr) (a3 : Addr) (p_at : Int32) (w0 w1 w2 s0 s1 s2 : Int32) (m0 m1 m2 l0 l1 l2 : Int64) (u : Int32) (aw as_ am al : Addr) (kw ks km kl : ClassId) (E_a1 : Exa Z h0 a1 "com/example/astraea/astraea/explicit/StateLayout") (F_words_a1 : Fld Z h0 a1 "com/example/astraea/astraea/explicit/StateLayout" "words" "I" (.int u)) (F_word_a1 : Fld Z h0 a1 "com/example/astraea/astraea/explicit/StateLayout" "word" "[I" (.ref aw)) (F_shift_a1 : Fld Z h0 a1 "com/example/astraea/astraea/explicit/StateLayout" "shift" "[I" (.ref as_)) (F_mask_a1 : Fld Z h0 a1 "com/example/astraea/astraea/explicit/StateLayout" "mask" "[J" (.ref am)) (F_lower_a1 : Fld Z h0 a1 "com/example/astraea/astraea/explicit/StateLayout" "lower" "[J" (.ref al)) (V_aw : Arv Z h0 aw kw .int 3 [(.int w0), (.int w1), (.int w2)] (.int (0 : Int32))) (V_as_ : Arv Z h0 as_ ks .int 3 [(.int s0), (.int s1), (.int s2)] (.int (0 : Int32))) (V_am : Arv Z h0 am km .long 3 [(.long m0), (.long m1), (.long m2)] (.long (0 : Int64))) (V_al : Arv Z h0 al kl .long 3 [(.long l0), (.long l1), (.long l2)] (.long (0 : Int64))) (v0 v1 v2 : Int64) (kv kp : ClassId) (P : Nat → Int64) (V_a2 : Arv Z h0 a2 kv .long 3 [(.long v0), (.long v1), (.long v2)] (.long (0 : Int64))) (V_a3 : Arv Z h0 a3 kp .long (8 : Int32) (own_ls 8 P) (.long (0 : Int64))) (g_a3 : n0 ≤ a3) (hj0 : ¬ (p_at + w0) < 0 ∧ (p_at + w0) < (8 : Int32)) (hj1 : ¬ (p_at + w1) < 0 ∧ (p_at + w1) < (8 : Int32)) (hj2 : ¬ (p_at + w2) < 0 ∧ (p_at + w2) < (8 : Int32)) (ne_a1_a3 : a1 ≠ a3) (ne_a2_a3 : a2 ≠ a3) (ne_aw_a3 : aw ≠ a3) (ne_as__a3 : as_ ≠ a3) (ne_am_a3 : am ≠ a3) (ne_al_a3 : al ≠ a3) :
    own_C l Z (⟨"com/example/astraea/astraea/explicit/StateLayout", "pack", "([J[JI)V"⟩ : MethodName) prog_5_method_3_code 5 none [] ({ frames := 0, cells := 0, slots := 0, locals := 0 } : Room) #[(.ref a1), (.ref a2), (.ref a3), (.int p_at)] h0 (own_qp Z a3 kp (own_pk (own_pk (own_pk P (p_at + w0) v0 l0 m0 s0) (p_at + w1) v1 l1 m1 s1) (p_at + w2) v2 l2 m2 s2) h0 n0) := by
  refine own_body own_pn27 (f0 := fun m => (mkF m 0 #[.val (.ref a1), .val (.ref a2), .val (.ref a3), .val (.int p_at), .unset] [])) (fun m => own_ef27 m a1 a2 a3 p_at) ?_
  intro p e s m below meth c s₁ hx hby hml hown hnm hret hlk hZ X0 e0
  change own_G p e below (own_F (own_qp Z a3 kp (own_pk (own_pk (own_pk P (p_at + w0) v0 l0 m0 s0) (p_at + w1) v1 l1 m1 s1) (p_at + w2) v2 l2 m2 s2) h0 n0) s 0 0) s₁ (mkF m 0 #[.val (.ref a1), .val (.ref a2), .val (.ref a3), .val (.int p_at), .unset] [])
  have N0 := Fr.nil n0
  refine own_st (T' := s₁) (g' := (mkF m 1 #[.val (.ref a1), .val (.ref a2), .val (.ref a3), .val (.int p_at), .unset] [(.int (0 : Int32))])) (fun t k => XS.iconst X0.here hx rfl (hb hby own_d27_0) k) ?_
  refine own_st (T' := s₁) (g' := (mkF m 3 #[.val (.ref a1), .val (.ref a2), .val (.ref a3), .val (.int p_at), .val (.int (0 : Int32))] [])) (fun t k => XS.istore X0.here hx rfl (hb hby own_d27_1) rfl (l' := #[.val (.ref a1), .val (.ref a2), .val (.ref a3), .val (.int p_at), .val (.int (0 : Int32))]) rfl k) ?_
  refine own_st (T' := s₁) (g' := (mkF m 5 #[.val (.ref a1), .val (.ref a2), .val (.ref a3), .val (.int p_at), .val (.int (0 : Int32))] [(.int (0 : Int32))])) (fun t k => XS.iload X0.here hx rfl (hb hby own_d27_3) rfl k) ?_
  refine own_st (T' := s₁) (g' := (mkF m 6 #[.val (.ref a1), .val (.ref a2), .val (.ref a3), .val (.int p_at), .val (.int (0 : Int32))] [(.ref a2), (.int (0 : Int32))])) (fun t k => XS.aloadN X0.here hx rfl (hb hby own_d27_5) rfl rfl k) ?_
  refine own_st (T' := s₁) (g' := (mkF m 7 #[.val (.ref a1), .val (.ref a2), .val (.ref a3), .val (.int p_at), .val (.int (0 : Int32))] [(.int (3 : Int32)), (.int (0 : Int32))])) (own_alen V_a2 X0 hx hZ e0 (g := (mkF m 6 #[.val (.ref a1), .val (.ref a2), .val (.ref a3), .val (.int p_at), .val (.int (0 : Int32))] [(.ref a2), (.int (0 : Int32))])) rfl rfl (hb hby own_d27_6)) ?_
  refine own_st (T' := s₁) (g' := (mkF m 10 #[.val (.ref a1), .val (.ref a2), .val (.ref a3), .val (.int p_at), .val (.int (0 : Int32))] [])) (fun t k => XS.icmpNo X0.here hx rfl (hb hby own_d27_7) rfl (tlt (by decide)).2.1 k) ?_
  refine own_st (T' := s₁) (g' := (mkF m 11 #[.val (.ref a1), .val (.ref a2), .val (.ref a3), .val (.int p_at), .val (.int (0 : Int32))] [(.ref a3)])) (fun t k => XS.aloadN X0.here hx rfl (hb hby own_d27_10) rfl rfl k) ?_
  refine own_st (T' := s₁) (g' := (mkF m 12 #[.val (.ref a1), .val (.ref a2), .val (.ref a3), .val (.int p_at), .val (.int (0 : Int32))] [(.int p_at), (.ref a3)])) (fun t k => XS.iloadN X0.here hx rfl (hb hby own_d27_11) rfl k) ?_
  refine own_st (T' := s₁) (g' := (mkF m 13 #[.val (.ref a1), .val (.ref a2), .val (.ref a3), .val (.int p_at), .val (.int (0 : Int32))] [(.ref a1), (.int p_at), (.ref a3)])) (fun t k => XS.aloadN X0.here hx rfl (hb hby own_d27_12) rfl rfl k) ?_
  obtain ⟨T1, X1, e1, st1⟩ := getF X0 hx hZ hown (host := "") (Or.inl (hw _ (List.mem_of_getElem? (i := 116) rfl))) Via.refl e0 F_word_a1 (g := (mkF m 13 #[.val (.ref a1), .val (.ref a2), .val (.ref a3), .val (.int p_at), .val (.int (0 : Int32))] [(.ref a1), (.int p_at), (.ref a3)])) rfl rfl (hb hby own_d27_13)
  refine own_st (T' := T1) (g' := (mkF m 16 #[.val (.ref a1), .val (.ref a2), .val (.ref a3), .val (.int p_at), .val (.int (0 : Int32))] [(.ref aw), (.int p_at), (.ref a3)])) st1 ?_
  refine own_st (T' := T1) (g' := (mkF m 18 #[.val (.ref a1), .val (.ref a2), .val (.ref a3), .val (.int p_at), .val (.int (0 : Int32))] [(.int (0 : Int32)), (.ref aw), (.int p_at), (.ref a3)])) (fun t k => XS.iload X1.here hx rfl (hb hby own_d27_16) rfl k) ?_
  obtain ⟨cl2, Ar2, q2, S2, N2n, H2, G2⟩ := V_aw
  have hin2 : ¬ ((0 : Int32) < 0 ∨ cl2.slots.size ≤ ((0 : Int32) : Int32).toNatClampNeg) := inb_of S2 ⟨by decide, by decide⟩
  have hat3 := H2.at hin2 (v := (.int w0)) rfl
  have V_aw : Arv Z h0 aw kw .int (3 : Int32) [(.int w0), (.int w1), (.int w2)] (.int (0 : Int32)) := ⟨cl2, Ar2, q2, S2, N2n, H2, G2⟩
  refine own_st (T' := T1) (g' := (mkF m 19 #[.val (.ref a1), .val (.ref a2), .val (.ref a3), .val (.int p_at), .val (.int (0 : Int32))] [(.int w0), (.int p_at), (.ref a3)])) (X1.iaload hx (j := (0 : Int32)) (v := (.int w0)) (by rw [e1]; exact Ar2.1) (State.isArrayOf_alike hZ.alike Ar2.2.1) Ar2.2.2 hin2 hat3 (g := (mkF m 18 #[.val (.ref a1), .val (.ref a2), .val (.ref a3), .val (.int p_at), .val (.int (0 : Int32))] [(.int (0 : Int32)), (.ref aw), (.int p_at), (.ref a3)])) rfl rfl (hb hby own_d27_18)) ?_
  refine own_st (T' := T1) (g' := (mkF m 20 #[.val (.ref a1), .val (.ref a2), .val (.ref a3), .val (.int p_at), .val (.int (0 : Int32))] [(.int (p_at + w0)), (.ref a3)])) (fun t k => XS.iadd X1.here hx rfl (hb hby own_d27_19) rfl k) ?_
  refine own_st (T' := T1) (g' := (mkF m 21 #[.val (.ref a1), .val (.ref a2), .val (.ref a3), .val (.int p_at), .val (.int (0 : Int32))] [(.int (p_at + w0)), (.ref a3), (.int (p_at + w0)), (.ref a3)])) (fun t k => XT.dup2 X1.here hx rfl (hb hby own_d27_20) rfl rfl rfl k) ?_
  refine own_st (T' := T1) (g' := (mkF m 22 #[.val (.ref a1), .val (.ref a2), .val (.ref a3), .val (.int p_at), .val (.int (0 : Int32))] [(.long (P ((p_at + w0) : Int32).toNatClampNeg)), (.int (p_at + w0)), (.ref a3)])) (own_lld V_a3 rfl X1 hx hZ e1 (j := (p_at + w0)) hj0 (g := (mkF m 21 #[.val (.ref a1), .val (.ref a2), .val (.ref a3), .val (.int p_at), .val (.int (0 : Int32))] [(.int (p_at + w0)), (.ref a3), (.int (p_at + w0)), (.ref a3)])) rfl rfl (hb hby own_d27_21)) ?_
  refine own_st (T' := T1) (g' := (mkF m 23 #[.val (.ref a1), .val (.ref a2), .val (.ref a3), .val (.int p_at), .val (.int (0 : Int32))] [(.ref a2), (.long (P ((p_at + w0) : Int32).toNatClampNeg)), (.int (p_at + w0)), (.ref a3)])) (fun t k => XS.aloadN X1.here hx rfl (hb hby own_d27_22) rfl rfl k) ?_
  refine own_st (T' := T1) (g' := (mkF m 25 #[.val (.ref a1), .val (.ref a2), .val (.ref a3), .val (.int p_at), .val (.int (0 : Int32))] [(.int (0 : Int32)), (.ref a2), (.long (P ((p_at + w0) : Int32).toNatClampNeg)), (.int (p_at + w0)), (.ref a3)])) (fun t k => XS.iload X1.here hx rfl (hb hby own_d27_23) rfl k) ?_
  obtain ⟨cl4, Ar4, q4, S4, N4n, H4, G4⟩ := V_a2
  have hin4 : ¬ ((0 : Int32) < 0 ∨ cl4.slots.size ≤ ((0 : Int32) : Int32).toNatClampNeg) := inb_of S4 ⟨by decide, by decide⟩
  have hat5 := H4.at hin4 (v := (.long v0)) rfl
  have V_a2 : Arv Z h0 a2 kv .long (3 : Int32) [(.long v0), (.long v1), (.long v2)] (.long (0 : Int64)) := ⟨cl4, Ar4, q4, S4, N4n, H4, G4⟩
  refine own_st (T' := T1) (g' := (mkF m 26 #[.val (.ref a1), .val (.ref a2), .val (.ref a3), .val (.int p_at), .val (.int (0 : Int32))] [(.long v0), (.long (P ((p_at + w0) : Int32).toNatClampNeg)), (.int (p_at + w0)), (.ref a3)])) (X1.laload hx (j := (0 : Int32)) (v := (.long v0)) (by rw [e1]; exact Ar4.1) (State.isArrayOf_alike hZ.alike Ar4.2.1) Ar4.2.2 hin4 hat5 (g := (mkF m 25 #[.val (.ref a1), .val (.ref a2), .val (.ref a3), .val (.int p_at), .val (.int (0 : Int32))] [(.int (0 : Int32)), (.ref a2), (.long (P ((p_at + w0) : Int32).toNatClampNeg)), (.int (p_at + w0)), (.ref a3)])) rfl rfl (hb hby own_d27_25)) ?_
  refine own_st (T' := T1) (g' := (mkF m 27 #[.val (.ref a1), .val (.ref a2), .val (.ref a3), .val (.int p_at), .val (.int (0 : Int32))] [(.ref a1), (.long v0), (.long (P ((p_at + w0) : Int32).toNatClampNeg)), (.int (p_at + w0)), (.ref a3)])) (fun t k => XS.aloadN X1.here hx rfl (hb hby own_d27_26) rfl rfl k) ?_
  obtain ⟨T6, X6, e6, st6⟩ := getF X1 hx hZ hown (host := "") (Or.inl (hw _ (List.mem_of_getElem? (i := 123) rfl))) Via.refl e1 F_lower_a1 (g := (mkF m 27 #[.val (.ref a1), .val (.ref a2), .val (.ref a3), .val (.int p_at), .val (.int (0 : Int32))] [(.ref a1), (.long v0), (.long (P ((p_at + w0) : Int32).toNatClampNeg)), (.int (p_at + w0)), (.ref a3)])) rfl rfl (hb hby own_d27_27)
  refine own_st (T' := T6) (g' := (mkF m 30 #[.val (.ref a1), .val (.ref a2), .val (.ref a3), .val (.int p_at), .val (.int (0 : Int32))] [(.ref al), (.long v0), (.long (P ((p_at + w0) : Int32).toNatClampNeg)), (.int (p_at + w0)), (.ref a3)])) st6 ?_
  refine own_st (T' := T6) (g' := (mkF m 32 #[.val (.ref a1), .val (.ref a2), .val (.ref a3), .val (.int p_at), .val (.int (0 : Int32))] [(.int (0 : Int32)), (.ref al), (.long v0), (.long (P ((p_at + w0) : Int32).toNatClampNeg)), (.int (p_at + w0)), (.ref a3)])) (fun t k => XS.iload X6.here hx rfl (hb hby own_d27_30) rfl k) ?_
  obtain ⟨cl7, Ar7, q7, S7, N7n, H7, G7⟩ := V_al
  have hin7 : ¬ ((0 : Int32) < 0 ∨ cl7.slots.size ≤ ((0 : Int32) : Int32).toNatClampNeg) := inb_of S7 ⟨by decide, by decide⟩
  have hat8 := H7.at hin7 (v := (.long l0)) rfl
  have V_al : Arv Z h0 al kl .long (3 : Int32) [(.long l0), (.long l1), (.long l2)] (.long (0 : Int64)) := ⟨cl7, Ar7, q7, S7, N7n, H7, G7⟩
  refine own_st (T' := T6) (g' := (mkF m 33 #[.val (.ref a1), .val (.ref a2), .val (.ref a3), .val (.int p_at), .val (.int (0 : Int32))] [(.long l0), (.long v0), (.long (P ((p_at + w0) : Int32).toNatClampNeg)), (.int (p_at + w0)), (.ref a3)])) (X6.laload hx (j := (0 : Int32)) (v := (.long l0)) (by rw [e6]; exact Ar7.1) (State.isArrayOf_alike hZ.alike Ar7.2.1) Ar7.2.2 hin7 hat8 (g := (mkF m 32 #[.val (.ref a1), .val (.ref a2), .val (.ref a3), .val (.int p_at), .val (.int (0 : Int32))] [(.int (0 : Int32)), (.ref al), (.long v0), (.long (P ((p_at + w0) : Int32).toNatClampNeg)), (.int (p_at + w0)), (.ref a3)])) rfl rfl (hb hby own_d27_32)) ?_
  refine own_st (T' := T6) (g' := (mkF m 34 #[.val (.ref a1), .val (.ref a2), .val (.ref a3), .val (.int p_at), .val (.int (0 : Int32))] [(.long (v0 - l0)), (.long (P ((p_at + w0) : Int32).toNatClampNeg)), (.int (p_at + w0)), (.ref a3)])) (fun t k => XS.lsub X6.here hx rfl (hb hby own_d27_33) rfl k) ?_
  refine own_st (T' := T6) (g' := (mkF m 35 #[.val (.ref a1), .val (.ref a2), .val (.ref a3), .val (.int p_at), .val (.int (0 : Int32))] [(.ref a1), (.long (v0 - l0)), (.long (P ((p_at + w0) : Int32).toNatClampNeg)), (.int (p_at + w0)), (.ref a3)])) (fun t k => XS.aloadN X6.here hx rfl (hb hby own_d27_34) rfl rfl k) ?_
  obtain ⟨T9, X9, e9, st9⟩ := getF X6 hx hZ hown (host := "") (Or.inl (hw _ (List.mem_of_getElem? (i := 121) rfl))) Via.refl e6 F_mask_a1 (g := (mkF m 35 #[.val (.ref a1), .val (.ref a2), .val (.ref a3), .val (.int p_at), .val (.int (0 : Int32))] [(.ref a1), (.long (v0 - l0)), (.long (P ((p_at + w0) : Int32).toNatClampNeg)), (.int (p_at + w0)), (.ref a3)])) rfl rfl (hb hby own_d27_35)
  refine own_st (T' := T9) (g' := (mkF m 38 #[.val (.ref a1), .val (.ref a2), .val (.ref a3), .val (.int p_at), .val (.int (0 : Int32))] [(.ref am), (.long (v0 - l0)), (.long (P ((p_at + w0) : Int32).toNatClampNeg)), (.int (p_at + w0)), (.ref a3)])) st9 ?_
  refine own_st (T' := T9) (g' := (mkF m 40 #[.val (.ref a1), .val (.ref a2), .val (.ref a3), .val (.int p_at), .val (.int (0 : Int32))] [(.int (0 : Int32)), (.ref am), (.long (v0 - l0)), (.long (P ((p_at + w0) : Int32).toNatClampNeg)), (.int (p_at + w0)), (.ref a3)])) (fun t k => XS.iload X9.here hx rfl (hb hby own_d27_38) rfl k) ?_
  obtain ⟨cl10, Ar10, q10, S10, N10n, H10, G10⟩ := V_am
  have hin10 : ¬ ((0 : Int32) < 0 ∨ cl10.slots.size ≤ ((0 : Int32) : Int32).toNatClampNeg) := inb_of S10 ⟨by decide, by decide⟩
  have hat11 := H10.at hin10 (v := (.long m0)) rfl
  have V_am : Arv Z h0 am km .long (3 : Int32) [(.long m0), (.long m1), (.long m2)] (.long (0 : Int64)) := ⟨cl10, Ar10, q10, S10, N10n, H10, G10⟩
  refine own_st (T' := T9) (g' := (mkF m 41 #[.val (.ref a1), .val (.ref a2), .val (.ref a3), .val (.int p_at), .val (.int (0 : Int32))] [(.long m0), (.long (v0 - l0)), (.long (P ((p_at + w0) : Int32).toNatClampNeg)), (.int (p_at + w0)), (.ref a3)])) (X9.laload hx (j := (0 : Int32)) (v := (.long m0)) (by rw [e9]; exact Ar10.1) (State.isArrayOf_alike hZ.alike Ar10.2.1) Ar10.2.2 hin10 hat11 (g := (mkF m 40 #[.val (.ref a1), .val (.ref a2), .val (.ref a3), .val (.int p_at), .val (.int (0 : Int32))] [(.int (0 : Int32)), (.ref am), (.long (v0 - l0)), (.long (P ((p_at + w0) : Int32).toNatClampNeg)), (.int (p_at + w0)), (.ref a3)])) rfl rfl (hb hby own_d27_40)) ?_
  refine own_st (T' := T9) (g' := (mkF m 42 #[.val (.ref a1), .val (.ref a2), .val (.ref a3), .val (.int p_at), .val (.int (0 : Int32))] [(.long ((v0 - l0) &&& m0)), (.long (P ((p_at + w0) : Int32).toNatClampNeg)), (.int (p_at + w0)), (.ref a3)])) (fun t k => XS.land X9.here hx rfl (hb hby own_d27_41) rfl k) ?_
  refine own_st (T' := T9) (g' := (mkF m 43 #[.val (.ref a1), .val (.ref a2), .val (.ref a3), .val (.int p_at), .val (.int (0 : Int32))] [(.ref a1), (.long ((v0 - l0) &&& m0)), (.long (P ((p_at + w0) : Int32).toNatClampNeg)), (.int (p_at + w0)), (.ref a3)])) (fun t k => XS.aloadN X9.here hx rfl (hb hby own_d27_42) rfl rfl k) ?_
  obtain ⟨T12, X12, e12, st12⟩ := getF X9 hx hZ hown (host := "") (Or.inl (hw _ (List.mem_of_getElem? (i := 118) rfl))) Via.refl e9 F_shift_a1 (g := (mkF m 43 #[.val (.ref a1), .val (.ref a2), .val (.ref a3), .val (.int p_at), .val (.int (0 : Int32))] [(.ref a1), (.long ((v0 - l0) &&& m0)), (.long (P ((p_at + w0) : Int32).toNatClampNeg)), (.int (p_at + w0)), (.ref a3)])) rfl rfl (hb hby own_d27_43)
  refine own_st (T' := T12) (g' := (mkF m 46 #[.val (.ref a1), .val (.ref a2), .val (.ref a3), .val (.int p_at), .val (.int (0 : Int32))] [(.ref as_), (.long ((v0 - l0) &&& m0)), (.long (P ((p_at + w0) : Int32).toNatClampNeg)), (.int (p_at + w0)), (.ref a3)])) st12 ?_
  refine own_st (T' := T12) (g' := (mkF m 48 #[.val (.ref a1), .val (.ref a2), .val (.ref a3), .val (.int p_at), .val (.int (0 : Int32))] [(.int (0 : Int32)), (.ref as_), (.long ((v0 - l0) &&& m0)), (.long (P ((p_at + w0) : Int32).toNatClampNeg)), (.int (p_at + w0)), (.ref a3)])) (fun t k => XS.iload X12.here hx rfl (hb hby own_d27_46) rfl k) ?_
  obtain ⟨cl13, Ar13, q13, S13, N13n, H13, G13⟩ := V_as_
  have hin13 : ¬ ((0 : Int32) < 0 ∨ cl13.slots.size ≤ ((0 : Int32) : Int32).toNatClampNeg) := inb_of S13 ⟨by decide, by decide⟩
  have hat14 := H13.at hin13 (v := (.int s0)) rfl
  have V_as_ : Arv Z h0 as_ ks .int (3 : Int32) [(.int s0), (.int s1), (.int s2)] (.int (0 : Int32)) := ⟨cl13, Ar13, q13, S13, N13n, H13, G13⟩
  refine own_st (T' := T12) (g' := (mkF m 49 #[.val (.ref a1), .val (.ref a2), .val (.ref a3), .val (.int p_at), .val (.int (0 : Int32))] [(.int s0), (.long ((v0 - l0) &&& m0)), (.long (P ((p_at + w0) : Int32).toNatClampNeg)), (.int (p_at + w0)), (.ref a3)])) (X12.iaload hx (j := (0 : Int32)) (v := (.int s0)) (by rw [e12]; exact Ar13.1) (State.isArrayOf_alike hZ.alike Ar13.2.1) Ar13.2.2 hin13 hat14 (g := (mkF m 48 #[.val (.ref a1), .val (.ref a2), .val (.ref a3), .val (.int p_at), .val (.int (0 : Int32))] [(.int (0 : Int32)), (.ref as_), (.long ((v0 - l0) &&& m0)), (.long (P ((p_at + w0) : Int32).toNatClampNeg)), (.int (p_at + w0)), (.ref a3)])) rfl rfl (hb hby own_d27_48)) ?_
  refine own_st (T' := T12) (g' := (mkF m 50 #[.val (.ref a1), .val (.ref a2), .val (.ref a3), .val (.int p_at), .val (.int (0 : Int32))] [(.long (((v0 - l0) &&& m0) <<< (s0 &&& 0x3f).toInt64)), (.long (P ((p_at + w0) : Int32).toNatClampNeg)), (.int (p_at + w0)), (.ref a3)])) (fun t k => XS.lshl X12.here hx rfl (hb hby own_d27_49) rfl k) ?_
  refine own_st (T' := T12) (g' := (mkF m 51 #[.val (.ref a1), .val (.ref a2), .val (.ref a3), .val (.int p_at), .val (.int (0 : Int32))] [(.long ((P ((p_at + w0) : Int32).toNatClampNeg) ||| (((v0 - l0) &&& m0) <<< (s0 &&& 0x3f).toInt64))), (.int (p_at + w0)), (.ref a3)])) (fun t k => XS.lor X12.here hx rfl (hb hby own_d27_50) rfl k) ?_
  obtain ⟨T15, h15, X15, e15, W15, An15, st15⟩ := own_lst V_a3 rfl X12 hx hZ e12 (j := (p_at + w0)) hj0 (g := (mkF m 51 #[.val (.ref a1), .val (.ref a2), .val (.ref a3), .val (.int p_at), .val (.int (0 : Int32))] [(.long ((P ((p_at + w0) : Int32).toNatClampNeg) ||| (((v0 - l0) &&& m0) <<< (s0 &&& 0x3f).toInt64))), (.int (p_at + w0)), (.ref a3)])) rfl rfl (hb hby own_d27_51)
  have E_a1 := E_a1.wr W15
  have F_words_a1 := F_words_a1.other W15 (Or.inl ne_a1_a3)
  have F_word_a1 := F_word_a1.other W15 (Or.inl ne_a1_a3)
  have V_aw := V_aw.other W15 ne_aw_a3
  have F_shift_a1 := F_shift_a1.other W15 (Or.inl ne_a1_a3)
  have V_as_ := V_as_.other W15 ne_as__a3
  have F_mask_a1 := F_mask_a1.other W15 (Or.inl ne_a1_a3)
  have V_am := V_am.other W15 ne_am_a3
  have F_lower_a1 := F_lower_a1.other W15 (Or.inl ne_a1_a3)
  have V_al := V_al.other W15 ne_al_a3
  have V_a2 := V_a2.other W15 ne_a2_a3
  obtain ⟨P15, hP15⟩ : ∃ z, z = own_up P ((p_at + w0) : Int32).toNatClampNeg ((P ((p_at + w0) : Int32).toNatClampNeg) ||| (((v0 - l0) &&& m0) <<< (s0 &&& 0x3f).toInt64)) := ⟨_, rfl⟩
  have V_a3 : Arv Z h15 a3 kp .long (8 : Int32) (own_ls 8 P15) (.long (0 : Int64)) := by rw [hP15]; exact An15
  have K0_15 := (Keep.refl h0 [a3]).wr W15 (Or.inl (List.mem_of_getElem? (i := 0) rfl))
  have N15 := Fr.snoc X15 N0 g_a3
  generalize hlc15 : ([] ++ [(⟨a3, ((p_at + w0) : Int32).toNatClampNeg⟩ : Loc)] : List Loc) = lc15 at X15 N15
  have Z15 : n0 ≤ h15.size := Nat.le_trans Z0 (Keep.of_wr W15).1
  refine own_st (T' := T15) (g' := (mkF m 52 #[.val (.ref a1), .val (.ref a2), .val (.ref a3), .val (.int p_at), .val (.int (0 : Int32))] [])) st15 ?_
  refine own_st (T' := T15) (g' := (mkF m 55 #[.val (.ref a1), .val (.ref a2), .val (.ref a3), .val (.int p_at), .val (.int (1 : Int32))] [])) (fun t k => XS.iinc X15.here hx rfl (hb hby own_d27_52) rfl (l' := #[.val (.ref a1), .val (.ref a2), .val (.ref a3), .val (.int p_at), .val (.int (1 : Int32))]) rfl k) ?_
  refine own_st (T' := T15) (g' := (mkF m 3 #[.val (.ref a1), .val (.ref a2), .val (.ref a3), .val (.int p_at), .val (.int (1 : Int32))] [])) (fun t k => XS.goto X15.here hx rfl (pc0 := 55) (pc' := 3) rfl (hb hby own_d27_55) (by decide) (by decide) k) ?_
  refine own_st (T' := T15) (g' := (mkF m 5 #[.val (.ref a1), .val (.ref a2), .val (.ref a3), .val (.int p_at), .val (.int (1 : Int32))] [(.int (1 : Int32))])) (fun t k => XS.iload X15.here hx rfl (hb hby own_d27_3) rfl k) ?_
  refine own_st (T' := T15) (g' := (mkF m 6 #[.val (.ref a1), .val (.ref a2), .val (.ref a3), .val (.int p_at), .val (.int (1 : Int32))] [(.ref a2), (.int (1 : Int32))])) (fun t k => XS.aloadN X15.here hx rfl (hb hby own_d27_5) rfl rfl k) ?_
  refine own_st (T' := T15) (g' := (mkF m 7 #[.val (.ref a1), .val (.ref a2), .val (.ref a3), .val (.int p_at), .val (.int (1 : Int32))] [(.int (3 : Int32)), (.int (1 : Int32))])) (own_alen V_a2 X15 hx hZ e15 (g := (mkF m 6 #[.val (.ref a1), .val (.ref a2), .val (.ref a3), .val (.int p_at), .val (.int (1 : Int32))] [(.ref a2), (.int (1 : Int32))])) rfl rfl (hb hby own_d27_6)) ?_
  refine own_st (T' := T15) (g' := (mkF m 10 #[.val (.ref a1), .val (.ref a2), .val (.ref a3), .val (.int p_at), .val (.int (1 : Int32))] [])) (fun t k => XS.icmpNo X15.here hx rfl (hb hby own_d27_7) rfl (tlt (by decide)).2.1 k) ?_
  refine own_st (T' := T15) (g' := (mkF m 11 #[.val (.ref a1), .val (.ref a2), .val (.ref a3), .val (.int p_at), .val (.int (1 : Int32))] [(.ref a3)])) (fun t k => XS.aloadN X15.here hx rfl (hb hby own_d27_10) rfl rfl k) ?_
  refine own_st (T' := T15) (g' := (mkF m 12 #[.val (.ref a1), .val (.ref a2), .val (.ref a3), .val (.int p_at), .val (.int (1 : Int32))] [(.int p_at), (.ref a3)])) (fun t k => XS.iloadN X15.here hx rfl (hb hby own_d27_11) rfl k) ?_
  refine own_st (T' := T15) (g' := (mkF m 13 #[.val (.ref a1), .val (.ref a2), .val (.ref a3), .val (.int p_at), .val (.int (1 : Int32))] [(.ref a1), (.int p_at), (.ref a3)])) (fun t k => XS.aloadN X15.here hx rfl (hb hby own_d27_12) rfl rfl k) ?_
  obtain ⟨T16, X16, e16, st16⟩ := getF X15 hx hZ hown (host := "") (Or.inl (hw _ (List.mem_of_getElem? (i := 116) rfl))) Via.refl e15 F_word_a1 (g := (mkF m 13 #[.val (.ref a1), .val (.ref a2), .val (.ref a3), .val (.int p_at), .val (.int (1 : Int32))] [(.ref a1), (.int p_at), (.ref a3)])) rfl rfl (hb hby own_d27_13)
  refine own_st (T' := T16) (g' := (mkF m 16 #[.val (.ref a1), .val (.ref a2), .val (.ref a3), .val (.int p_at), .val (.int (1 : Int32))] [(.ref aw), (.int p_at), (.ref a3)])) st16 ?_
  refine own_st (T' := T16) (g' := (mkF m 18 #[.val (.ref a1), .val (.ref a2), .val (.ref a3), .val (.int p_at), .val (.int (1 : Int32))] [(.int (1 : Int32)), (.ref aw), (.int p_at), (.ref a3)])) (fun t k => XS.iload X16.here hx rfl (hb hby own_d27_16) rfl k) ?_
  obtain ⟨cl17, Ar17, q17, S17, N17n, H17, G17⟩ := V_aw
  have hin17 : ¬ ((1 : Int32) < 0 ∨ cl17.slots.size ≤ ((1 : Int32) : Int32).toNatClampNeg) := inb_of S17 ⟨by decide, by decide⟩
  have hat18 := H17.at hin17 (v := (.int w1)) rfl
  have V_aw : Arv Z h15 aw kw .int (3 : Int32) [(.int w0), (.int w1), (.int w2)] (.int (0 : Int32)) := ⟨cl17, Ar17, q17, S17, N17n, H17, G17⟩
  refine own_st (T' := T16) (g' := (mkF m 19 #[.val (.ref a1), .val (.ref a2), .val (.ref a3), .val (.int p_at), .val (.int (1 : Int32))] [(.int w1), (.int p_at), (.ref a3)])) (X16.iaload hx (j := (1 : Int32)) (v := (.int w1)) (by rw [e16]; exact Ar17.1) (State.isArrayOf_alike hZ.alike Ar17.2.1) Ar17.2.2 hin17 hat18 (g := (mkF m 18 #[.val (.ref a1), .val (.ref a2), .val (.ref a3), .val (.int p_at), .val (.int (1 : Int32))] [(.int (1 : Int32)), (.ref aw), (.int p_at), (.ref a3)])) rfl rfl (hb hby own_d27_18)) ?_
  refine own_st (T' := T16) (g' := (mkF m 20 #[.val (.ref a1), .val (.ref a2), .val (.ref a3), .val (.int p_at), .val (.int (1 : Int32))] [(.int (p_at + w1)), (.ref a3)])) (fun t k => XS.iadd X16.here hx rfl (hb hby own_d27_19) rfl k) ?_
  refine own_st (T' := T16) (g' := (mkF m 21 #[.val (.ref a1), .val (.ref a2), .val (.ref a3), .val (.int p_at), .val (.int (1 : Int32))] [(.int (p_at + w1)), (.ref a3), (.int (p_at + w1)), (.ref a3)])) (fun t k => XT.dup2 X16.here hx rfl (hb hby own_d27_20) rfl rfl rfl k) ?_
  refine own_st (T' := T16) (g' := (mkF m 22 #[.val (.ref a1), .val (.ref a2), .val (.ref a3), .val (.int p_at), .val (.int (1 : Int32))] [(.long (P15 ((p_at + w1) : Int32).toNatClampNeg)), (.int (p_at + w1)), (.ref a3)])) (own_lld V_a3 rfl X16 hx hZ e16 (j := (p_at + w1)) hj1 (g := (mkF m 21 #[.val (.ref a1), .val (.ref a2), .val (.ref a3), .val (.int p_at), .val (.int (1 : Int32))] [(.int (p_at + w1)), (.ref a3), (.int (p_at + w1)), (.ref a3)])) rfl rfl (hb hby own_d27_21)) ?_
  refine own_st (T' := T16) (g' := (mkF m 23 #[.val (.ref a1), .val (.ref a2), .val (.ref a3), .val (.int p_at), .val (.int (1 : Int32))] [(.ref a2), (.long (P15 ((p_at + w1) : Int32).toNatClampNeg)), (.int (p_at + w1)), (.ref a3)])) (fun t k => XS.aloadN X16.here hx rfl (hb hby own_d27_22) rfl rfl k) ?_
  refine own_st (T' := T16) (g' := (mkF m 25 #[.val (.ref a1), .val (.ref a2), .val (.ref a3), .val (.int p_at), .val (.int (1 : Int32))] [(.int (1 : Int32)), (.ref a2), (.long (P15 ((p_at + w1) : Int32).toNatClampNeg)), (.int (p_at + w1)), (.ref a3)])) (fun t k => XS.iload X16.here hx rfl (hb hby own_d27_23) rfl k) ?_
  obtain ⟨cl19, Ar19, q19, S19, N19n, H19, G19⟩ := V_a2
  have hin19 : ¬ ((1 : Int32) < 0 ∨ cl19.slots.size ≤ ((1 : Int32) : Int32).toNatClampNeg) := inb_of S19 ⟨by decide, by decide⟩
  have hat20 := H19.at hin19 (v := (.long v1)) rfl
  have V_a2 : Arv Z h15 a2 kv .long (3 : Int32) [(.long v0), (.long v1), (.long v2)] (.long (0 : Int64)) := ⟨cl19, Ar19, q19, S19, N19n, H19, G19⟩
  refine own_st (T' := T16) (g' := (mkF m 26 #[.val (.ref a1), .val (.ref a2), .val (.ref a3), .val (.int p_at), .val (.int (1 : Int32))] [(.long v1), (.long (P15 ((p_at + w1) : Int32).toNatClampNeg)), (.int (p_at + w1)), (.ref a3)])) (X16.laload hx (j := (1 : Int32)) (v := (.long v1)) (by rw [e16]; exact Ar19.1) (State.isArrayOf_alike hZ.alike Ar19.2.1) Ar19.2.2 hin19 hat20 (g := (mkF m 25 #[.val (.ref a1), .val (.ref a2), .val (.ref a3), .val (.int p_at), .val (.int (1 : Int32))] [(.int (1 : Int32)), (.ref a2), (.long (P15 ((p_at + w1) : Int32).toNatClampNeg)), (.int (p_at + w1)), (.ref a3)])) rfl rfl (hb hby own_d27_25)) ?_
  refine own_st (T' := T16) (g' := (mkF m 27 #[.val (.ref a1), .val (.ref a2), .val (.ref a3), .val (.int p_at), .val (.int (1 : Int32))] [(.ref a1), (.long v1), (.long (P15 ((p_at + w1) : Int32).toNatClampNeg)), (.int (p_at + w1)), (.ref a3)])) (fun t k => XS.aloadN X16.here hx rfl (hb hby own_d27_26) rfl rfl k) ?_
  obtain ⟨T21, X21, e21, st21⟩ := getF X16 hx hZ hown (host := "") (Or.inl (hw _ (List.mem_of_getElem? (i := 123) rfl))) Via.refl e16 F_lower_a1 (g := (mkF m 27 #[.val (.ref a1), .val (.ref a2), .val (.ref a3), .val (.int p_at), .val (.int (1 : Int32))] [(.ref a1), (.long v1), (.long (P15 ((p_at + w1) : Int32).toNatClampNeg)), (.int (p_at + w1)), (.ref a3)])) rfl rfl (hb hby own_d27_27)
  refine own_st (T' := T21) (g' := (mkF m 30 #[.val (.ref a1), .val (.ref a2), .val (.ref a3), .val (.int p_at), .val (.int (1 : Int32))] [(.ref al), (.long v1), (.long (P15 ((p_at + w1) : Int32).toNatClampNeg)), (.int (p_at + w1)), (.ref a3)])) st21 ?_
  refine own_st (T' := T21) (g' := (mkF m 32 #[.val (.ref a1), .val (.ref a2), .val (.ref a3), .val (.int p_at), .val (.int (1 : Int32))] [(.int (1 : Int32)), (.ref al), (.long v1), (.long (P15 ((p_at + w1) : Int32).toNatClampNeg)), (.int (p_at + w1)), (.ref a3)])) (fun t k => XS.iload X21.here hx rfl (hb hby own_d27_30) rfl k) ?_
  obtain ⟨cl22, Ar22, q22, S22, N22n, H22, G22⟩ := V_al
  have hin22 : ¬ ((1 : Int32) < 0 ∨ cl22.slots.size ≤ ((1 : Int32) : Int32).toNatClampNeg) := inb_of S22 ⟨by decide, by decide⟩
  have hat23 := H22.at hin22 (v := (.long l1)) rfl
  have V_al : Arv Z h15 al kl .long (3 : Int32) [(.long l0), (.long l1), (.long l2)] (.long (0 : Int64)) := ⟨cl22, Ar22, q22, S22, N22n, H22, G22⟩
  refine own_st (T' := T21) (g' := (mkF m 33 #[.val (.ref a1), .val (.ref a2), .val (.ref a3), .val (.int p_at), .val (.int (1 : Int32))] [(.long l1), (.long v1), (.long (P15 ((p_at + w1) : Int32).toNatClampNeg)), (.int (p_at + w1)), (.ref a3)])) (X21.laload hx (j := (1 : Int32)) (v := (.long l1)) (by rw [e21]; exact Ar22.1) (State.isArrayOf_alike hZ.alike Ar22.2.1) Ar22.2.2 hin22 hat23 (g := (mkF m 32 #[.val (.ref a1), .val (.ref a2), .val (.ref a3), .val (.int p_at), .val (.int (1 : Int32))] [(.int (1 : Int32)), (.ref al), (.long v1), (.long (P15 ((p_at + w1) : Int32).toNatClampNeg)), (.int (p_at + w1)), (.ref a3)])) rfl rfl (hb hby own_d27_32)) ?_
  refine own_st (T' := T21) (g' := (mkF m 34 #[.val (.ref a1), .val (.ref a2), .val (.ref a3), .val (.int p_at), .val (.int (1 : Int32))] [(.long (v1 - l1)), (.long (P15 ((p_at + w1) : Int32).toNatClampNeg)), (.int (p_at + w1)), (.ref a3)])) (fun t k => XS.lsub X21.here hx rfl (hb hby own_d27_33) rfl k) ?_
  refine own_st (T' := T21) (g' := (mkF m 35 #[.val (.ref a1), .val (.ref a2), .val (.ref a3), .val (.int p_at), .val (.int (1 : Int32))] [(.ref a1), (.long (v1 - l1)), (.long (P15 ((p_at + w1) : Int32).toNatClampNeg)), (.int (p_at + w1)), (.ref a3)])) (fun t k => XS.aloadN X21.here hx rfl (hb hby own_d27_34) rfl rfl k) ?_
  obtain ⟨T24, X24, e24, st24⟩ := getF X21 hx hZ hown (host := "") (Or.inl (hw _ (List.mem_of_getElem? (i := 121) rfl))) Via.refl e21 F_mask_a1 (g := (mkF m 35 #[.val (.ref a1), .val (.ref a2), .val (.ref a3), .val (.int p_at), .val (.int (1 : Int32))] [(.ref a1), (.long (v1 - l1)), (.long (P15 ((p_at + w1) : Int32).toNatClampNeg)), (.int (p_at + w1)), (.ref a3)])) rfl rfl (hb hby own_d27_35)
  refine own_st (T' := T24) (g' := (mkF m 38 #[.val (.ref a1), .val (.ref a2), .val (.ref a3), .val (.int p_at), .val (.int (1 : Int32))] [(.ref am), (.long (v1 - l1)), (.long (P15 ((p_at + w1) : Int32).toNatClampNeg)), (.int (p_at + w1)), (.ref a3)])) st24 ?_
  refine own_st (T' := T24) (g' := (mkF m 40 #[.val (.ref a1), .val (.ref a2), .val (.ref a3), .val (.int p_at), .val (.int (1 : Int32))] [(.int (1 : Int32)), (.ref am), (.long (v1 - l1)), (.long (P15 ((p_at + w1) : Int32).toNatClampNeg)), (.int (p_at + w1)), (.ref a3)])) (fun t k => XS.iload X24.here hx rfl (hb hby own_d27_38) rfl k) ?_
  obtain ⟨cl25, Ar25, q25, S25, N25n, H25, G25⟩ := V_am
  have hin25 : ¬ ((1 : Int32) < 0 ∨ cl25.slots.size ≤ ((1 : Int32) : Int32).toNatClampNeg) := inb_of S25 ⟨by decide, by decide⟩
  have hat26 := H25.at hin25 (v := (.long m1)) rfl
  have V_am : Arv Z h15 am km .long (3 : Int32) [(.long m0), (.long m1), (.long m2)] (.long (0 : Int64)) := ⟨cl25, Ar25, q25, S25, N25n, H25, G25⟩
  refine own_st (T' := T24) (g' := (mkF m 41 #[.val (.ref a1), .val (.ref a2), .val (.ref a3), .val (.int p_at), .val (.int (1 : Int32))] [(.long m1), (.long (v1 - l1)), (.long (P15 ((p_at + w1) : Int32).toNatClampNeg)), (.int (p_at + w1)), (.ref a3)])) (X24.laload hx (j := (1 : Int32)) (v := (.long m1)) (by rw [e24]; exact Ar25.1) (State.isArrayOf_alike hZ.alike Ar25.2.1) Ar25.2.2 hin25 hat26 (g := (mkF m 40 #[.val (.ref a1), .val (.ref a2), .val (.ref a3), .val (.int p_at), .val (.int (1 : Int32))] [(.int (1 : Int32)), (.ref am), (.long (v1 - l1)), (.long (P15 ((p_at + w1) : Int32).toNatClampNeg)), (.int (p_at + w1)), (.ref a3)])) rfl rfl (hb hby own_d27_40)) ?_
  refine own_st (T' := T24) (g' := (mkF m 42 #[.val (.ref a1), .val (.ref a2), .val (.ref a3), .val (.int p_at), .val (.int (1 : Int32))] [(.long ((v1 - l1) &&& m1)), (.long (P15 ((p_at + w1) : Int32).toNatClampNeg)), (.int (p_at + w1)), (.ref a3)])) (fun t k => XS.land X24.here hx rfl (hb hby own_d27_41) rfl k) ?_
  refine own_st (T' := T24) (g' := (mkF m 43 #[.val (.ref a1), .val (.ref a2), .val (.ref a3), .val (.int p_at), .val (.int (1 : Int32))] [(.ref a1), (.long ((v1 - l1) &&& m1)), (.long (P15 ((p_at + w1) : Int32).toNatClampNeg)), (.int (p_at + w1)), (.ref a3)])) (fun t k => XS.aloadN X24.here hx rfl (hb hby own_d27_42) rfl rfl k) ?_
  obtain ⟨T27, X27, e27, st27⟩ := getF X24 hx hZ hown (host := "") (Or.inl (hw _ (List.mem_of_getElem? (i := 118) rfl))) Via.refl e24 F_shift_a1 (g := (mkF m 43 #[.val (.ref a1), .val (.ref a2), .val (.ref a3), .val (.int p_at), .val (.int (1 : Int32))] [(.ref a1), (.long ((v1 - l1) &&& m1)), (.long (P15 ((p_at + w1) : Int32).toNatClampNeg)), (.int (p_at + w1)), (.ref a3)])) rfl rfl (hb hby own_d27_43)
  refine own_st (T' := T27) (g' := (mkF m 46 #[.val (.ref a1), .val (.ref a2), .val (.ref a3), .val (.int p_at), .val (.int (1 : Int32))] [(.ref as_), (.long ((v1 - l1) &&& m1)), (.long (P15 ((p_at + w1) : Int32).toNatClampNeg)), (.int (p_at + w1)), (.ref a3)])) st27 ?_
  refine own_st (T' := T27) (g' := (mkF m 48 #[.val (.ref a1), .val (.ref a2), .val (.ref a3), .val (.int p_at), .val (.int (1 : Int32))] [(.int (1 : Int32)), (.ref as_), (.long ((v1 - l1) &&& m1)), (.long (P15 ((p_at + w1) : Int32).toNatClampNeg)), (.int (p_at + w1)), (.ref a3)])) (fun t k => XS.iload X27.here hx rfl (hb hby own_d27_46) rfl k) ?_
  obtain ⟨cl28, Ar28, q28, S28, N28n, H28, G28⟩ := V_as_
  have hin28 : ¬ ((1 : Int32) < 0 ∨ cl28.slots.size ≤ ((1 : Int32) : Int32).toNatClampNeg) := inb_of S28 ⟨by decide, by decide⟩
  have hat29 := H28.at hin28 (v := (.int s1)) rfl
  have V_as_ : Arv Z h15 as_ ks .int (3 : Int32) [(.int s0), (.int s1), (.int s2)] (.int (0 : Int32)) := ⟨cl28, Ar28, q28, S28, N28n, H28, G28⟩
  refine own_st (T' := T27) (g' := (mkF m 49 #[.val (.ref a1), .val (.ref a2), .val (.ref a3), .val (.int p_at), .val (.int (1 : Int32))] [(.int s1), (.long ((v1 - l1) &&& m1)), (.long (P15 ((p_at + w1) : Int32).toNatClampNeg)), (.int (p_at + w1)), (.ref a3)])) (X27.iaload hx (j := (1 : Int32)) (v := (.int s1)) (by rw [e27]; exact Ar28.1) (State.isArrayOf_alike hZ.alike Ar28.2.1) Ar28.2.2 hin28 hat29 (g := (mkF m 48 #[.val (.ref a1), .val (.ref a2), .val (.ref a3), .val (.int p_at), .val (.int (1 : Int32))] [(.int (1 : Int32)), (.ref as_), (.long ((v1 - l1) &&& m1)), (.long (P15 ((p_at + w1) : Int32).toNatClampNeg)), (.int (p_at + w1)), (.ref a3)])) rfl rfl (hb hby own_d27_48)) ?_
  refine own_st (T' := T27) (g' := (mkF m 50 #[.val (.ref a1), .val (.ref a2), .val (.ref a3), .val (.int p_at), .val (.int (1 : Int32))] [(.long (((v1 - l1) &&& m1) <<< (s1 &&& 0x3f).toInt64)), (.long (P15 ((p_at + w1) : Int32).toNatClampNeg)), (.int (p_at + w1)), (.ref a3)])) (fun t k => XS.lshl X27.here hx rfl (hb hby own_d27_49) rfl k) ?_
  refine own_st (T' := T27) (g' := (mkF m 51 #[.val (.ref a1), .val (.ref a2), .val (.ref a3), .val (.int p_at), .val (.int (1 : Int32))] [(.long ((P15 ((p_at + w1) : Int32).toNatClampNeg) ||| (((v1 - l1) &&& m1) <<< (s1 &&& 0x3f).toInt64))), (.int (p_at + w1)), (.ref a3)])) (fun t k => XS.lor X27.here hx rfl (hb hby own_d27_50) rfl k) ?_
  obtain ⟨T30, h30, X30, e30, W30, An30, st30⟩ := own_lst V_a3 rfl X27 hx hZ e27 (j := (p_at + w1)) hj1 (g := (mkF m 51 #[.val (.ref a1), .val (.ref a2), .val (.ref a3), .val (.int p_at), .val (.int (1 : Int32))] [(.long ((P15 ((p_at + w1) : Int32).toNatClampNeg) ||| (((v1 - l1) &&& m1) <<< (s1 &&& 0x3f).toInt64))), (.int (p_at + w1)), (.ref a3)])) rfl rfl (hb hby own_d27_51)
  have E_a1 := E_a1.wr W30
  have F_words_a1 := F_words_a1.other W30 (Or.inl ne_a1_a3)
  have F_word_a1 := F_word_a1.other W30 (Or.inl ne_a1_a3)
  have V_aw := V_aw.other W30 ne_aw_a3
  have F_shift_a1 := F_shift_a1.other W30 (Or.inl ne_a1_a3)
  have V_as_ := V_as_.other W30 ne_as__a3
  have F_mask_a1 := F_mask_a1.other W30 (Or.inl ne_a1_a3)
  have V_am := V_am.other W30 ne_am_a3
  have F_lower_a1 := F_lower_a1.other W30 (Or.inl ne_a1_a3)
  have V_al := V_al.other W30 ne_al_a3
  have V_a2 := V_a2.other W30 ne_a2_a3
  obtain ⟨P30, hP30⟩ : ∃ z, z = own_up P15 ((p_at + w1) : Int32).toNatClampNeg ((P15 ((p_at + w1) : Int32).toNatClampNeg) ||| (((v1 - l1) &&& m1) <<< (s1 &&& 0x3f).toInt64)) := ⟨_, rfl⟩
  have V_a3 : Arv Z h30 a3 kp .long (8 : Int32) (own_ls 8 P30) (.long (0 : Int64)) := by rw [hP30]; exact An30
  have K0_30 := K0_15.wr W30 (Or.inl (List.mem_of_getElem? (i := 0) rfl))
  have N30 := Fr.snoc X30 N15 g_a3
  generalize hlc30 : (lc15 ++ [(⟨a3, ((p_at + w1) : Int32).toNatClampNeg⟩ : Loc)] : List Loc) = lc30 at X30 N30
  have Z30 : n0 ≤ h30.size := Nat.le_trans Z15 (Keep.of_wr W30).1
  refine own_st (T' := T30) (g' := (mkF m 52 #[.val (.ref a1), .val (.ref a2), .val (.ref a3), .val (.int p_at), .val (.int (1 : Int32))] [])) st30 ?_
  refine own_st (T' := T30) (g' := (mkF m 55 #[.val (.ref a1), .val (.ref a2), .val (.ref a3), .val (.int p_at), .val (.int (2 : Int32))] [])) (fun t k => XS.iinc X30.here hx rfl (hb hby own_d27_52) rfl (l' := #[.val (.ref a1), .val (.ref a2), .val (.ref a3), .val (.int p_at), .val (.int (2 : Int32))]) rfl k) ?_
  refine own_st (T' := T30) (g' := (mkF m 3 #[.val (.ref a1), .val (.ref a2), .val (.ref a3), .val (.int p_at), .val (.int (2 : Int32))] [])) (fun t k => XS.goto X30.here hx rfl (pc0 := 55) (pc' := 3) rfl (hb hby own_d27_55) (by decide) (by decide) k) ?_
  refine own_st (T' := T30) (g' := (mkF m 5 #[.val (.ref a1), .val (.ref a2), .val (.ref a3), .val (.int p_at), .val (.int (2 : Int32))] [(.int (2 : Int32))])) (fun t k => XS.iload X30.here hx rfl (hb hby own_d27_3) rfl k) ?_
  refine own_st (T' := T30) (g' := (mkF m 6 #[.val (.ref a1), .val (.ref a2), .val (.ref a3), .val (.int p_at), .val (.int (2 : Int32))] [(.ref a2), (.int (2 : Int32))])) (fun t k => XS.aloadN X30.here hx rfl (hb hby own_d27_5) rfl rfl k) ?_
  refine own_st (T' := T30) (g' := (mkF m 7 #[.val (.ref a1), .val (.ref a2), .val (.ref a3), .val (.int p_at), .val (.int (2 : Int32))] [(.int (3 : Int32)), (.int (2 : Int32))])) (own_alen V_a2 X30 hx hZ e30 (g := (mkF m 6 #[.val (.ref a1), .val (.ref a2), .val (.ref a3), .val (.int p_at), .val (.int (2 : Int32))] [(.ref a2), (.int (2 : Int32))])) rfl rfl (hb hby own_d27_6)) ?_
  refine own_st (T' := T30) (g' := (mkF m 10 #[.val (.ref a1), .val (.ref a2), .val (.ref a3), .val (.int p_at), .val (.int (2 : Int32))] [])) (fun t k => XS.icmpNo X30.here hx rfl (hb hby own_d27_7) rfl (tlt (by decide)).2.1 k) ?_
  refine own_st (T' := T30) (g' := (mkF m 11 #[.val (.ref a1), .val (.ref a2), .val (.ref a3), .val (.int p_at), .val (.int (2 : Int32))] [(.ref a3)])) (fun t k => XS.aloadN X30.here hx rfl (hb hby own_d27_10) rfl rfl k) ?_
  refine own_st (T' := T30) (g' := (mkF m 12 #[.val (.ref a1), .val (.ref a2), .val (.ref a3), .val (.int p_at), .val (.int (2 : Int32))] [(.int p_at), (.ref a3)])) (fun t k => XS.iloadN X30.here hx rfl (hb hby own_d27_11) rfl k) ?_
  refine own_st (T' := T30) (g' := (mkF m 13 #[.val (.ref a1), .val (.ref a2), .val (.ref a3), .val (.int p_at), .val (.int (2 : Int32))] [(.ref a1), (.int p_at), (.ref a3)])) (fun t k => XS.aloadN X30.here hx rfl (hb hby own_d27_12) rfl rfl k) ?_
  obtain ⟨T31, X31, e31, st31⟩ := getF X30 hx hZ hown (host := "") (Or.inl (hw _ (List.mem_of_getElem? (i := 116) rfl))) Via.refl e30 F_word_a1 (g := (mkF m 13 #[.val (.ref a1), .val (.ref a2), .val (.ref a3), .val (.int p_at), .val (.int (2 : Int32))] [(.ref a1), (.int p_at), (.ref a3)])) rfl rfl (hb hby own_d27_13)
  refine own_st (T' := T31) (g' := (mkF m 16 #[.val (.ref a1), .val (.ref a2), .val (.ref a3), .val (.int p_at), .val (.int (2 : Int32))] [(.ref aw), (.int p_at), (.ref a3)])) st31 ?_
  refine own_st (T' := T31) (g' := (mkF m 18 #[.val (.ref a1), .val (.ref a2), .val (.ref a3), .val (.int p_at), .val (.int (2 : Int32))] [(.int (2 : Int32)), (.ref aw), (.int p_at), (.ref a3)])) (fun t k => XS.iload X31.here hx rfl (hb hby own_d27_16) rfl k) ?_
  obtain ⟨cl32, Ar32, q32, S32, N32n, H32, G32⟩ := V_aw
  have hin32 : ¬ ((2 : Int32) < 0 ∨ cl32.slots.size ≤ ((2 : Int32) : Int32).toNatClampNeg) := inb_of S32 ⟨by decide, by decide⟩
  have hat33 := H32.at hin32 (v := (.int w2)) rfl
  have V_aw : Arv Z h30 aw kw .int (3 : Int32) [(.int w0), (.int w1), (.int w2)] (.int (0 : Int32)) := ⟨cl32, Ar32, q32, S32, N32n, H32, G32⟩
  refine own_st (T' := T31) (g' := (mkF m 19 #[.val (.ref a1), .val (.ref a2), .val (.ref a3), .val (.int p_at), .val (.int (2 : Int32))] [(.int w2), (.int p_at), (.ref a3)])) (X31.iaload hx (j := (2 : Int32)) (v := (.int w2)) (by rw [e31]; exact Ar32.1) (State.isArrayOf_alike hZ.alike Ar32.2.1) Ar32.2.2 hin32 hat33 (g := (mkF m 18 #[.val (.ref a1), .val (.ref a2), .val (.ref a3), .val (.int p_at), .val (.int (2 : Int32))] [(.int (2 : Int32)), (.ref aw), (.int p_at), (.ref a3)])) rfl rfl (hb hby own_d27_18)) ?_
  refine own_st (T' := T31) (g' := (mkF m 20 #[.val (.ref a1), .val (.ref a2), .val (.ref a3), .val (.int p_at), .val (.int (2 : Int32))] [(.int (p_at + w2)), (.ref a3)])) (fun t k => XS.iadd X31.here hx rfl (hb hby own_d27_19) rfl k) ?_
  refine own_st (T' := T31) (g' := (mkF m 21 #[.val (.ref a1), .val (.ref a2), .val (.ref a3), .val (.int p_at), .val (.int (2 : Int32))] [(.int (p_at + w2)), (.ref a3), (.int (p_at + w2)), (.ref a3)])) (fun t k => XT.dup2 X31.here hx rfl (hb hby own_d27_20) rfl rfl rfl k) ?_
  refine own_st (T' := T31) (g' := (mkF m 22 #[.val (.ref a1), .val (.ref a2), .val (.ref a3), .val (.int p_at), .val (.int (2 : Int32))] [(.long (P30 ((p_at + w2) : Int32).toNatClampNeg)), (.int (p_at + w2)), (.ref a3)])) (own_lld V_a3 rfl X31 hx hZ e31 (j := (p_at + w2)) hj2 (g := (mkF m 21 #[.val (.ref a1), .val (.ref a2), .val (.ref a3), .val (.int p_at), .val (.int (2 : Int32))] [(.int (p_at + w2)), (.ref a3), (.int (p_at + w2)), (.ref a3)])) rfl rfl (hb hby own_d27_21)) ?_
  refine own_st (T' := T31) (g' := (mkF m 23 #[.val (.ref a1), .val (.ref a2), .val (.ref a3), .val (.int p_at), .val (.int (2 : Int32))] [(.ref a2), (.long (P30 ((p_at + w2) : Int32).toNatClampNeg)), (.int (p_at + w2)), (.ref a3)])) (fun t k => XS.aloadN X31.here hx rfl (hb hby own_d27_22) rfl rfl k) ?_
  refine own_st (T' := T31) (g' := (mkF m 25 #[.val (.ref a1), .val (.ref a2), .val (.ref a3), .val (.int p_at), .val (.int (2 : Int32))] [(.int (2 : Int32)), (.ref a2), (.long (P30 ((p_at + w2) : Int32).toNatClampNeg)), (.int (p_at + w2)), (.ref a3)])) (fun t k => XS.iload X31.here hx rfl (hb hby own_d27_23) rfl k) ?_
  obtain ⟨cl34, Ar34, q34, S34, N34n, H34, G34⟩ := V_a2
  have hin34 : ¬ ((2 : Int32) < 0 ∨ cl34.slots.size ≤ ((2 : Int32) : Int32).toNatClampNeg) := inb_of S34 ⟨by decide, by decide⟩
  have hat35 := H34.at hin34 (v := (.long v2)) rfl
  have V_a2 : Arv Z h30 a2 kv .long (3 : Int32) [(.long v0), (.long v1), (.long v2)] (.long (0 : Int64)) := ⟨cl34, Ar34, q34, S34, N34n, H34, G34⟩
  refine own_st (T' := T31) (g' := (mkF m 26 #[.val (.ref a1), .val (.ref a2), .val (.ref a3), .val (.int p_at), .val (.int (2 : Int32))] [(.long v2), (.long (P30 ((p_at + w2) : Int32).toNatClampNeg)), (.int (p_at + w2)), (.ref a3)])) (X31.laload hx (j := (2 : Int32)) (v := (.long v2)) (by rw [e31]; exact Ar34.1) (State.isArrayOf_alike hZ.alike Ar34.2.1) Ar34.2.2 hin34 hat35 (g := (mkF m 25 #[.val (.ref a1), .val (.ref a2), .val (.ref a3), .val (.int p_at), .val (.int (2 : Int32))] [(.int (2 : Int32)), (.ref a2), (.long (P30 ((p_at + w2) : Int32).toNatClampNeg)), (.int (p_at + w2)), (.ref a3)])) rfl rfl (hb hby own_d27_25)) ?_
  refine own_st (T' := T31) (g' := (mkF m 27 #[.val (.ref a1), .val (.ref a2), .val (.ref a3), .val (.int p_at), .val (.int (2 : Int32))] [(.ref a1), (.long v2), (.long (P30 ((p_at + w2) : Int32).toNatClampNeg)), (.int (p_at + w2)), (.ref a3)])) (fun t k => XS.aloadN X31.here hx rfl (hb hby own_d27_26) rfl rfl k) ?_
  obtain ⟨T36, X36, e36, st36⟩ := getF X31 hx hZ hown (host := "") (Or.inl (hw _ (List.mem_of_getElem? (i := 123) rfl))) Via.refl e31 F_lower_a1 (g := (mkF m 27 #[.val (.ref a1), .val (.ref a2), .val (.ref a3), .val (.int p_at), .val (.int (2 : Int32))] [(.ref a1), (.long v2), (.long (P30 ((p_at + w2) : Int32).toNatClampNeg)), (.int (p_at + w2)), (.ref a3)])) rfl rfl (hb hby own_d27_27)
  refine own_st (T' := T36) (g' := (mkF m 30 #[.val (.ref a1), .val (.ref a2), .val (.ref a3), .val (.int p_at), .val (.int (2 : Int32))] [(.ref al), (.long v2), (.long (P30 ((p_at + w2) : Int32).toNatClampNeg)), (.int (p_at + w2)), (.ref a3)])) st36 ?_
  refine own_st (T' := T36) (g' := (mkF m 32 #[.val (.ref a1), .val (.ref a2), .val (.ref a3), .val (.int p_at), .val (.int (2 : Int32))] [(.int (2 : Int32)), (.ref al), (.long v2), (.long (P30 ((p_at + w2) : Int32).toNatClampNeg)), (.int (p_at + w2)), (.ref a3)])) (fun t k => XS.iload X36.here hx rfl (hb hby own_d27_30) rfl k) ?_
  obtain ⟨cl37, Ar37, q37, S37, N37n, H37, G37⟩ := V_al
  have hin37 : ¬ ((2 : Int32) < 0 ∨ cl37.slots.size ≤ ((2 : Int32) : Int32).toNatClampNeg) := inb_of S37 ⟨by decide, by decide⟩
  have hat38 := H37.at hin37 (v := (.long l2)) rfl
  have V_al : Arv Z h30 al kl .long (3 : Int32) [(.long l0), (.long l1), (.long l2)] (.long (0 : Int64)) := ⟨cl37, Ar37, q37, S37, N37n, H37, G37⟩
  refine own_st (T' := T36) (g' := (mkF m 33 #[.val (.ref a1), .val (.ref a2), .val (.ref a3), .val (.int p_at), .val (.int (2 : Int32))] [(.long l2), (.long v2), (.long (P30 ((p_at + w2) : Int32).toNatClampNeg)), (.int (p_at + w2)), (.ref a3)])) (X36.laload hx (j := (2 : Int32)) (v := (.long l2)) (by rw [e36]; exact Ar37.1) (State.isArrayOf_alike hZ.alike Ar37.2.1) Ar37.2.2 hin37 hat38 (g := (mkF m 32 #[.val (.ref a1), .val (.ref a2), .val (.ref a3), .val (.int p_at), .val (.int (2 : Int32))] [(.int (2 : Int32)), (.ref al), (.long v2), (.long (P30 ((p_at + w2) : Int32).toNatClampNeg)), (.int (p_at + w2)), (.ref a3)])) rfl rfl (hb hby own_d27_32)) ?_
  refine own_st (T' := T36) (g' := (mkF m 34 #[.val (.ref a1), .val (.ref a2), .val (.ref a3), .val (.int p_at), .val (.int (2 : Int32))] [(.long (v2 - l2)), (.long (P30 ((p_at + w2) : Int32).toNatClampNeg)), (.int (p_at + w2)), (.ref a3)])) (fun t k => XS.lsub X36.here hx rfl (hb hby own_d27_33) rfl k) ?_
  refine own_st (T' := T36) (g' := (mkF m 35 #[.val (.ref a1), .val (.ref a2), .val (.ref a3), .val (.int p_at), .val (.int (2 : Int32))] [(.ref a1), (.long (v2 - l2)), (.long (P30 ((p_at + w2) : Int32).toNatClampNeg)), (.int (p_at + w2)), (.ref a3)])) (fun t k => XS.aloadN X36.here hx rfl (hb hby own_d27_34) rfl rfl k) ?_
  obtain ⟨T39, X39, e39, st39⟩ := getF X36 hx hZ hown (host := "") (Or.inl (hw _ (List.mem_of_getElem? (i := 121) rfl))) Via.refl e36 F_mask_a1 (g := (mkF m 35 #[.val (.ref a1), .val (.ref a2), .val (.ref a3), .val (.int p_at), .val (.int (2 : Int32))] [(.ref a1), (.long (v2 - l2)), (.long (P30 ((p_at + w2) : Int32).toNatClampNeg)), (.int (p_at + w2)), (.ref a3)])) rfl rfl (hb hby own_d27_35)
  refine own_st (T' := T39) (g' := (mkF m 38 #[.val (.ref a1), .val (.ref a2), .val (.ref a3), .val (.int p_at), .val (.int (2 : Int32))] [(.ref am), (.long (v2 - l2)), (.long (P30 ((p_at + w2) : Int32).toNatClampNeg)), (.int (p_at + w2)), (.ref a3)])) st39 ?_
  refine own_st (T' := T39) (g' := (mkF m 40 #[.val (.ref a1), .val (.ref a2), .val (.ref a3), .val (.int p_at), .val (.int (2 : Int32))] [(.int (2 : Int32)), (.ref am), (.long (v2 - l2)), (.long (P30 ((p_at + w2) : Int32).toNatClampNeg)), (.int (p_at + w2)), (.ref a3)])) (fun t k => XS.iload X39.here hx rfl (hb hby own_d27_38) rfl k) ?_
  obtain ⟨cl40, Ar40, q40, S40, N40n, H40, G40⟩ := V_am
  have hin40 : ¬ ((2 : Int32) < 0 ∨ cl40.slots.size ≤ ((2 : Int32) : Int32).toNatClampNeg) := inb_of S40 ⟨by decide, by decide⟩
  have hat41 := H40.at hin40 (v := (.long m2)) rfl
  have V_am : Arv Z h30 am km .long (3 : Int32) [(.long m0), (.long m1), (.long m2)] (.long (0 : Int64)) := ⟨cl40, Ar40, q40, S40, N40n, H40, G40⟩
  refine own_st (T' := T39) (g' := (mkF m 41 #[.val (.ref a1), .val (.ref a2), .val (.ref a3), .val (.int p_at), .val (.int (2 : Int32))] [(.long m2), (.long (v2 - l2)), (.long (P30 ((p_at + w2) : Int32).toNatClampNeg)), (.int (p_at + w2)), (.ref a3)])) (X39.laload hx (j := (2 : Int32)) (v := (.long m2)) (by rw [e39]; exact Ar40.1) (State.isArrayOf_alike hZ.alike Ar40.2.1) Ar40.2.2 hin40 hat41 (g := (mkF m 40 #[.val (.ref a1), .val (.ref a2), .val (.ref a3), .val (.int p_at), .val (.int (2 : Int32))] [(.int (2 : Int32)), (.ref am), (.long (v2 - l2)), (.long (P30 ((p_at + w2) : Int32).toNatClampNeg)), (.int (p_at + w2)), (.ref a3)])) rfl rfl (hb hby own_d27_40)) ?_
  refine own_st (T' := T39) (g' := (mkF m 42 #[.val (.ref a1), .val (.ref a2), .val (.ref a3), .val (.int p_at), .val (.int (2 : Int32))] [(.long ((v2 - l2) &&& m2)), (.long (P30 ((p_at + w2) : Int32).toNatClampNeg)), (.int (p_at + w2)), (.ref a3)])) (fun t k => XS.land X39.here hx rfl (hb hby own_d27_41) rfl k) ?_
  refine own_st (T' := T39) (g' := (mkF m 43 #[.val (.ref a1), .val (.ref a2), .val (.ref a3), .val (.int p_at), .val (.int (2 : Int32))] [(.ref a1), (.long ((v2 - l2) &&& m2)), (.long (P30 ((p_at + w2) : Int32).toNatClampNeg)), (.int (p_at + w2)), (.ref a3)])) (fun t k => XS.aloadN X39.here hx rfl (hb hby own_d27_42) rfl rfl k) ?_
  obtain ⟨T42, X42, e42, st42⟩ := getF X39 hx hZ hown (host := "") (Or.inl (hw _ (List.mem_of_getElem? (i := 118) rfl))) Via.refl e39 F_shift_a1 (g := (mkF m 43 #[.val (.ref a1), .val (.ref a2), .val (.ref a3), .val (.int p_at), .val (.int (2 : Int32))] [(.ref a1), (.long ((v2 - l2) &&& m2)), (.long (P30 ((p_at + w2) : Int32).toNatClampNeg)), (.int (p_at + w2)), (.ref a3)])) rfl rfl (hb hby own_d27_43)
  refine own_st (T' := T42) (g' := (mkF m 46 #[.val (.ref a1), .val (.ref a2), .val (.ref a3), .val (.int p_at), .val (.int (2 : Int32))] [(.ref as_), (.long ((v2 - l2) &&& m2)), (.long (P30 ((p_at + w2) : Int32).toNatClampNeg)), (.int (p_at + w2)), (.ref a3)])) st42 ?_
  refine own_st (T' := T42) (g' := (mkF m 48 #[.val (.ref a1), .val (.ref a2), .val (.ref a3), .val (.int p_at), .val (.int (2 : Int32))] [(.int (2 : Int32)), (.ref as_), (.long ((v2 - l2) &&& m2)), (.long (P30 ((p_at + w2) : Int32).toNatClampNeg)), (.int (p_at + w2)), (.ref a3)])) (fun t k => XS.iload X42.here hx rfl (hb hby own_d27_46) rfl k) ?_
  obtain ⟨cl43, Ar43, q43, S43, N43n, H43, G43⟩ := V_as_
  have hin43 : ¬ ((2 : Int32) < 0 ∨ cl43.slots.size ≤ ((2 : Int32) : Int32).toNatClampNeg) := inb_of S43 ⟨by decide, by decide⟩
  have hat44 := H43.at hin43 (v := (.int s2)) rfl
  have V_as_ : Arv Z h30 as_ ks .int (3 : Int32) [(.int s0), (.int s1), (.int s2)] (.int (0 : Int32)) := ⟨cl43, Ar43, q43, S43, N43n, H43, G43⟩
  refine own_st (T' := T42) (g' := (mkF m 49 #[.val (.ref a1), .val (.ref a2), .val (.ref a3), .val (.int p_at), .val (.int (2 : Int32))] [(.int s2), (.long ((v2 - l2) &&& m2)), (.long (P30 ((p_at + w2) : Int32).toNatClampNeg)), (.int (p_at + w2)), (.ref a3)])) (X42.iaload hx (j := (2 : Int32)) (v := (.int s2)) (by rw [e42]; exact Ar43.1) (State.isArrayOf_alike hZ.alike Ar43.2.1) Ar43.2.2 hin43 hat44 (g := (mkF m 48 #[.val (.ref a1), .val (.ref a2), .val (.ref a3), .val (.int p_at), .val (.int (2 : Int32))] [(.int (2 : Int32)), (.ref as_), (.long ((v2 - l2) &&& m2)), (.long (P30 ((p_at + w2) : Int32).toNatClampNeg)), (.int (p_at + w2)), (.ref a3)])) rfl rfl (hb hby own_d27_48)) ?_
  refine own_st (T' := T42) (g' := (mkF m 50 #[.val (.ref a1), .val (.ref a2), .val (.ref a3), .val (.int p_at), .val (.int (2 : Int32))] [(.long (((v2 - l2) &&& m2) <<< (s2 &&& 0x3f).toInt64)), (.long (P30 ((p_at + w2) : Int32).toNatClampNeg)), (.int (p_at + w2)), (.ref a3)])) (fun t k => XS.lshl X42.here hx rfl (hb hby own_d27_49) rfl k) ?_
  refine own_st (T' := T42) (g' := (mkF m 51 #[.val (.ref a1), .val (.ref a2), .val (.ref a3), .val (.int p_at), .val (.int (2 : Int32))] [(.long ((P30 ((p_at + w2) : Int32).toNatClampNeg) ||| (((v2 - l2) &&& m2) <<< (s2 &&& 0x3f).toInt64))), (.int (p_at + w2)), (.ref a3)])) (fun t k => XS.lor X42.here hx rfl (hb hby own_d27_50) rfl k) ?_
  obtain ⟨T45, h45, X45, e45, W45, An45, st45⟩ := own_lst V_a3 rfl X42 hx hZ e42 (j := (p_at + w2)) hj2 (g := (mkF m 51 #[.val (.ref a1), .val (.ref a2), .val (.ref a3), .val (.int p_at), .val (.int (2 : Int32))] [(.long ((P30 ((p_at + w2) : Int32).toNatClampNeg) ||| (((v2 - l2) &&& m2) <<< (s2 &&& 0x3f).toInt64))), (.int (p_at + w2)), (.ref a3)])) rfl rfl (hb hby own_d27_51)
  have E_a1 := E_a1.wr W45
  have F_words_a1 := F_words_a1.other W45 (Or.inl ne_a1_a3)
  have F_word_a1 := F_word_a1.other W45 (Or.inl ne_a1_a3)
  have V_aw := V_aw.other W45 ne_aw_a3
  have F_shift_a1 := F_shift_a1.other W45 (Or.inl ne_a1_a3)
  have V_as_ := V_as_.other W45 ne_as__a3
  have F_mask_a1 := F_mask_a1.other W45 (Or.inl ne_a1_a3)
  have V_am := V_am.other W45 ne_am_a3
  have F_lower_a1 := F_lower_a1.other W45 (Or.inl ne_a1_a3)
  have V_al := V_al.other W45 ne_al_a3
  have V_a2 := V_a2.other W45 ne_a2_a3
  obtain ⟨P45, hP45⟩ : ∃ z, z = own_up P30 ((p_at + w2) : Int32).toNatClampNeg ((P30 ((p_at + w2) : Int32).toNatClampNeg) ||| (((v2 - l2) &&& m2) <<< (s2 &&& 0x3f).toInt64)) := ⟨_, rfl⟩
  have V_a3 : Arv Z h45 a3 kp .long (8 : Int32) (own_ls 8 P45) (.long (0 : Int64)) := by rw [hP45]; exact An45
  have K0_45 := K0_30.wr W45 (Or.inl (List.mem_of_getElem? (i := 0) rfl))
  have N45 := Fr.snoc X45 N30 g_a3
  generalize hlc45 : (lc30 ++ [(⟨a3, ((p_at + w2) : Int32).toNatClampNeg⟩ : Loc)] : List Loc) = lc45 at X45 N45
  have Z45 : n0 ≤ h45.size := Nat.le_trans Z30 (Keep.of_wr W45).1
  refine own_st (T' := T45) (g' := (mkF m 52 #[.val (.ref a1), .val (.ref a2), .val (.ref a3), .val (.int p_at), .val (.int (2 : Int32))] [])) st45 ?_
  refine own_st (T' := T45) (g' := (mkF m 55 #[.val (.ref a1), .val (.ref a2), .val (.ref a3), .val (.int p_at), .val (.int (3 : Int32))] [])) (fun t k => XS.iinc X45.here hx rfl (hb hby own_d27_52) rfl (l' := #[.val (.ref a1), .val (.ref a2), .val (.ref a3), .val (.int p_at), .val (.int (3 : Int32))]) rfl k) ?_
  refine own_st (T' := T45) (g' := (mkF m 3 #[.val (.ref a1), .val (.ref a2), .val (.ref a3), .val (.int p_at), .val (.int (3 : Int32))] [])) (fun t k => XS.goto X45.here hx rfl (pc0 := 55) (pc' := 3) rfl (hb hby own_d27_55) (by decide) (by decide) k) ?_
  refine own_st (T' := T45) (g' := (mkF m 5 #[.val (.ref a1), .val (.ref a2), .val (.ref a3), .val (.int p_at), .val (.int (3 : Int32))] [(.int (3 : Int32))])) (fun t k => XS.iload X45.here hx rfl (hb hby own_d27_3) rfl k) ?_
  refine own_st (T' := T45) (g' := (mkF m 6 #[.val (.ref a1), .val (.ref a2), .val (.ref a3), .val (.int p_at), .val (.int (3 : Int32))] [(.ref a2), (.int (3 : Int32))])) (fun t k => XS.aloadN X45.here hx rfl (hb hby own_d27_5) rfl rfl k) ?_
  refine own_st (T' := T45) (g' := (mkF m 7 #[.val (.ref a1), .val (.ref a2), .val (.ref a3), .val (.int p_at), .val (.int (3 : Int32))] [(.int (3 : Int32)), (.int (3 : Int32))])) (own_alen V_a2 X45 hx hZ e45 (g := (mkF m 6 #[.val (.ref a1), .val (.ref a2), .val (.ref a3), .val (.int p_at), .val (.int (3 : Int32))] [(.ref a2), (.int (3 : Int32))])) rfl rfl (hb hby own_d27_6)) ?_
  refine own_st (T' := T45) (g' := (mkF m 58 #[.val (.ref a1), .val (.ref a2), .val (.ref a3), .val (.int p_at), .val (.int (3 : Int32))] [])) (fun t k => XS.icmpYes X45.here hx rfl (pc0 := 7) (pc' := 58) rfl (hb hby own_d27_7) rfl (flt (by decide)).2.1 (by decide) (by decide) k) ?_
  exact own_retV X45 hx hlk hret (hb hby own_d27_58) (by decide) (by decide) (by rw [e45]; subst hP15 hP30 hP45; exact ⟨rfl, N45, K0_45, V_a3⟩)
theorem own_d28_0 : decode prog_5_method_4_code 0 = .ok (.iconst 0, 1) := by decide +kernel
theorem own_d28_1 : decode prog_5_method_4_code 1 = .ok (.istore 4, 2) := by decide +kernel
theorem own_d28_3 : decode prog_5_method_4_code 3 = .ok (.iload 4, 2) := by decide +kernel
theorem own_d28_5 : decode prog_5_method_4_code 5 = .ok (.aload_n 3, 1) := by decide +kernel
theorem own_d28_6 : decode prog_5_method_4_code 6 = .ok (.arraylength, 1) := by decide +kernel
theorem own_d28_7 : decode prog_5_method_4_code 7 = .ok (.if_icmp .ge 48, 3) := by decide +kernel
theorem own_d28_10 : decode prog_5_method_4_code 10 = .ok (.aload_n 3, 1) := by decide +kernel
theorem own_d28_11 : decode prog_5_method_4_code 11 = .ok (.iload 4, 2) := by decide +kernel
theorem own_d28_13 : decode prog_5_method_4_code 13 = .ok (.aload_n 0, 1) := by decide +kernel
theorem own_d28_14 : decode prog_5_method_4_code 14 = .ok (.getfield 26, 3) := by decide +kernel
theorem own_d28_17 : decode prog_5_method_4_code 17 = .ok (.iload 4, 2) := by decide +kernel
theorem own_d28_19 : decode prog_5_method_4_code 19 = .ok (.laload, 1) := by decide +kernel
theorem own_d28_20 : decode prog_5_method_4_code 20 = .ok (.aload_n 1, 1) := by decide +kernel
theorem own_d28_21 : decode prog_5_method_4_code 21 = .ok (.iload_n 2, 1) := by decide +kernel
theorem own_d28_22 : decode prog_5_method_4_code 22 = .ok (.aload_n 0, 1) := by decide +kernel
theorem own_d28_23 : decode prog_5_method_4_code 23 = .ok (.getfield 13, 3) := by decide +kernel
theorem own_d28_26 : decode prog_5_method_4_code 26 = .ok (.iload 4, 2) := by decide +kernel
theorem own_d28_28 : decode prog_5_method_4_code 28 = .ok (.iaload, 1) := by decide +kernel
theorem own_d28_29 : decode prog_5_method_4_code 29 = .ok (.iadd, 1) := by decide +kernel
theorem own_d28_30 : decode prog_5_method_4_code 30 = .ok (.laload, 1) := by decide +kernel
theorem own_d28_31 : decode prog_5_method_4_code 31 = .ok (.aload_n 0, 1) := by decide +kernel
theorem own_d28_32 : decode prog_5_method_4_code 32 = .ok (.getfield 19, 3) := by decide +kernel
theorem own_d28_35 : decode prog_5_method_4_code 35 = .ok (.iload 4, 2) := by decide +kernel
theorem own_d28_37 : decode prog_5_method_4_code 37 = .ok (.iaload, 1) := by decide +kernel
theorem own_d28_38 : decode prog_5_method_4_code 38 = .ok (.lushr, 1) := by decide +kernel
theorem own_d28_39 : decode prog_5_method_4_code 39 = .ok (.aload_n 0, 1) := by decide +kernel
theorem own_d28_40 : decode prog_5_method_4_code 40 = .ok (.getfield 22, 3) := by decide +kernel
theorem own_d28_43 : decode prog_5_method_4_code 43 = .ok (.iload 4, 2) := by decide +kernel
theorem own_d28_45 : decode prog_5_method_4_code 45 = .ok (.laload, 1) := by decide +kernel
theorem own_d28_46 : decode prog_5_method_4_code 46 = .ok (.land, 1) := by decide +kernel
theorem own_d28_47 : decode prog_5_method_4_code 47 = .ok (.ladd, 1) := by decide +kernel
theorem own_d28_48 : decode prog_5_method_4_code 48 = .ok (.lastore, 1) := by decide +kernel
theorem own_d28_49 : decode prog_5_method_4_code 49 = .ok (.iinc 4 1, 3) := by decide +kernel
theorem own_d28_52 : decode prog_5_method_4_code 52 = .ok (.goto (-49), 3) := by decide +kernel
theorem own_d28_55 : decode prog_5_method_4_code 55 = .ok (.return_, 1) := by decide +kernel
theorem own_pn28 : plainFor (⟨"com/example/astraea/astraea/explicit/StateLayout", "unpack", "([JI[J)V"⟩ : MethodName) = true := plainFor_of_name (show plainName "com/example/astraea/astraea/explicit/StateLayout" = true by first | (simp [plainName, overriddenIn]; done) | decide +kernel)
theorem own_ef28 (m : MethodId) (a1 : Addr) (a2 : Addr) (p_at : Int32) (a4 : Addr) : entryFrame m #[(.ref a1), (.ref a2), (.int p_at), (.ref a4)] 5 = (mkF m 0 #[.val (.ref a1), .val (.ref a2), .val (.int p_at), .val (.ref a4), .unset] []) := by first | (simp [entryFrame, mkF, argsToLocals, Value.category]; done) | rfl
set_option maxRecDepth 65536 in
set_option maxHeartbeats 40000000 in
theorem own_rm28 (l : Launch) (Z : State) (a0 : Array Value) (hw : ∀ d ∈ tables_1, d.before a0 Z = true) (h0 : Heap) (n0 : Nat) (Z0 : n0 ≤ h0.size) (a1 : Addr) (a2 : Addr) (p_at : Int32) (a4 : Addr) (w0 w1 w2 s0 s1 s2 : Int32) (m0 m1 m2 l0 l1 l2 : Int64) (u : Int32) (aw as_ am al : Addr) (kw ks km kl : ClassId) (E_a1 : Exa Z h0 a1 "com/example/astraea/astraea/explicit/StateLayout") (F_words_a1 : Fld Z h0 a1 "com/example/astraea/astraea/explicit/StateLayout" "words" "I" (.int u)) (F_word_a1 : Fld Z h0 a1 "com/example/astraea/astraea/explicit/StateLayout" "word" "[I" (.ref aw)) (F_shift_a1 : Fld Z h0 a1 "com/example/astraea/astraea/explicit/StateLayout" "shift" "[I" (.ref as_)) (F_mask_a1 : Fld Z h0 a1 "com/example/astraea/astraea/explicit/StateLayout" "mask" "[J" (.ref am)) (F_lower_a1 : Fld Z h0 a1 "com/example/astraea/astraea/explicit/StateLayout" "lower" "[J" (.ref al)) (V_aw : Arv Z h0 aw kw .int 3 [(.int w0), (.int w1), (.int w2)] (.int (0 : Int32))) (V_as_ : Arv Z h0 as_ ks .int 3 [(.int s0), (.int s1), (.int s2)] (.int (0 : Int32))) (V_am : Arv Z h0 am km .long 3 [(.long m0), (.long m1), (.long m2)] (.long (0 : Int64))) (V_al : Arv Z h0 al kl .long 3 [(.long l0), (.long l1), (.long l2)] (.long (0 : Int64))) (v0 v1 v2 : Int64) (kv kp : ClassId) (P : Nat → Int64) (V_a4 : Arv Z h0 a4 kv .long 3 [(.long v0), (.long v1), (.long v2)] (.long (0 : Int64))) (V_a2 : Arv Z h0 a2 kp .long (8 : Int32) (own_ls 8 P) (.long (0 : Int64))) (g_a4 : n0 ≤ a4) (hj0 : ¬ (p_at + w0) < 0 ∧ (p_at + w0) < (8 : Int32)) (hj1 : ¬ (p_at + w1) < 0 ∧ (p_at + w1) < (8 : Int32)) (hj2 : ¬ (p_at + w2) < 0 ∧ (p_at + w2) < (8 : Int32)) (ne_a1_a4 : a1 ≠ a4) (ne_a2_a4 : a2 ≠ a4) (ne_aw_a4 : aw ≠ a4) (ne_as__a4 : as_ ≠ a4) (ne_am_a4 : am ≠ a4) (ne_al_a4 : al ≠ a4) :
    own_C l Z (⟨"com/example/astraea/astraea/explicit/StateLayout", "unpack", "([JI[J)V"⟩ : MethodName) prog_5_method_4_code 5 none [] ({ frames := 0, cells := 0, slots := 0, locals := 0 } : Room) #[(.ref a1), (.ref a2), (.int p_at), (.ref a4)] h0 (own_qu Z a4 kv (own_un P (p_at + w0) l0 m0 s0) (own_un P (p_at + w1) l1 m1 s1) (own_un P (p_at + w2) l2 m2 s2) h0 n0) := by
  refine own_body own_pn28 (f0 := fun m => (mkF m 0 #[.val (.ref a1), .val (.ref a2), .val (.int p_at), .val (.ref a4), .unset] [])) (fun m => own_ef28 m a1 a2 p_at a4) ?_
  intro p e s m below meth c s₁ hx hby hml hown hnm hret hlk hZ X0 e0
  change own_G p e below (own_F (own_qu Z a4 kv (own_un P (p_at + w0) l0 m0 s0) (own_un P (p_at + w1) l1 m1 s1) (own_un P (p_at + w2) l2 m2 s2) h0 n0) s 0 0) s₁ (mkF m 0 #[.val (.ref a1), .val (.ref a2), .val (.int p_at), .val (.ref a4), .unset] [])
  have N0 := Fr.nil n0
  refine own_st (T' := s₁) (g' := (mkF m 1 #[.val (.ref a1), .val (.ref a2), .val (.int p_at), .val (.ref a4), .unset] [(.int (0 : Int32))])) (fun t k => XS.iconst X0.here hx rfl (hb hby own_d28_0) k) ?_
  refine own_st (T' := s₁) (g' := (mkF m 3 #[.val (.ref a1), .val (.ref a2), .val (.int p_at), .val (.ref a4), .val (.int (0 : Int32))] [])) (fun t k => XS.istore X0.here hx rfl (hb hby own_d28_1) rfl (l' := #[.val (.ref a1), .val (.ref a2), .val (.int p_at), .val (.ref a4), .val (.int (0 : Int32))]) rfl k) ?_
  refine own_st (T' := s₁) (g' := (mkF m 5 #[.val (.ref a1), .val (.ref a2), .val (.int p_at), .val (.ref a4), .val (.int (0 : Int32))] [(.int (0 : Int32))])) (fun t k => XS.iload X0.here hx rfl (hb hby own_d28_3) rfl k) ?_
  refine own_st (T' := s₁) (g' := (mkF m 6 #[.val (.ref a1), .val (.ref a2), .val (.int p_at), .val (.ref a4), .val (.int (0 : Int32))] [(.ref a4), (.int (0 : Int32))])) (fun t k => XS.aloadN X0.here hx rfl (hb hby own_d28_5) rfl rfl k) ?_
  refine own_st (T' := s₁) (g' := (mkF m 7 #[.val (.ref a1), .val (.ref a2), .val (.int p_at), .val (.ref a4), .val (.int (0 : Int32))] [(.int (3 : Int32)), (.int (0 : Int32))])) (own_alen V_a4 X0 hx hZ e0 (g := (mkF m 6 #[.val (.ref a1), .val (.ref a2), .val (.int p_at), .val (.ref a4), .val (.int (0 : Int32))] [(.ref a4), (.int (0 : Int32))])) rfl rfl (hb hby own_d28_6)) ?_
  refine own_st (T' := s₁) (g' := (mkF m 10 #[.val (.ref a1), .val (.ref a2), .val (.int p_at), .val (.ref a4), .val (.int (0 : Int32))] [])) (fun t k => XS.icmpNo X0.here hx rfl (hb hby own_d28_7) rfl (tlt (by decide)).2.1 k) ?_
  refine own_st (T' := s₁) (g' := (mkF m 11 #[.val (.ref a1), .val (.ref a2), .val (.int p_at), .val (.ref a4), .val (.int (0 : Int32))] [(.ref a4)])) (fun t k => XS.aloadN X0.here hx rfl (hb hby own_d28_10) rfl rfl k) ?_
  refine own_st (T' := s₁) (g' := (mkF m 13 #[.val (.ref a1), .val (.ref a2), .val (.int p_at), .val (.ref a4), .val (.int (0 : Int32))] [(.int (0 : Int32)), (.ref a4)])) (fun t k => XS.iload X0.here hx rfl (hb hby own_d28_11) rfl k) ?_
  refine own_st (T' := s₁) (g' := (mkF m 14 #[.val (.ref a1), .val (.ref a2), .val (.int p_at), .val (.ref a4), .val (.int (0 : Int32))] [(.ref a1), (.int (0 : Int32)), (.ref a4)])) (fun t k => XS.aloadN X0.here hx rfl (hb hby own_d28_13) rfl rfl k) ?_
  obtain ⟨T1, X1, e1, st1⟩ := getF X0 hx hZ hown (host := "") (Or.inl (hw _ (List.mem_of_getElem? (i := 123) rfl))) Via.refl e0 F_lower_a1 (g := (mkF m 14 #[.val (.ref a1), .val (.ref a2), .val (.int p_at), .val (.ref a4), .val (.int (0 : Int32))] [(.ref a1), (.int (0 : Int32)), (.ref a4)])) rfl rfl (hb hby own_d28_14)
  refine own_st (T' := T1) (g' := (mkF m 17 #[.val (.ref a1), .val (.ref a2), .val (.int p_at), .val (.ref a4), .val (.int (0 : Int32))] [(.ref al), (.int (0 : Int32)), (.ref a4)])) st1 ?_
  refine own_st (T' := T1) (g' := (mkF m 19 #[.val (.ref a1), .val (.ref a2), .val (.int p_at), .val (.ref a4), .val (.int (0 : Int32))] [(.int (0 : Int32)), (.ref al), (.int (0 : Int32)), (.ref a4)])) (fun t k => XS.iload X1.here hx rfl (hb hby own_d28_17) rfl k) ?_
  obtain ⟨cl2, Ar2, q2, S2, N2n, H2, G2⟩ := V_al
  have hin2 : ¬ ((0 : Int32) < 0 ∨ cl2.slots.size ≤ ((0 : Int32) : Int32).toNatClampNeg) := inb_of S2 ⟨by decide, by decide⟩
  have hat3 := H2.at hin2 (v := (.long l0)) rfl
  have V_al : Arv Z h0 al kl .long (3 : Int32) [(.long l0), (.long l1), (.long l2)] (.long (0 : Int64)) := ⟨cl2, Ar2, q2, S2, N2n, H2, G2⟩
  refine own_st (T' := T1) (g' := (mkF m 20 #[.val (.ref a1), .val (.ref a2), .val (.int p_at), .val (.ref a4), .val (.int (0 : Int32))] [(.long l0), (.int (0 : Int32)), (.ref a4)])) (X1.laload hx (j := (0 : Int32)) (v := (.long l0)) (by rw [e1]; exact Ar2.1) (State.isArrayOf_alike hZ.alike Ar2.2.1) Ar2.2.2 hin2 hat3 (g := (mkF m 19 #[.val (.ref a1), .val (.ref a2), .val (.int p_at), .val (.ref a4), .val (.int (0 : Int32))] [(.int (0 : Int32)), (.ref al), (.int (0 : Int32)), (.ref a4)])) rfl rfl (hb hby own_d28_19)) ?_
  refine own_st (T' := T1) (g' := (mkF m 21 #[.val (.ref a1), .val (.ref a2), .val (.int p_at), .val (.ref a4), .val (.int (0 : Int32))] [(.ref a2), (.long l0), (.int (0 : Int32)), (.ref a4)])) (fun t k => XS.aloadN X1.here hx rfl (hb hby own_d28_20) rfl rfl k) ?_
  refine own_st (T' := T1) (g' := (mkF m 22 #[.val (.ref a1), .val (.ref a2), .val (.int p_at), .val (.ref a4), .val (.int (0 : Int32))] [(.int p_at), (.ref a2), (.long l0), (.int (0 : Int32)), (.ref a4)])) (fun t k => XS.iloadN X1.here hx rfl (hb hby own_d28_21) rfl k) ?_
  refine own_st (T' := T1) (g' := (mkF m 23 #[.val (.ref a1), .val (.ref a2), .val (.int p_at), .val (.ref a4), .val (.int (0 : Int32))] [(.ref a1), (.int p_at), (.ref a2), (.long l0), (.int (0 : Int32)), (.ref a4)])) (fun t k => XS.aloadN X1.here hx rfl (hb hby own_d28_22) rfl rfl k) ?_
  obtain ⟨T4, X4, e4, st4⟩ := getF X1 hx hZ hown (host := "") (Or.inl (hw _ (List.mem_of_getElem? (i := 116) rfl))) Via.refl e1 F_word_a1 (g := (mkF m 23 #[.val (.ref a1), .val (.ref a2), .val (.int p_at), .val (.ref a4), .val (.int (0 : Int32))] [(.ref a1), (.int p_at), (.ref a2), (.long l0), (.int (0 : Int32)), (.ref a4)])) rfl rfl (hb hby own_d28_23)
  refine own_st (T' := T4) (g' := (mkF m 26 #[.val (.ref a1), .val (.ref a2), .val (.int p_at), .val (.ref a4), .val (.int (0 : Int32))] [(.ref aw), (.int p_at), (.ref a2), (.long l0), (.int (0 : Int32)), (.ref a4)])) st4 ?_
  refine own_st (T' := T4) (g' := (mkF m 28 #[.val (.ref a1), .val (.ref a2), .val (.int p_at), .val (.ref a4), .val (.int (0 : Int32))] [(.int (0 : Int32)), (.ref aw), (.int p_at), (.ref a2), (.long l0), (.int (0 : Int32)), (.ref a4)])) (fun t k => XS.iload X4.here hx rfl (hb hby own_d28_26) rfl k) ?_
  obtain ⟨cl5, Ar5, q5, S5, N5n, H5, G5⟩ := V_aw
  have hin5 : ¬ ((0 : Int32) < 0 ∨ cl5.slots.size ≤ ((0 : Int32) : Int32).toNatClampNeg) := inb_of S5 ⟨by decide, by decide⟩
  have hat6 := H5.at hin5 (v := (.int w0)) rfl
  have V_aw : Arv Z h0 aw kw .int (3 : Int32) [(.int w0), (.int w1), (.int w2)] (.int (0 : Int32)) := ⟨cl5, Ar5, q5, S5, N5n, H5, G5⟩
  refine own_st (T' := T4) (g' := (mkF m 29 #[.val (.ref a1), .val (.ref a2), .val (.int p_at), .val (.ref a4), .val (.int (0 : Int32))] [(.int w0), (.int p_at), (.ref a2), (.long l0), (.int (0 : Int32)), (.ref a4)])) (X4.iaload hx (j := (0 : Int32)) (v := (.int w0)) (by rw [e4]; exact Ar5.1) (State.isArrayOf_alike hZ.alike Ar5.2.1) Ar5.2.2 hin5 hat6 (g := (mkF m 28 #[.val (.ref a1), .val (.ref a2), .val (.int p_at), .val (.ref a4), .val (.int (0 : Int32))] [(.int (0 : Int32)), (.ref aw), (.int p_at), (.ref a2), (.long l0), (.int (0 : Int32)), (.ref a4)])) rfl rfl (hb hby own_d28_28)) ?_
  refine own_st (T' := T4) (g' := (mkF m 30 #[.val (.ref a1), .val (.ref a2), .val (.int p_at), .val (.ref a4), .val (.int (0 : Int32))] [(.int (p_at + w0)), (.ref a2), (.long l0), (.int (0 : Int32)), (.ref a4)])) (fun t k => XS.iadd X4.here hx rfl (hb hby own_d28_29) rfl k) ?_
  refine own_st (T' := T4) (g' := (mkF m 31 #[.val (.ref a1), .val (.ref a2), .val (.int p_at), .val (.ref a4), .val (.int (0 : Int32))] [(.long (P ((p_at + w0) : Int32).toNatClampNeg)), (.long l0), (.int (0 : Int32)), (.ref a4)])) (own_lld V_a2 rfl X4 hx hZ e4 (j := (p_at + w0)) hj0 (g := (mkF m 30 #[.val (.ref a1), .val (.ref a2), .val (.int p_at), .val (.ref a4), .val (.int (0 : Int32))] [(.int (p_at + w0)), (.ref a2), (.long l0), (.int (0 : Int32)), (.ref a4)])) rfl rfl (hb hby own_d28_30)) ?_
  refine own_st (T' := T4) (g' := (mkF m 32 #[.val (.ref a1), .val (.ref a2), .val (.int p_at), .val (.ref a4), .val (.int (0 : Int32))] [(.ref a1), (.long (P ((p_at + w0) : Int32).toNatClampNeg)), (.long l0), (.int (0 : Int32)), (.ref a4)])) (fun t k => XS.aloadN X4.here hx rfl (hb hby own_d28_31) rfl rfl k) ?_
  obtain ⟨T7, X7, e7, st7⟩ := getF X4 hx hZ hown (host := "") (Or.inl (hw _ (List.mem_of_getElem? (i := 118) rfl))) Via.refl e4 F_shift_a1 (g := (mkF m 32 #[.val (.ref a1), .val (.ref a2), .val (.int p_at), .val (.ref a4), .val (.int (0 : Int32))] [(.ref a1), (.long (P ((p_at + w0) : Int32).toNatClampNeg)), (.long l0), (.int (0 : Int32)), (.ref a4)])) rfl rfl (hb hby own_d28_32)
  refine own_st (T' := T7) (g' := (mkF m 35 #[.val (.ref a1), .val (.ref a2), .val (.int p_at), .val (.ref a4), .val (.int (0 : Int32))] [(.ref as_), (.long (P ((p_at + w0) : Int32).toNatClampNeg)), (.long l0), (.int (0 : Int32)), (.ref a4)])) st7 ?_
  refine own_st (T' := T7) (g' := (mkF m 37 #[.val (.ref a1), .val (.ref a2), .val (.int p_at), .val (.ref a4), .val (.int (0 : Int32))] [(.int (0 : Int32)), (.ref as_), (.long (P ((p_at + w0) : Int32).toNatClampNeg)), (.long l0), (.int (0 : Int32)), (.ref a4)])) (fun t k => XS.iload X7.here hx rfl (hb hby own_d28_35) rfl k) ?_
  obtain ⟨cl8, Ar8, q8, S8, N8n, H8, G8⟩ := V_as_
  have hin8 : ¬ ((0 : Int32) < 0 ∨ cl8.slots.size ≤ ((0 : Int32) : Int32).toNatClampNeg) := inb_of S8 ⟨by decide, by decide⟩
  have hat9 := H8.at hin8 (v := (.int s0)) rfl
  have V_as_ : Arv Z h0 as_ ks .int (3 : Int32) [(.int s0), (.int s1), (.int s2)] (.int (0 : Int32)) := ⟨cl8, Ar8, q8, S8, N8n, H8, G8⟩
  refine own_st (T' := T7) (g' := (mkF m 38 #[.val (.ref a1), .val (.ref a2), .val (.int p_at), .val (.ref a4), .val (.int (0 : Int32))] [(.int s0), (.long (P ((p_at + w0) : Int32).toNatClampNeg)), (.long l0), (.int (0 : Int32)), (.ref a4)])) (X7.iaload hx (j := (0 : Int32)) (v := (.int s0)) (by rw [e7]; exact Ar8.1) (State.isArrayOf_alike hZ.alike Ar8.2.1) Ar8.2.2 hin8 hat9 (g := (mkF m 37 #[.val (.ref a1), .val (.ref a2), .val (.int p_at), .val (.ref a4), .val (.int (0 : Int32))] [(.int (0 : Int32)), (.ref as_), (.long (P ((p_at + w0) : Int32).toNatClampNeg)), (.long l0), (.int (0 : Int32)), (.ref a4)])) rfl rfl (hb hby own_d28_37)) ?_
  refine own_st (T' := T7) (g' := (mkF m 39 #[.val (.ref a1), .val (.ref a2), .val (.int p_at), .val (.ref a4), .val (.int (0 : Int32))] [(.long (((P ((p_at + w0) : Int32).toNatClampNeg).toUInt64 >>> (s0 &&& 0x3f).toInt64.toUInt64).toInt64)), (.long l0), (.int (0 : Int32)), (.ref a4)])) (fun t k => XS.lushr X7.here hx rfl (hb hby own_d28_38) rfl k) ?_
  refine own_st (T' := T7) (g' := (mkF m 40 #[.val (.ref a1), .val (.ref a2), .val (.int p_at), .val (.ref a4), .val (.int (0 : Int32))] [(.ref a1), (.long (((P ((p_at + w0) : Int32).toNatClampNeg).toUInt64 >>> (s0 &&& 0x3f).toInt64.toUInt64).toInt64)), (.long l0), (.int (0 : Int32)), (.ref a4)])) (fun t k => XS.aloadN X7.here hx rfl (hb hby own_d28_39) rfl rfl k) ?_
  obtain ⟨T10, X10, e10, st10⟩ := getF X7 hx hZ hown (host := "") (Or.inl (hw _ (List.mem_of_getElem? (i := 121) rfl))) Via.refl e7 F_mask_a1 (g := (mkF m 40 #[.val (.ref a1), .val (.ref a2), .val (.int p_at), .val (.ref a4), .val (.int (0 : Int32))] [(.ref a1), (.long (((P ((p_at + w0) : Int32).toNatClampNeg).toUInt64 >>> (s0 &&& 0x3f).toInt64.toUInt64).toInt64)), (.long l0), (.int (0 : Int32)), (.ref a4)])) rfl rfl (hb hby own_d28_40)
  refine own_st (T' := T10) (g' := (mkF m 43 #[.val (.ref a1), .val (.ref a2), .val (.int p_at), .val (.ref a4), .val (.int (0 : Int32))] [(.ref am), (.long (((P ((p_at + w0) : Int32).toNatClampNeg).toUInt64 >>> (s0 &&& 0x3f).toInt64.toUInt64).toInt64)), (.long l0), (.int (0 : Int32)), (.ref a4)])) st10 ?_
  refine own_st (T' := T10) (g' := (mkF m 45 #[.val (.ref a1), .val (.ref a2), .val (.int p_at), .val (.ref a4), .val (.int (0 : Int32))] [(.int (0 : Int32)), (.ref am), (.long (((P ((p_at + w0) : Int32).toNatClampNeg).toUInt64 >>> (s0 &&& 0x3f).toInt64.toUInt64).toInt64)), (.long l0), (.int (0 : Int32)), (.ref a4)])) (fun t k => XS.iload X10.here hx rfl (hb hby own_d28_43) rfl k) ?_
  obtain ⟨cl11, Ar11, q11, S11, N11n, H11, G11⟩ := V_am
  have hin11 : ¬ ((0 : Int32) < 0 ∨ cl11.slots.size ≤ ((0 : Int32) : Int32).toNatClampNeg) := inb_of S11 ⟨by decide, by decide⟩
  have hat12 := H11.at hin11 (v := (.long m0)) rfl
  have V_am : Arv Z h0 am km .long (3 : Int32) [(.long m0), (.long m1), (.long m2)] (.long (0 : Int64)) := ⟨cl11, Ar11, q11, S11, N11n, H11, G11⟩
  refine own_st (T' := T10) (g' := (mkF m 46 #[.val (.ref a1), .val (.ref a2), .val (.int p_at), .val (.ref a4), .val (.int (0 : Int32))] [(.long m0), (.long (((P ((p_at + w0) : Int32).toNatClampNeg).toUInt64 >>> (s0 &&& 0x3f).toInt64.toUInt64).toInt64)), (.long l0), (.int (0 : Int32)), (.ref a4)])) (X10.laload hx (j := (0 : Int32)) (v := (.long m0)) (by rw [e10]; exact Ar11.1) (State.isArrayOf_alike hZ.alike Ar11.2.1) Ar11.2.2 hin11 hat12 (g := (mkF m 45 #[.val (.ref a1), .val (.ref a2), .val (.int p_at), .val (.ref a4), .val (.int (0 : Int32))] [(.int (0 : Int32)), (.ref am), (.long (((P ((p_at + w0) : Int32).toNatClampNeg).toUInt64 >>> (s0 &&& 0x3f).toInt64.toUInt64).toInt64)), (.long l0), (.int (0 : Int32)), (.ref a4)])) rfl rfl (hb hby own_d28_45)) ?_
  refine own_st (T' := T10) (g' := (mkF m 47 #[.val (.ref a1), .val (.ref a2), .val (.int p_at), .val (.ref a4), .val (.int (0 : Int32))] [(.long ((((P ((p_at + w0) : Int32).toNatClampNeg).toUInt64 >>> (s0 &&& 0x3f).toInt64.toUInt64).toInt64) &&& m0)), (.long l0), (.int (0 : Int32)), (.ref a4)])) (fun t k => XS.land X10.here hx rfl (hb hby own_d28_46) rfl k) ?_
  refine own_st (T' := T10) (g' := (mkF m 48 #[.val (.ref a1), .val (.ref a2), .val (.int p_at), .val (.ref a4), .val (.int (0 : Int32))] [(.long (l0 + ((((P ((p_at + w0) : Int32).toNatClampNeg).toUInt64 >>> (s0 &&& 0x3f).toInt64.toUInt64).toInt64) &&& m0))), (.int (0 : Int32)), (.ref a4)])) (fun t k => XS.ladd X10.here hx rfl (hb hby own_d28_47) rfl k) ?_
  obtain ⟨cl13, Ar13, q13, S13, N13n, H13, G13⟩ := V_a4
  have hin13 : ¬ ((0 : Int32) < 0 ∨ cl13.slots.size ≤ ((0 : Int32) : Int32).toNatClampNeg) := inb_of S13 ⟨by decide, by decide⟩
  obtain ⟨T14, h14, X14, e14, W14, st14⟩ := stJ X10 hx hZ e10 Ar13 (j := (0 : Int32)) hin13 (g := (mkF m 48 #[.val (.ref a1), .val (.ref a2), .val (.int p_at), .val (.ref a4), .val (.int (0 : Int32))] [(.long (l0 + ((((P ((p_at + w0) : Int32).toNatClampNeg).toUInt64 >>> (s0 &&& 0x3f).toInt64.toUInt64).toInt64) &&& m0))), (.int (0 : Int32)), (.ref a4)])) rfl rfl (hb hby own_d28_48)
  have E_a1 := E_a1.wr W14
  have F_words_a1 := F_words_a1.other W14 (Or.inl ne_a1_a4)
  have F_word_a1 := F_word_a1.other W14 (Or.inl ne_a1_a4)
  have V_aw := V_aw.other W14 ne_aw_a4
  have F_shift_a1 := F_shift_a1.other W14 (Or.inl ne_a1_a4)
  have V_as_ := V_as_.other W14 ne_as__a4
  have F_mask_a1 := F_mask_a1.other W14 (Or.inl ne_a1_a4)
  have V_am := V_am.other W14 ne_am_a4
  have F_lower_a1 := F_lower_a1.other W14 (Or.inl ne_a1_a4)
  have V_al := V_al.other W14 ne_al_a4
  have V_a2 := V_a2.other W14 ne_a2_a4
  have V_a4 : Arv Z h14 a4 kv .long (3 : Int32) [(.long (l0 + ((((P ((p_at + w0) : Int32).toNatClampNeg).toUInt64 >>> (s0 &&& 0x3f).toInt64.toUInt64).toInt64) &&& m0))), (.long v1), (.long v2)] (.long (0 : Int64)) := Arv.set Ar13 q13 S13 N13n H13 G13 rfl W14 0 rfl (Nat.le_of_ble_eq_true rfl)
  have K0_14 := (Keep.refl h0 [a4]).wr W14 (Or.inl (List.mem_of_getElem? (i := 0) rfl))
  have N14 := Fr.snoc X14 N0 g_a4
  generalize hlc14 : ([] ++ [(⟨a4, ((0 : Int32) : Int32).toNatClampNeg⟩ : Loc)] : List Loc) = lc14 at X14 N14
  have Z14 : n0 ≤ h14.size := Nat.le_trans Z0 (Keep.of_wr W14).1
  refine own_st (T' := T14) (g' := (mkF m 49 #[.val (.ref a1), .val (.ref a2), .val (.int p_at), .val (.ref a4), .val (.int (0 : Int32))] [])) st14 ?_
  refine own_st (T' := T14) (g' := (mkF m 52 #[.val (.ref a1), .val (.ref a2), .val (.int p_at), .val (.ref a4), .val (.int (1 : Int32))] [])) (fun t k => XS.iinc X14.here hx rfl (hb hby own_d28_49) rfl (l' := #[.val (.ref a1), .val (.ref a2), .val (.int p_at), .val (.ref a4), .val (.int (1 : Int32))]) rfl k) ?_
  refine own_st (T' := T14) (g' := (mkF m 3 #[.val (.ref a1), .val (.ref a2), .val (.int p_at), .val (.ref a4), .val (.int (1 : Int32))] [])) (fun t k => XS.goto X14.here hx rfl (pc0 := 52) (pc' := 3) rfl (hb hby own_d28_52) (by decide) (by decide) k) ?_
  refine own_st (T' := T14) (g' := (mkF m 5 #[.val (.ref a1), .val (.ref a2), .val (.int p_at), .val (.ref a4), .val (.int (1 : Int32))] [(.int (1 : Int32))])) (fun t k => XS.iload X14.here hx rfl (hb hby own_d28_3) rfl k) ?_
  refine own_st (T' := T14) (g' := (mkF m 6 #[.val (.ref a1), .val (.ref a2), .val (.int p_at), .val (.ref a4), .val (.int (1 : Int32))] [(.ref a4), (.int (1 : Int32))])) (fun t k => XS.aloadN X14.here hx rfl (hb hby own_d28_5) rfl rfl k) ?_
  refine own_st (T' := T14) (g' := (mkF m 7 #[.val (.ref a1), .val (.ref a2), .val (.int p_at), .val (.ref a4), .val (.int (1 : Int32))] [(.int (3 : Int32)), (.int (1 : Int32))])) (own_alen V_a4 X14 hx hZ e14 (g := (mkF m 6 #[.val (.ref a1), .val (.ref a2), .val (.int p_at), .val (.ref a4), .val (.int (1 : Int32))] [(.ref a4), (.int (1 : Int32))])) rfl rfl (hb hby own_d28_6)) ?_
  refine own_st (T' := T14) (g' := (mkF m 10 #[.val (.ref a1), .val (.ref a2), .val (.int p_at), .val (.ref a4), .val (.int (1 : Int32))] [])) (fun t k => XS.icmpNo X14.here hx rfl (hb hby own_d28_7) rfl (tlt (by decide)).2.1 k) ?_
  refine own_st (T' := T14) (g' := (mkF m 11 #[.val (.ref a1), .val (.ref a2), .val (.int p_at), .val (.ref a4), .val (.int (1 : Int32))] [(.ref a4)])) (fun t k => XS.aloadN X14.here hx rfl (hb hby own_d28_10) rfl rfl k) ?_
  refine own_st (T' := T14) (g' := (mkF m 13 #[.val (.ref a1), .val (.ref a2), .val (.int p_at), .val (.ref a4), .val (.int (1 : Int32))] [(.int (1 : Int32)), (.ref a4)])) (fun t k => XS.iload X14.here hx rfl (hb hby own_d28_11) rfl k) ?_
  refine own_st (T' := T14) (g' := (mkF m 14 #[.val (.ref a1), .val (.ref a2), .val (.int p_at), .val (.ref a4), .val (.int (1 : Int32))] [(.ref a1), (.int (1 : Int32)), (.ref a4)])) (fun t k => XS.aloadN X14.here hx rfl (hb hby own_d28_13) rfl rfl k) ?_
  obtain ⟨T15, X15, e15, st15⟩ := getF X14 hx hZ hown (host := "") (Or.inl (hw _ (List.mem_of_getElem? (i := 123) rfl))) Via.refl e14 F_lower_a1 (g := (mkF m 14 #[.val (.ref a1), .val (.ref a2), .val (.int p_at), .val (.ref a4), .val (.int (1 : Int32))] [(.ref a1), (.int (1 : Int32)), (.ref a4)])) rfl rfl (hb hby own_d28_14)
  refine own_st (T' := T15) (g' := (mkF m 17 #[.val (.ref a1), .val (.ref a2), .val (.int p_at), .val (.ref a4), .val (.int (1 : Int32))] [(.ref al), (.int (1 : Int32)), (.ref a4)])) st15 ?_
  refine own_st (T' := T15) (g' := (mkF m 19 #[.val (.ref a1), .val (.ref a2), .val (.int p_at), .val (.ref a4), .val (.int (1 : Int32))] [(.int (1 : Int32)), (.ref al), (.int (1 : Int32)), (.ref a4)])) (fun t k => XS.iload X15.here hx rfl (hb hby own_d28_17) rfl k) ?_
  obtain ⟨cl16, Ar16, q16, S16, N16n, H16, G16⟩ := V_al
  have hin16 : ¬ ((1 : Int32) < 0 ∨ cl16.slots.size ≤ ((1 : Int32) : Int32).toNatClampNeg) := inb_of S16 ⟨by decide, by decide⟩
  have hat17 := H16.at hin16 (v := (.long l1)) rfl
  have V_al : Arv Z h14 al kl .long (3 : Int32) [(.long l0), (.long l1), (.long l2)] (.long (0 : Int64)) := ⟨cl16, Ar16, q16, S16, N16n, H16, G16⟩
  refine own_st (T' := T15) (g' := (mkF m 20 #[.val (.ref a1), .val (.ref a2), .val (.int p_at), .val (.ref a4), .val (.int (1 : Int32))] [(.long l1), (.int (1 : Int32)), (.ref a4)])) (X15.laload hx (j := (1 : Int32)) (v := (.long l1)) (by rw [e15]; exact Ar16.1) (State.isArrayOf_alike hZ.alike Ar16.2.1) Ar16.2.2 hin16 hat17 (g := (mkF m 19 #[.val (.ref a1), .val (.ref a2), .val (.int p_at), .val (.ref a4), .val (.int (1 : Int32))] [(.int (1 : Int32)), (.ref al), (.int (1 : Int32)), (.ref a4)])) rfl rfl (hb hby own_d28_19)) ?_
  refine own_st (T' := T15) (g' := (mkF m 21 #[.val (.ref a1), .val (.ref a2), .val (.int p_at), .val (.ref a4), .val (.int (1 : Int32))] [(.ref a2), (.long l1), (.int (1 : Int32)), (.ref a4)])) (fun t k => XS.aloadN X15.here hx rfl (hb hby own_d28_20) rfl rfl k) ?_
  refine own_st (T' := T15) (g' := (mkF m 22 #[.val (.ref a1), .val (.ref a2), .val (.int p_at), .val (.ref a4), .val (.int (1 : Int32))] [(.int p_at), (.ref a2), (.long l1), (.int (1 : Int32)), (.ref a4)])) (fun t k => XS.iloadN X15.here hx rfl (hb hby own_d28_21) rfl k) ?_
  refine own_st (T' := T15) (g' := (mkF m 23 #[.val (.ref a1), .val (.ref a2), .val (.int p_at), .val (.ref a4), .val (.int (1 : Int32))] [(.ref a1), (.int p_at), (.ref a2), (.long l1), (.int (1 : Int32)), (.ref a4)])) (fun t k => XS.aloadN X15.here hx rfl (hb hby own_d28_22) rfl rfl k) ?_
  obtain ⟨T18, X18, e18, st18⟩ := getF X15 hx hZ hown (host := "") (Or.inl (hw _ (List.mem_of_getElem? (i := 116) rfl))) Via.refl e15 F_word_a1 (g := (mkF m 23 #[.val (.ref a1), .val (.ref a2), .val (.int p_at), .val (.ref a4), .val (.int (1 : Int32))] [(.ref a1), (.int p_at), (.ref a2), (.long l1), (.int (1 : Int32)), (.ref a4)])) rfl rfl (hb hby own_d28_23)
  refine own_st (T' := T18) (g' := (mkF m 26 #[.val (.ref a1), .val (.ref a2), .val (.int p_at), .val (.ref a4), .val (.int (1 : Int32))] [(.ref aw), (.int p_at), (.ref a2), (.long l1), (.int (1 : Int32)), (.ref a4)])) st18 ?_
  refine own_st (T' := T18) (g' := (mkF m 28 #[.val (.ref a1), .val (.ref a2), .val (.int p_at), .val (.ref a4), .val (.int (1 : Int32))] [(.int (1 : Int32)), (.ref aw), (.int p_at), (.ref a2), (.long l1), (.int (1 : Int32)), (.ref a4)])) (fun t k => XS.iload X18.here hx rfl (hb hby own_d28_26) rfl k) ?_
  obtain ⟨cl19, Ar19, q19, S19, N19n, H19, G19⟩ := V_aw
  have hin19 : ¬ ((1 : Int32) < 0 ∨ cl19.slots.size ≤ ((1 : Int32) : Int32).toNatClampNeg) := inb_of S19 ⟨by decide, by decide⟩
  have hat20 := H19.at hin19 (v := (.int w1)) rfl
  have V_aw : Arv Z h14 aw kw .int (3 : Int32) [(.int w0), (.int w1), (.int w2)] (.int (0 : Int32)) := ⟨cl19, Ar19, q19, S19, N19n, H19, G19⟩
  refine own_st (T' := T18) (g' := (mkF m 29 #[.val (.ref a1), .val (.ref a2), .val (.int p_at), .val (.ref a4), .val (.int (1 : Int32))] [(.int w1), (.int p_at), (.ref a2), (.long l1), (.int (1 : Int32)), (.ref a4)])) (X18.iaload hx (j := (1 : Int32)) (v := (.int w1)) (by rw [e18]; exact Ar19.1) (State.isArrayOf_alike hZ.alike Ar19.2.1) Ar19.2.2 hin19 hat20 (g := (mkF m 28 #[.val (.ref a1), .val (.ref a2), .val (.int p_at), .val (.ref a4), .val (.int (1 : Int32))] [(.int (1 : Int32)), (.ref aw), (.int p_at), (.ref a2), (.long l1), (.int (1 : Int32)), (.ref a4)])) rfl rfl (hb hby own_d28_28)) ?_
  refine own_st (T' := T18) (g' := (mkF m 30 #[.val (.ref a1), .val (.ref a2), .val (.int p_at), .val (.ref a4), .val (.int (1 : Int32))] [(.int (p_at + w1)), (.ref a2), (.long l1), (.int (1 : Int32)), (.ref a4)])) (fun t k => XS.iadd X18.here hx rfl (hb hby own_d28_29) rfl k) ?_
  refine own_st (T' := T18) (g' := (mkF m 31 #[.val (.ref a1), .val (.ref a2), .val (.int p_at), .val (.ref a4), .val (.int (1 : Int32))] [(.long (P ((p_at + w1) : Int32).toNatClampNeg)), (.long l1), (.int (1 : Int32)), (.ref a4)])) (own_lld V_a2 rfl X18 hx hZ e18 (j := (p_at + w1)) hj1 (g := (mkF m 30 #[.val (.ref a1), .val (.ref a2), .val (.int p_at), .val (.ref a4), .val (.int (1 : Int32))] [(.int (p_at + w1)), (.ref a2), (.long l1), (.int (1 : Int32)), (.ref a4)])) rfl rfl (hb hby own_d28_30)) ?_
  refine own_st (T' := T18) (g' := (mkF m 32 #[.val (.ref a1), .val (.ref a2), .val (.int p_at), .val (.ref a4), .val (.int (1 : Int32))] [(.ref a1), (.long (P ((p_at + w1) : Int32).toNatClampNeg)), (.long l1), (.int (1 : Int32)), (.ref a4)])) (fun t k => XS.aloadN X18.here hx rfl (hb hby own_d28_31) rfl rfl k) ?_
  obtain ⟨T21, X21, e21, st21⟩ := getF X18 hx hZ hown (host := "") (Or.inl (hw _ (List.mem_of_getElem? (i := 118) rfl))) Via.refl e18 F_shift_a1 (g := (mkF m 32 #[.val (.ref a1), .val (.ref a2), .val (.int p_at), .val (.ref a4), .val (.int (1 : Int32))] [(.ref a1), (.long (P ((p_at + w1) : Int32).toNatClampNeg)), (.long l1), (.int (1 : Int32)), (.ref a4)])) rfl rfl (hb hby own_d28_32)
  refine own_st (T' := T21) (g' := (mkF m 35 #[.val (.ref a1), .val (.ref a2), .val (.int p_at), .val (.ref a4), .val (.int (1 : Int32))] [(.ref as_), (.long (P ((p_at + w1) : Int32).toNatClampNeg)), (.long l1), (.int (1 : Int32)), (.ref a4)])) st21 ?_
  refine own_st (T' := T21) (g' := (mkF m 37 #[.val (.ref a1), .val (.ref a2), .val (.int p_at), .val (.ref a4), .val (.int (1 : Int32))] [(.int (1 : Int32)), (.ref as_), (.long (P ((p_at + w1) : Int32).toNatClampNeg)), (.long l1), (.int (1 : Int32)), (.ref a4)])) (fun t k => XS.iload X21.here hx rfl (hb hby own_d28_35) rfl k) ?_
  obtain ⟨cl22, Ar22, q22, S22, N22n, H22, G22⟩ := V_as_
  have hin22 : ¬ ((1 : Int32) < 0 ∨ cl22.slots.size ≤ ((1 : Int32) : Int32).toNatClampNeg) := inb_of S22 ⟨by decide, by decide⟩
  have hat23 := H22.at hin22 (v := (.int s1)) rfl
  have V_as_ : Arv Z h14 as_ ks .int (3 : Int32) [(.int s0), (.int s1), (.int s2)] (.int (0 : Int32)) := ⟨cl22, Ar22, q22, S22, N22n, H22, G22⟩
  refine own_st (T' := T21) (g' := (mkF m 38 #[.val (.ref a1), .val (.ref a2), .val (.int p_at), .val (.ref a4), .val (.int (1 : Int32))] [(.int s1), (.long (P ((p_at + w1) : Int32).toNatClampNeg)), (.long l1), (.int (1 : Int32)), (.ref a4)])) (X21.iaload hx (j := (1 : Int32)) (v := (.int s1)) (by rw [e21]; exact Ar22.1) (State.isArrayOf_alike hZ.alike Ar22.2.1) Ar22.2.2 hin22 hat23 (g := (mkF m 37 #[.val (.ref a1), .val (.ref a2), .val (.int p_at), .val (.ref a4), .val (.int (1 : Int32))] [(.int (1 : Int32)), (.ref as_), (.long (P ((p_at + w1) : Int32).toNatClampNeg)), (.long l1), (.int (1 : Int32)), (.ref a4)])) rfl rfl (hb hby own_d28_37)) ?_
  refine own_st (T' := T21) (g' := (mkF m 39 #[.val (.ref a1), .val (.ref a2), .val (.int p_at), .val (.ref a4), .val (.int (1 : Int32))] [(.long (((P ((p_at + w1) : Int32).toNatClampNeg).toUInt64 >>> (s1 &&& 0x3f).toInt64.toUInt64).toInt64)), (.long l1), (.int (1 : Int32)), (.ref a4)])) (fun t k => XS.lushr X21.here hx rfl (hb hby own_d28_38) rfl k) ?_
  refine own_st (T' := T21) (g' := (mkF m 40 #[.val (.ref a1), .val (.ref a2), .val (.int p_at), .val (.ref a4), .val (.int (1 : Int32))] [(.ref a1), (.long (((P ((p_at + w1) : Int32).toNatClampNeg).toUInt64 >>> (s1 &&& 0x3f).toInt64.toUInt64).toInt64)), (.long l1), (.int (1 : Int32)), (.ref a4)])) (fun t k => XS.aloadN X21.here hx rfl (hb hby own_d28_39) rfl rfl k) ?_
  obtain ⟨T24, X24, e24, st24⟩ := getF X21 hx hZ hown (host := "") (Or.inl (hw _ (List.mem_of_getElem? (i := 121) rfl))) Via.refl e21 F_mask_a1 (g := (mkF m 40 #[.val (.ref a1), .val (.ref a2), .val (.int p_at), .val (.ref a4), .val (.int (1 : Int32))] [(.ref a1), (.long (((P ((p_at + w1) : Int32).toNatClampNeg).toUInt64 >>> (s1 &&& 0x3f).toInt64.toUInt64).toInt64)), (.long l1), (.int (1 : Int32)), (.ref a4)])) rfl rfl (hb hby own_d28_40)
  refine own_st (T' := T24) (g' := (mkF m 43 #[.val (.ref a1), .val (.ref a2), .val (.int p_at), .val (.ref a4), .val (.int (1 : Int32))] [(.ref am), (.long (((P ((p_at + w1) : Int32).toNatClampNeg).toUInt64 >>> (s1 &&& 0x3f).toInt64.toUInt64).toInt64)), (.long l1), (.int (1 : Int32)), (.ref a4)])) st24 ?_
  refine own_st (T' := T24) (g' := (mkF m 45 #[.val (.ref a1), .val (.ref a2), .val (.int p_at), .val (.ref a4), .val (.int (1 : Int32))] [(.int (1 : Int32)), (.ref am), (.long (((P ((p_at + w1) : Int32).toNatClampNeg).toUInt64 >>> (s1 &&& 0x3f).toInt64.toUInt64).toInt64)), (.long l1), (.int (1 : Int32)), (.ref a4)])) (fun t k => XS.iload X24.here hx rfl (hb hby own_d28_43) rfl k) ?_
  obtain ⟨cl25, Ar25, q25, S25, N25n, H25, G25⟩ := V_am
  have hin25 : ¬ ((1 : Int32) < 0 ∨ cl25.slots.size ≤ ((1 : Int32) : Int32).toNatClampNeg) := inb_of S25 ⟨by decide, by decide⟩
  have hat26 := H25.at hin25 (v := (.long m1)) rfl
  have V_am : Arv Z h14 am km .long (3 : Int32) [(.long m0), (.long m1), (.long m2)] (.long (0 : Int64)) := ⟨cl25, Ar25, q25, S25, N25n, H25, G25⟩
  refine own_st (T' := T24) (g' := (mkF m 46 #[.val (.ref a1), .val (.ref a2), .val (.int p_at), .val (.ref a4), .val (.int (1 : Int32))] [(.long m1), (.long (((P ((p_at + w1) : Int32).toNatClampNeg).toUInt64 >>> (s1 &&& 0x3f).toInt64.toUInt64).toInt64)), (.long l1), (.int (1 : Int32)), (.ref a4)])) (X24.laload hx (j := (1 : Int32)) (v := (.long m1)) (by rw [e24]; exact Ar25.1) (State.isArrayOf_alike hZ.alike Ar25.2.1) Ar25.2.2 hin25 hat26 (g := (mkF m 45 #[.val (.ref a1), .val (.ref a2), .val (.int p_at), .val (.ref a4), .val (.int (1 : Int32))] [(.int (1 : Int32)), (.ref am), (.long (((P ((p_at + w1) : Int32).toNatClampNeg).toUInt64 >>> (s1 &&& 0x3f).toInt64.toUInt64).toInt64)), (.long l1), (.int (1 : Int32)), (.ref a4)])) rfl rfl (hb hby own_d28_45)) ?_
  refine own_st (T' := T24) (g' := (mkF m 47 #[.val (.ref a1), .val (.ref a2), .val (.int p_at), .val (.ref a4), .val (.int (1 : Int32))] [(.long ((((P ((p_at + w1) : Int32).toNatClampNeg).toUInt64 >>> (s1 &&& 0x3f).toInt64.toUInt64).toInt64) &&& m1)), (.long l1), (.int (1 : Int32)), (.ref a4)])) (fun t k => XS.land X24.here hx rfl (hb hby own_d28_46) rfl k) ?_
  refine own_st (T' := T24) (g' := (mkF m 48 #[.val (.ref a1), .val (.ref a2), .val (.int p_at), .val (.ref a4), .val (.int (1 : Int32))] [(.long (l1 + ((((P ((p_at + w1) : Int32).toNatClampNeg).toUInt64 >>> (s1 &&& 0x3f).toInt64.toUInt64).toInt64) &&& m1))), (.int (1 : Int32)), (.ref a4)])) (fun t k => XS.ladd X24.here hx rfl (hb hby own_d28_47) rfl k) ?_
  obtain ⟨cl27, Ar27, q27, S27, N27n, H27, G27⟩ := V_a4
  have hin27 : ¬ ((1 : Int32) < 0 ∨ cl27.slots.size ≤ ((1 : Int32) : Int32).toNatClampNeg) := inb_of S27 ⟨by decide, by decide⟩
  obtain ⟨T28, h28, X28, e28, W28, st28⟩ := stJ X24 hx hZ e24 Ar27 (j := (1 : Int32)) hin27 (g := (mkF m 48 #[.val (.ref a1), .val (.ref a2), .val (.int p_at), .val (.ref a4), .val (.int (1 : Int32))] [(.long (l1 + ((((P ((p_at + w1) : Int32).toNatClampNeg).toUInt64 >>> (s1 &&& 0x3f).toInt64.toUInt64).toInt64) &&& m1))), (.int (1 : Int32)), (.ref a4)])) rfl rfl (hb hby own_d28_48)
  have E_a1 := E_a1.wr W28
  have F_words_a1 := F_words_a1.other W28 (Or.inl ne_a1_a4)
  have F_word_a1 := F_word_a1.other W28 (Or.inl ne_a1_a4)
  have V_aw := V_aw.other W28 ne_aw_a4
  have F_shift_a1 := F_shift_a1.other W28 (Or.inl ne_a1_a4)
  have V_as_ := V_as_.other W28 ne_as__a4
  have F_mask_a1 := F_mask_a1.other W28 (Or.inl ne_a1_a4)
  have V_am := V_am.other W28 ne_am_a4
  have F_lower_a1 := F_lower_a1.other W28 (Or.inl ne_a1_a4)
  have V_al := V_al.other W28 ne_al_a4
  have V_a2 := V_a2.other W28 ne_a2_a4
  have V_a4 : Arv Z h28 a4 kv .long (3 : Int32) [(.long (l0 + ((((P ((p_at + w0) : Int32).toNatClampNeg).toUInt64 >>> (s0 &&& 0x3f).toInt64.toUInt64).toInt64) &&& m0))), (.long (l1 + ((((P ((p_at + w1) : Int32).toNatClampNeg).toUInt64 >>> (s1 &&& 0x3f).toInt64.toUInt64).toInt64) &&& m1))), (.long v2)] (.long (0 : Int64)) := Arv.set Ar27 q27 S27 N27n H27 G27 rfl W28 1 rfl (Nat.le_of_ble_eq_true rfl)
  have K0_28 := K0_14.wr W28 (Or.inl (List.mem_of_getElem? (i := 0) rfl))
  have N28 := Fr.snoc X28 N14 g_a4
  generalize hlc28 : (lc14 ++ [(⟨a4, ((1 : Int32) : Int32).toNatClampNeg⟩ : Loc)] : List Loc) = lc28 at X28 N28
  have Z28 : n0 ≤ h28.size := Nat.le_trans Z14 (Keep.of_wr W28).1
  refine own_st (T' := T28) (g' := (mkF m 49 #[.val (.ref a1), .val (.ref a2), .val (.int p_at), .val (.ref a4), .val (.int (1 : Int32))] [])) st28 ?_
  refine own_st (T' := T28) (g' := (mkF m 52 #[.val (.ref a1), .val (.ref a2), .val (.int p_at), .val (.ref a4), .val (.int (2 : Int32))] [])) (fun t k => XS.iinc X28.here hx rfl (hb hby own_d28_49) rfl (l' := #[.val (.ref a1), .val (.ref a2), .val (.int p_at), .val (.ref a4), .val (.int (2 : Int32))]) rfl k) ?_
  refine own_st (T' := T28) (g' := (mkF m 3 #[.val (.ref a1), .val (.ref a2), .val (.int p_at), .val (.ref a4), .val (.int (2 : Int32))] [])) (fun t k => XS.goto X28.here hx rfl (pc0 := 52) (pc' := 3) rfl (hb hby own_d28_52) (by decide) (by decide) k) ?_
  refine own_st (T' := T28) (g' := (mkF m 5 #[.val (.ref a1), .val (.ref a2), .val (.int p_at), .val (.ref a4), .val (.int (2 : Int32))] [(.int (2 : Int32))])) (fun t k => XS.iload X28.here hx rfl (hb hby own_d28_3) rfl k) ?_
  refine own_st (T' := T28) (g' := (mkF m 6 #[.val (.ref a1), .val (.ref a2), .val (.int p_at), .val (.ref a4), .val (.int (2 : Int32))] [(.ref a4), (.int (2 : Int32))])) (fun t k => XS.aloadN X28.here hx rfl (hb hby own_d28_5) rfl rfl k) ?_
  refine own_st (T' := T28) (g' := (mkF m 7 #[.val (.ref a1), .val (.ref a2), .val (.int p_at), .val (.ref a4), .val (.int (2 : Int32))] [(.int (3 : Int32)), (.int (2 : Int32))])) (own_alen V_a4 X28 hx hZ e28 (g := (mkF m 6 #[.val (.ref a1), .val (.ref a2), .val (.int p_at), .val (.ref a4), .val (.int (2 : Int32))] [(.ref a4), (.int (2 : Int32))])) rfl rfl (hb hby own_d28_6)) ?_
  refine own_st (T' := T28) (g' := (mkF m 10 #[.val (.ref a1), .val (.ref a2), .val (.int p_at), .val (.ref a4), .val (.int (2 : Int32))] [])) (fun t k => XS.icmpNo X28.here hx rfl (hb hby own_d28_7) rfl (tlt (by decide)).2.1 k) ?_
  refine own_st (T' := T28) (g' := (mkF m 11 #[.val (.ref a1), .val (.ref a2), .val (.int p_at), .val (.ref a4), .val (.int (2 : Int32))] [(.ref a4)])) (fun t k => XS.aloadN X28.here hx rfl (hb hby own_d28_10) rfl rfl k) ?_
  refine own_st (T' := T28) (g' := (mkF m 13 #[.val (.ref a1), .val (.ref a2), .val (.int p_at), .val (.ref a4), .val (.int (2 : Int32))] [(.int (2 : Int32)), (.ref a4)])) (fun t k => XS.iload X28.here hx rfl (hb hby own_d28_11) rfl k) ?_
  refine own_st (T' := T28) (g' := (mkF m 14 #[.val (.ref a1), .val (.ref a2), .val (.int p_at), .val (.ref a4), .val (.int (2 : Int32))] [(.ref a1), (.int (2 : Int32)), (.ref a4)])) (fun t k => XS.aloadN X28.here hx rfl (hb hby own_d28_13) rfl rfl k) ?_
  obtain ⟨T29, X29, e29, st29⟩ := getF X28 hx hZ hown (host := "") (Or.inl (hw _ (List.mem_of_getElem? (i := 123) rfl))) Via.refl e28 F_lower_a1 (g := (mkF m 14 #[.val (.ref a1), .val (.ref a2), .val (.int p_at), .val (.ref a4), .val (.int (2 : Int32))] [(.ref a1), (.int (2 : Int32)), (.ref a4)])) rfl rfl (hb hby own_d28_14)
  refine own_st (T' := T29) (g' := (mkF m 17 #[.val (.ref a1), .val (.ref a2), .val (.int p_at), .val (.ref a4), .val (.int (2 : Int32))] [(.ref al), (.int (2 : Int32)), (.ref a4)])) st29 ?_
  refine own_st (T' := T29) (g' := (mkF m 19 #[.val (.ref a1), .val (.ref a2), .val (.int p_at), .val (.ref a4), .val (.int (2 : Int32))] [(.int (2 : Int32)), (.ref al), (.int (2 : Int32)), (.ref a4)])) (fun t k => XS.iload X29.here hx rfl (hb hby own_d28_17) rfl k) ?_
  obtain ⟨cl30, Ar30, q30, S30, N30n, H30, G30⟩ := V_al
  have hin30 : ¬ ((2 : Int32) < 0 ∨ cl30.slots.size ≤ ((2 : Int32) : Int32).toNatClampNeg) := inb_of S30 ⟨by decide, by decide⟩
  have hat31 := H30.at hin30 (v := (.long l2)) rfl
  have V_al : Arv Z h28 al kl .long (3 : Int32) [(.long l0), (.long l1), (.long l2)] (.long (0 : Int64)) := ⟨cl30, Ar30, q30, S30, N30n, H30, G30⟩
  refine own_st (T' := T29) (g' := (mkF m 20 #[.val (.ref a1), .val (.ref a2), .val (.int p_at), .val (.ref a4), .val (.int (2 : Int32))] [(.long l2), (.int (2 : Int32)), (.ref a4)])) (X29.laload hx (j := (2 : Int32)) (v := (.long l2)) (by rw [e29]; exact Ar30.1) (State.isArrayOf_alike hZ.alike Ar30.2.1) Ar30.2.2 hin30 hat31 (g := (mkF m 19 #[.val (.ref a1), .val (.ref a2), .val (.int p_at), .val (.ref a4), .val (.int (2 : Int32))] [(.int (2 : Int32)), (.ref al), (.int (2 : Int32)), (.ref a4)])) rfl rfl (hb hby own_d28_19)) ?_
  refine own_st (T' := T29) (g' := (mkF m 21 #[.val (.ref a1), .val (.ref a2), .val (.int p_at), .val (.ref a4), .val (.int (2 : Int32))] [(.ref a2), (.long l2), (.int (2 : Int32)), (.ref a4)])) (fun t k => XS.aloadN X29.here hx rfl (hb hby own_d28_20) rfl rfl k) ?_
  refine own_st (T' := T29) (g' := (mkF m 22 #[.val (.ref a1), .val (.ref a2), .val (.int p_at), .val (.ref a4), .val (.int (2 : Int32))] [(.int p_at), (.ref a2), (.long l2), (.int (2 : Int32)), (.ref a4)])) (fun t k => XS.iloadN X29.here hx rfl (hb hby own_d28_21) rfl k) ?_
  refine own_st (T' := T29) (g' := (mkF m 23 #[.val (.ref a1), .val (.ref a2), .val (.int p_at), .val (.ref a4), .val (.int (2 : Int32))] [(.ref a1), (.int p_at), (.ref a2), (.long l2), (.int (2 : Int32)), (.ref a4)])) (fun t k => XS.aloadN X29.here hx rfl (hb hby own_d28_22) rfl rfl k) ?_
  obtain ⟨T32, X32, e32, st32⟩ := getF X29 hx hZ hown (host := "") (Or.inl (hw _ (List.mem_of_getElem? (i := 116) rfl))) Via.refl e29 F_word_a1 (g := (mkF m 23 #[.val (.ref a1), .val (.ref a2), .val (.int p_at), .val (.ref a4), .val (.int (2 : Int32))] [(.ref a1), (.int p_at), (.ref a2), (.long l2), (.int (2 : Int32)), (.ref a4)])) rfl rfl (hb hby own_d28_23)
  refine own_st (T' := T32) (g' := (mkF m 26 #[.val (.ref a1), .val (.ref a2), .val (.int p_at), .val (.ref a4), .val (.int (2 : Int32))] [(.ref aw), (.int p_at), (.ref a2), (.long l2), (.int (2 : Int32)), (.ref a4)])) st32 ?_
  refine own_st (T' := T32) (g' := (mkF m 28 #[.val (.ref a1), .val (.ref a2), .val (.int p_at), .val (.ref a4), .val (.int (2 : Int32))] [(.int (2 : Int32)), (.ref aw), (.int p_at), (.ref a2), (.long l2), (.int (2 : Int32)), (.ref a4)])) (fun t k => XS.iload X32.here hx rfl (hb hby own_d28_26) rfl k) ?_
  obtain ⟨cl33, Ar33, q33, S33, N33n, H33, G33⟩ := V_aw
  have hin33 : ¬ ((2 : Int32) < 0 ∨ cl33.slots.size ≤ ((2 : Int32) : Int32).toNatClampNeg) := inb_of S33 ⟨by decide, by decide⟩
  have hat34 := H33.at hin33 (v := (.int w2)) rfl
  have V_aw : Arv Z h28 aw kw .int (3 : Int32) [(.int w0), (.int w1), (.int w2)] (.int (0 : Int32)) := ⟨cl33, Ar33, q33, S33, N33n, H33, G33⟩
  refine own_st (T' := T32) (g' := (mkF m 29 #[.val (.ref a1), .val (.ref a2), .val (.int p_at), .val (.ref a4), .val (.int (2 : Int32))] [(.int w2), (.int p_at), (.ref a2), (.long l2), (.int (2 : Int32)), (.ref a4)])) (X32.iaload hx (j := (2 : Int32)) (v := (.int w2)) (by rw [e32]; exact Ar33.1) (State.isArrayOf_alike hZ.alike Ar33.2.1) Ar33.2.2 hin33 hat34 (g := (mkF m 28 #[.val (.ref a1), .val (.ref a2), .val (.int p_at), .val (.ref a4), .val (.int (2 : Int32))] [(.int (2 : Int32)), (.ref aw), (.int p_at), (.ref a2), (.long l2), (.int (2 : Int32)), (.ref a4)])) rfl rfl (hb hby own_d28_28)) ?_
  refine own_st (T' := T32) (g' := (mkF m 30 #[.val (.ref a1), .val (.ref a2), .val (.int p_at), .val (.ref a4), .val (.int (2 : Int32))] [(.int (p_at + w2)), (.ref a2), (.long l2), (.int (2 : Int32)), (.ref a4)])) (fun t k => XS.iadd X32.here hx rfl (hb hby own_d28_29) rfl k) ?_
  refine own_st (T' := T32) (g' := (mkF m 31 #[.val (.ref a1), .val (.ref a2), .val (.int p_at), .val (.ref a4), .val (.int (2 : Int32))] [(.long (P ((p_at + w2) : Int32).toNatClampNeg)), (.long l2), (.int (2 : Int32)), (.ref a4)])) (own_lld V_a2 rfl X32 hx hZ e32 (j := (p_at + w2)) hj2 (g := (mkF m 30 #[.val (.ref a1), .val (.ref a2), .val (.int p_at), .val (.ref a4), .val (.int (2 : Int32))] [(.int (p_at + w2)), (.ref a2), (.long l2), (.int (2 : Int32)), (.ref a4)])) rfl rfl (hb hby own_d28_30)) ?_
  refine own_st (T' := T32) (g' := (mkF m 32 #[.val (.ref a1), .val (.ref a2), .val (.int p_at), .val (.ref a4), .val (.int (2 : Int32))] [(.ref a1), (.long (P ((p_at + w2) : Int32).toNatClampNeg)), (.long l2), (.int (2 : Int32)), (.ref a4)])) (fun t k => XS.aloadN X32.here hx rfl (hb hby own_d28_31) rfl rfl k) ?_
  obtain ⟨T35, X35, e35, st35⟩ := getF X32 hx hZ hown (host := "") (Or.inl (hw _ (List.mem_of_getElem? (i := 118) rfl))) Via.refl e32 F_shift_a1 (g := (mkF m 32 #[.val (.ref a1), .val (.ref a2), .val (.int p_at), .val (.ref a4), .val (.int (2 : Int32))] [(.ref a1), (.long (P ((p_at + w2) : Int32).toNatClampNeg)), (.long l2), (.int (2 : Int32)), (.ref a4)])) rfl rfl (hb hby own_d28_32)
  refine own_st (T' := T35) (g' := (mkF m 35 #[.val (.ref a1), .val (.ref a2), .val (.int p_at), .val (.ref a4), .val (.int (2 : Int32))] [(.ref as_), (.long (P ((p_at + w2) : Int32).toNatClampNeg)), (.long l2), (.int (2 : Int32)), (.ref a4)])) st35 ?_
  refine own_st (T' := T35) (g' := (mkF m 37 #[.val (.ref a1), .val (.ref a2), .val (.int p_at), .val (.ref a4), .val (.int (2 : Int32))] [(.int (2 : Int32)), (.ref as_), (.long (P ((p_at + w2) : Int32).toNatClampNeg)), (.long l2), (.int (2 : Int32)), (.ref a4)])) (fun t k => XS.iload X35.here hx rfl (hb hby own_d28_35) rfl k) ?_
  obtain ⟨cl36, Ar36, q36, S36, N36n, H36, G36⟩ := V_as_
  have hin36 : ¬ ((2 : Int32) < 0 ∨ cl36.slots.size ≤ ((2 : Int32) : Int32).toNatClampNeg) := inb_of S36 ⟨by decide, by decide⟩
  have hat37 := H36.at hin36 (v := (.int s2)) rfl
  have V_as_ : Arv Z h28 as_ ks .int (3 : Int32) [(.int s0), (.int s1), (.int s2)] (.int (0 : Int32)) := ⟨cl36, Ar36, q36, S36, N36n, H36, G36⟩
  refine own_st (T' := T35) (g' := (mkF m 38 #[.val (.ref a1), .val (.ref a2), .val (.int p_at), .val (.ref a4), .val (.int (2 : Int32))] [(.int s2), (.long (P ((p_at + w2) : Int32).toNatClampNeg)), (.long l2), (.int (2 : Int32)), (.ref a4)])) (X35.iaload hx (j := (2 : Int32)) (v := (.int s2)) (by rw [e35]; exact Ar36.1) (State.isArrayOf_alike hZ.alike Ar36.2.1) Ar36.2.2 hin36 hat37 (g := (mkF m 37 #[.val (.ref a1), .val (.ref a2), .val (.int p_at), .val (.ref a4), .val (.int (2 : Int32))] [(.int (2 : Int32)), (.ref as_), (.long (P ((p_at + w2) : Int32).toNatClampNeg)), (.long l2), (.int (2 : Int32)), (.ref a4)])) rfl rfl (hb hby own_d28_37)) ?_
  refine own_st (T' := T35) (g' := (mkF m 39 #[.val (.ref a1), .val (.ref a2), .val (.int p_at), .val (.ref a4), .val (.int (2 : Int32))] [(.long (((P ((p_at + w2) : Int32).toNatClampNeg).toUInt64 >>> (s2 &&& 0x3f).toInt64.toUInt64).toInt64)), (.long l2), (.int (2 : Int32)), (.ref a4)])) (fun t k => XS.lushr X35.here hx rfl (hb hby own_d28_38) rfl k) ?_
  refine own_st (T' := T35) (g' := (mkF m 40 #[.val (.ref a1), .val (.ref a2), .val (.int p_at), .val (.ref a4), .val (.int (2 : Int32))] [(.ref a1), (.long (((P ((p_at + w2) : Int32).toNatClampNeg).toUInt64 >>> (s2 &&& 0x3f).toInt64.toUInt64).toInt64)), (.long l2), (.int (2 : Int32)), (.ref a4)])) (fun t k => XS.aloadN X35.here hx rfl (hb hby own_d28_39) rfl rfl k) ?_
  obtain ⟨T38, X38, e38, st38⟩ := getF X35 hx hZ hown (host := "") (Or.inl (hw _ (List.mem_of_getElem? (i := 121) rfl))) Via.refl e35 F_mask_a1 (g := (mkF m 40 #[.val (.ref a1), .val (.ref a2), .val (.int p_at), .val (.ref a4), .val (.int (2 : Int32))] [(.ref a1), (.long (((P ((p_at + w2) : Int32).toNatClampNeg).toUInt64 >>> (s2 &&& 0x3f).toInt64.toUInt64).toInt64)), (.long l2), (.int (2 : Int32)), (.ref a4)])) rfl rfl (hb hby own_d28_40)
  refine own_st (T' := T38) (g' := (mkF m 43 #[.val (.ref a1), .val (.ref a2), .val (.int p_at), .val (.ref a4), .val (.int (2 : Int32))] [(.ref am), (.long (((P ((p_at + w2) : Int32).toNatClampNeg).toUInt64 >>> (s2 &&& 0x3f).toInt64.toUInt64).toInt64)), (.long l2), (.int (2 : Int32)), (.ref a4)])) st38 ?_
  refine own_st (T' := T38) (g' := (mkF m 45 #[.val (.ref a1), .val (.ref a2), .val (.int p_at), .val (.ref a4), .val (.int (2 : Int32))] [(.int (2 : Int32)), (.ref am), (.long (((P ((p_at + w2) : Int32).toNatClampNeg).toUInt64 >>> (s2 &&& 0x3f).toInt64.toUInt64).toInt64)), (.long l2), (.int (2 : Int32)), (.ref a4)])) (fun t k => XS.iload X38.here hx rfl (hb hby own_d28_43) rfl k) ?_
  obtain ⟨cl39, Ar39, q39, S39, N39n, H39, G39⟩ := V_am
  have hin39 : ¬ ((2 : Int32) < 0 ∨ cl39.slots.size ≤ ((2 : Int32) : Int32).toNatClampNeg) := inb_of S39 ⟨by decide, by decide⟩
  have hat40 := H39.at hin39 (v := (.long m2)) rfl
  have V_am : Arv Z h28 am km .long (3 : Int32) [(.long m0), (.long m1), (.long m2)] (.long (0 : Int64)) := ⟨cl39, Ar39, q39, S39, N39n, H39, G39⟩
  refine own_st (T' := T38) (g' := (mkF m 46 #[.val (.ref a1), .val (.ref a2), .val (.int p_at), .val (.ref a4), .val (.int (2 : Int32))] [(.long m2), (.long (((P ((p_at + w2) : Int32).toNatClampNeg).toUInt64 >>> (s2 &&& 0x3f).toInt64.toUInt64).toInt64)), (.long l2), (.int (2 : Int32)), (.ref a4)])) (X38.laload hx (j := (2 : Int32)) (v := (.long m2)) (by rw [e38]; exact Ar39.1) (State.isArrayOf_alike hZ.alike Ar39.2.1) Ar39.2.2 hin39 hat40 (g := (mkF m 45 #[.val (.ref a1), .val (.ref a2), .val (.int p_at), .val (.ref a4), .val (.int (2 : Int32))] [(.int (2 : Int32)), (.ref am), (.long (((P ((p_at + w2) : Int32).toNatClampNeg).toUInt64 >>> (s2 &&& 0x3f).toInt64.toUInt64).toInt64)), (.long l2), (.int (2 : Int32)), (.ref a4)])) rfl rfl (hb hby own_d28_45)) ?_
  refine own_st (T' := T38) (g' := (mkF m 47 #[.val (.ref a1), .val (.ref a2), .val (.int p_at), .val (.ref a4), .val (.int (2 : Int32))] [(.long ((((P ((p_at + w2) : Int32).toNatClampNeg).toUInt64 >>> (s2 &&& 0x3f).toInt64.toUInt64).toInt64) &&& m2)), (.long l2), (.int (2 : Int32)), (.ref a4)])) (fun t k => XS.land X38.here hx rfl (hb hby own_d28_46) rfl k) ?_
  refine own_st (T' := T38) (g' := (mkF m 48 #[.val (.ref a1), .val (.ref a2), .val (.int p_at), .val (.ref a4), .val (.int (2 : Int32))] [(.long (l2 + ((((P ((p_at + w2) : Int32).toNatClampNeg).toUInt64 >>> (s2 &&& 0x3f).toInt64.toUInt64).toInt64) &&& m2))), (.int (2 : Int32)), (.ref a4)])) (fun t k => XS.ladd X38.here hx rfl (hb hby own_d28_47) rfl k) ?_
  obtain ⟨cl41, Ar41, q41, S41, N41n, H41, G41⟩ := V_a4
  have hin41 : ¬ ((2 : Int32) < 0 ∨ cl41.slots.size ≤ ((2 : Int32) : Int32).toNatClampNeg) := inb_of S41 ⟨by decide, by decide⟩
  obtain ⟨T42, h42, X42, e42, W42, st42⟩ := stJ X38 hx hZ e38 Ar41 (j := (2 : Int32)) hin41 (g := (mkF m 48 #[.val (.ref a1), .val (.ref a2), .val (.int p_at), .val (.ref a4), .val (.int (2 : Int32))] [(.long (l2 + ((((P ((p_at + w2) : Int32).toNatClampNeg).toUInt64 >>> (s2 &&& 0x3f).toInt64.toUInt64).toInt64) &&& m2))), (.int (2 : Int32)), (.ref a4)])) rfl rfl (hb hby own_d28_48)
  have E_a1 := E_a1.wr W42
  have F_words_a1 := F_words_a1.other W42 (Or.inl ne_a1_a4)
  have F_word_a1 := F_word_a1.other W42 (Or.inl ne_a1_a4)
  have V_aw := V_aw.other W42 ne_aw_a4
  have F_shift_a1 := F_shift_a1.other W42 (Or.inl ne_a1_a4)
  have V_as_ := V_as_.other W42 ne_as__a4
  have F_mask_a1 := F_mask_a1.other W42 (Or.inl ne_a1_a4)
  have V_am := V_am.other W42 ne_am_a4
  have F_lower_a1 := F_lower_a1.other W42 (Or.inl ne_a1_a4)
  have V_al := V_al.other W42 ne_al_a4
  have V_a2 := V_a2.other W42 ne_a2_a4
  have V_a4 : Arv Z h42 a4 kv .long (3 : Int32) [(.long (l0 + ((((P ((p_at + w0) : Int32).toNatClampNeg).toUInt64 >>> (s0 &&& 0x3f).toInt64.toUInt64).toInt64) &&& m0))), (.long (l1 + ((((P ((p_at + w1) : Int32).toNatClampNeg).toUInt64 >>> (s1 &&& 0x3f).toInt64.toUInt64).toInt64) &&& m1))), (.long (l2 + ((((P ((p_at + w2) : Int32).toNatClampNeg).toUInt64 >>> (s2 &&& 0x3f).toInt64.toUInt64).toInt64) &&& m2)))] (.long (0 : Int64)) := Arv.set Ar41 q41 S41 N41n H41 G41 rfl W42 2 rfl (Nat.le_of_ble_eq_true rfl)
  have K0_42 := K0_28.wr W42 (Or.inl (List.mem_of_getElem? (i := 0) rfl))
  have N42 := Fr.snoc X42 N28 g_a4
  generalize hlc42 : (lc28 ++ [(⟨a4, ((2 : Int32) : Int32).toNatClampNeg⟩ : Loc)] : List Loc) = lc42 at X42 N42
  have Z42 : n0 ≤ h42.size := Nat.le_trans Z28 (Keep.of_wr W42).1
  refine own_st (T' := T42) (g' := (mkF m 49 #[.val (.ref a1), .val (.ref a2), .val (.int p_at), .val (.ref a4), .val (.int (2 : Int32))] [])) st42 ?_
  refine own_st (T' := T42) (g' := (mkF m 52 #[.val (.ref a1), .val (.ref a2), .val (.int p_at), .val (.ref a4), .val (.int (3 : Int32))] [])) (fun t k => XS.iinc X42.here hx rfl (hb hby own_d28_49) rfl (l' := #[.val (.ref a1), .val (.ref a2), .val (.int p_at), .val (.ref a4), .val (.int (3 : Int32))]) rfl k) ?_
  refine own_st (T' := T42) (g' := (mkF m 3 #[.val (.ref a1), .val (.ref a2), .val (.int p_at), .val (.ref a4), .val (.int (3 : Int32))] [])) (fun t k => XS.goto X42.here hx rfl (pc0 := 52) (pc' := 3) rfl (hb hby own_d28_52) (by decide) (by decide) k) ?_
  refine own_st (T' := T42) (g' := (mkF m 5 #[.val (.ref a1), .val (.ref a2), .val (.int p_at), .val (.ref a4), .val (.int (3 : Int32))] [(.int (3 : Int32))])) (fun t k => XS.iload X42.here hx rfl (hb hby own_d28_3) rfl k) ?_
  refine own_st (T' := T42) (g' := (mkF m 6 #[.val (.ref a1), .val (.ref a2), .val (.int p_at), .val (.ref a4), .val (.int (3 : Int32))] [(.ref a4), (.int (3 : Int32))])) (fun t k => XS.aloadN X42.here hx rfl (hb hby own_d28_5) rfl rfl k) ?_
  refine own_st (T' := T42) (g' := (mkF m 7 #[.val (.ref a1), .val (.ref a2), .val (.int p_at), .val (.ref a4), .val (.int (3 : Int32))] [(.int (3 : Int32)), (.int (3 : Int32))])) (own_alen V_a4 X42 hx hZ e42 (g := (mkF m 6 #[.val (.ref a1), .val (.ref a2), .val (.int p_at), .val (.ref a4), .val (.int (3 : Int32))] [(.ref a4), (.int (3 : Int32))])) rfl rfl (hb hby own_d28_6)) ?_
  refine own_st (T' := T42) (g' := (mkF m 55 #[.val (.ref a1), .val (.ref a2), .val (.int p_at), .val (.ref a4), .val (.int (3 : Int32))] [])) (fun t k => XS.icmpYes X42.here hx rfl (pc0 := 7) (pc' := 55) rfl (hb hby own_d28_7) rfl (flt (by decide)).2.1 (by decide) (by decide) k) ?_
  exact own_retV X42 hx hlk hret (hb hby own_d28_55) (by decide) (by decide) (by rw [e42]; exact ⟨rfl, N42, K0_42, V_a4⟩)
theorem own_d1_0 : decode method_3_code 0 = .ok (.lload_n 0, 1) := by decide +kernel
theorem own_d1_1 : decode method_3_code 1 = .ok (.ldc2_w 63, 3) := by decide +kernel
theorem own_d1_4 : decode method_3_code 4 = .ok (.lload_n 2, 1) := by decide +kernel
theorem own_d1_5 : decode method_3_code 5 = .ok (.lsub, 1) := by decide +kernel
theorem own_d1_6 : decode method_3_code 6 = .ok (.lcmp, 1) := by decide +kernel
theorem own_d1_7 : decode method_3_code 7 = .ok (.ifCond .le 9, 3) := by decide +kernel
theorem own_d1_10 : decode method_3_code 10 = .ok (.lload_n 0, 1) := by decide +kernel
theorem own_d1_11 : decode method_3_code 11 = .ok (.lload_n 2, 1) := by decide +kernel
theorem own_d1_12 : decode method_3_code 12 = .ok (.lsub, 1) := by decide +kernel
theorem own_d1_13 : decode method_3_code 13 = .ok (.goto 4, 3) := by decide +kernel
theorem own_d1_16 : decode method_3_code 16 = .ok (.lload_n 0, 1) := by decide +kernel
theorem own_d1_17 : decode method_3_code 17 = .ok (.lreturn, 1) := by decide +kernel
theorem own_pn1 : plainFor (⟨"com/example/astraea/astraea/explicit/StateLayoutPackPinLaw", "lowFor", "(JJ)J"⟩ : MethodName) = true := plainFor_of_name (show plainName "com/example/astraea/astraea/explicit/StateLayoutPackPinLaw" = true by first | (simp [plainName, overriddenIn]; done) | decide +kernel)
theorem own_ef1 (m : MethodId) (q1 : Int64) (q2 : Int64) : entryFrame m #[(.long q1), (.long q2)] 4 = (mkF m 0 #[.val (.long q1), .second, .val (.long q2), .second] []) := by first | (simp [entryFrame, mkF, argsToLocals, Value.category]; done) | rfl
set_option maxRecDepth 65536 in
set_option maxHeartbeats 40000000 in
theorem own_rm1 (l : Launch) (Z : State) (a0 : Array Value) (hw : ∀ d ∈ tables_1, d.before a0 Z = true) (h0 : Heap) (n0 : Nat) (Z0 : n0 ≤ h0.size) (q1 : Int64) (q2 : Int64) (r : Int64) (hr : r = own_low q1 q2) :
    own_C l Z (⟨"com/example/astraea/astraea/explicit/StateLayoutPackPinLaw", "lowFor", "(JJ)J"⟩ : MethodName) method_3_code 4 (some .long) [] ({ frames := 0, cells := 0, slots := 0, locals := 0 } : Room) #[(.long q1), (.long q2)] h0 (own_P (.long r) h0) := by
  refine own_body own_pn1 (f0 := fun m => (mkF m 0 #[.val (.long q1), .second, .val (.long q2), .second] [])) (fun m => own_ef1 m q1 q2) ?_
  intro p e s m below meth c s₁ hx hby hml hown hnm hret hlk hZ X0 e0
  change own_G p e below (own_F (own_P (.long r) h0) s 0 0) s₁ (mkF m 0 #[.val (.long q1), .second, .val (.long q2), .second] [])
  have N0 := Fr.nil n0
  refine own_st (T' := s₁) (g' := (mkF m 1 #[.val (.long q1), .second, .val (.long q2), .second] [(.long q1)])) (fun t k => XS.lloadN X0.here hx rfl (hb hby own_d1_0) rfl k) ?_
  refine own_st (T' := s₁) (g' := (mkF m 4 #[.val (.long q1), .second, .val (.long q2), .second] [(.long (9223372036854775807 : Int64)), (.long q1)])) (X0.ldc2Long hx hown (mvT hZ (hw _ (List.mem_of_getElem? (i := 4) rfl))) (g := (mkF m 1 #[.val (.long q1), .second, .val (.long q2), .second] [(.long q1)])) rfl (hb hby own_d1_1)) ?_
  refine own_st (T' := s₁) (g' := (mkF m 5 #[.val (.long q1), .second, .val (.long q2), .second] [(.long q2), (.long (9223372036854775807 : Int64)), (.long q1)])) (fun t k => XS.lloadN X0.here hx rfl (hb hby own_d1_4) rfl k) ?_
  refine own_st (T' := s₁) (g' := (mkF m 6 #[.val (.long q1), .second, .val (.long q2), .second] [(.long ((9223372036854775807 : Int64) - q2)), (.long q1)])) (fun t k => XS.lsub X0.here hx rfl (hb hby own_d1_5) rfl k) ?_
  refine own_st (T' := s₁) (g' := (mkF m 7 #[.val (.long q1), .second, .val (.long q2), .second] [(.int (lcmpW q1 ((9223372036854775807 : Int64) - q2)))])) (fun t k => XS.lcmp X0.here hx rfl (hb hby own_d1_6) rfl k) ?_
  by_cases hc7_1 : (0 : Int32) < (lcmpW q1 ((9223372036854775807 : Int64) - q2))
  ·
    refine own_st (T' := s₁) (g' := (mkF m 10 #[.val (.long q1), .second, .val (.long q2), .second] [])) (fun t k => XS.ifNo X0.here hx rfl (hb hby own_d1_7) rfl ((if0 _ _).trans (tlt hc7_1).2.2.2) k) ?_
    refine own_st (T' := s₁) (g' := (mkF m 11 #[.val (.long q1), .second, .val (.long q2), .second] [(.long q1)])) (fun t k => XS.lloadN X0.here hx rfl (hb hby own_d1_10) rfl k) ?_
    refine own_st (T' := s₁) (g' := (mkF m 12 #[.val (.long q1), .second, .val (.long q2), .second] [(.long q2), (.long q1)])) (fun t k => XS.lloadN X0.here hx rfl (hb hby own_d1_11) rfl k) ?_
    refine own_st (T' := s₁) (g' := (mkF m 13 #[.val (.long q1), .second, .val (.long q2), .second] [(.long (q1 - q2))])) (fun t k => XS.lsub X0.here hx rfl (hb hby own_d1_12) rfl k) ?_
    refine own_st (T' := s₁) (g' := (mkF m 17 #[.val (.long q1), .second, .val (.long q2), .second] [(.long (q1 - q2))])) (fun t k => XS.goto X0.here hx rfl (pc0 := 13) (pc' := 17) rfl (hb hby own_d1_13) (by decide) (by decide) k) ?_
    exact own_retJ X0 hx hlk hret (hb hby own_d1_17) (by decide) (by decide) ⟨by rw [hr]; unfold own_low; rw [if_pos hc7_1]; try rfl, e0, rfl⟩
  ·
    refine own_st (T' := s₁) (g' := (mkF m 16 #[.val (.long q1), .second, .val (.long q2), .second] [])) (fun t k => XS.ifYes X0.here hx rfl (pc0 := 7) (pc' := 16) rfl (hb hby own_d1_7) rfl ((if0 _ _).trans (flt hc7_1).2.2.2) (by decide) (by decide) k) ?_
    refine own_st (T' := s₁) (g' := (mkF m 17 #[.val (.long q1), .second, .val (.long q2), .second] [(.long q1)])) (fun t k => XS.lloadN X0.here hx rfl (hb hby own_d1_16) rfl k) ?_
    exact own_retJ X0 hx hlk hret (hb hby own_d1_17) (by decide) (by decide) ⟨by rw [hr]; unfold own_low; rw [if_neg hc7_1]; try rfl, e0, rfl⟩
theorem own_d26_0 : decode method_4_code 0 = .ok (.lload_n 0, 1) := by decide +kernel
theorem own_d26_1 : decode method_4_code 1 = .ok (.ldc2_w 63, 3) := by decide +kernel
theorem own_d26_4 : decode method_4_code 4 = .ok (.land, 1) := by decide +kernel
theorem own_d26_5 : decode method_4_code 5 = .ok (.lstore 4, 2) := by decide +kernel
theorem own_d26_7 : decode method_4_code 7 = .ok (.lload_n 2, 1) := by decide +kernel
theorem own_d26_8 : decode method_4_code 8 = .ok (.ldc2_w 63, 3) := by decide +kernel
theorem own_d26_11 : decode method_4_code 11 = .ok (.lcmp, 1) := by decide +kernel
theorem own_d26_12 : decode method_4_code 12 = .ok (.ifCond .ne 8, 3) := by decide +kernel
theorem own_d26_15 : decode method_4_code 15 = .ok (.lload 4, 2) := by decide +kernel
theorem own_d26_17 : decode method_4_code 17 = .ok (.goto 9, 3) := by decide +kernel
theorem own_d26_20 : decode method_4_code 20 = .ok (.lload 4, 2) := by decide +kernel
theorem own_d26_22 : decode method_4_code 22 = .ok (.lload_n 2, 1) := by decide +kernel
theorem own_d26_23 : decode method_4_code 23 = .ok (.lconst 1, 1) := by decide +kernel
theorem own_d26_24 : decode method_4_code 24 = .ok (.ladd, 1) := by decide +kernel
theorem own_d26_25 : decode method_4_code 25 = .ok (.lrem, 1) := by decide +kernel
theorem own_d26_26 : decode method_4_code 26 = .ok (.lreturn, 1) := by decide +kernel
theorem own_pn26 : plainFor (⟨"com/example/astraea/astraea/explicit/StateLayoutPackPinLaw", "off", "(JJ)J"⟩ : MethodName) = true := plainFor_of_name (show plainName "com/example/astraea/astraea/explicit/StateLayoutPackPinLaw" = true by first | (simp [plainName, overriddenIn]; done) | decide +kernel)
theorem own_ef26 (m : MethodId) (q1 : Int64) (q2 : Int64) : entryFrame m #[(.long q1), (.long q2)] 6 = (mkF m 0 #[.val (.long q1), .second, .val (.long q2), .second, .unset, .unset] []) := by first | (simp [entryFrame, mkF, argsToLocals, Value.category]; done) | rfl
set_option maxRecDepth 65536 in
set_option maxHeartbeats 40000000 in
theorem own_rm26 (l : Launch) (Z : State) (a0 : Array Value) (hw : ∀ d ∈ tables_1, d.before a0 Z = true) (h0 : Heap) (n0 : Nat) (Z0 : n0 ≤ h0.size) (q1 : Int64) (q2 : Int64) (r : Int64) (hr : r = own_off q1 q2) (hs : 0 ≤ q2.toInt) :
    own_C l Z (⟨"com/example/astraea/astraea/explicit/StateLayoutPackPinLaw", "off", "(JJ)J"⟩ : MethodName) method_4_code 6 (some .long) [] ({ frames := 0, cells := 0, slots := 0, locals := 0 } : Room) #[(.long q1), (.long q2)] h0 (own_P (.long r) h0) := by
  refine own_body own_pn26 (f0 := fun m => (mkF m 0 #[.val (.long q1), .second, .val (.long q2), .second, .unset, .unset] [])) (fun m => own_ef26 m q1 q2) ?_
  intro p e s m below meth c s₁ hx hby hml hown hnm hret hlk hZ X0 e0
  change own_G p e below (own_F (own_P (.long r) h0) s 0 0) s₁ (mkF m 0 #[.val (.long q1), .second, .val (.long q2), .second, .unset, .unset] [])
  have N0 := Fr.nil n0
  refine own_st (T' := s₁) (g' := (mkF m 1 #[.val (.long q1), .second, .val (.long q2), .second, .unset, .unset] [(.long q1)])) (fun t k => XS.lloadN X0.here hx rfl (hb hby own_d26_0) rfl k) ?_
  refine own_st (T' := s₁) (g' := (mkF m 4 #[.val (.long q1), .second, .val (.long q2), .second, .unset, .unset] [(.long (9223372036854775807 : Int64)), (.long q1)])) (X0.ldc2Long hx hown (mvT hZ (hw _ (List.mem_of_getElem? (i := 4) rfl))) (g := (mkF m 1 #[.val (.long q1), .second, .val (.long q2), .second, .unset, .unset] [(.long q1)])) rfl (hb hby own_d26_1)) ?_
  refine own_st (T' := s₁) (g' := (mkF m 5 #[.val (.long q1), .second, .val (.long q2), .second, .unset, .unset] [(.long (q1 &&& (9223372036854775807 : Int64)))])) (fun t k => XS.land X0.here hx rfl (hb hby own_d26_4) rfl k) ?_
  refine own_st (T' := s₁) (g' := (mkF m 7 #[.val (.long q1), .second, .val (.long q2), .second, .val (.long (q1 &&& (9223372036854775807 : Int64))), .second] [])) (fun t k => XS.lstore X0.here hx rfl (hb hby own_d26_5) rfl (l' := #[.val (.long q1), .second, .val (.long q2), .second, .val (.long (q1 &&& (9223372036854775807 : Int64))), .second]) rfl k) ?_
  refine own_st (T' := s₁) (g' := (mkF m 8 #[.val (.long q1), .second, .val (.long q2), .second, .val (.long (q1 &&& (9223372036854775807 : Int64))), .second] [(.long q2)])) (fun t k => XS.lloadN X0.here hx rfl (hb hby own_d26_7) rfl k) ?_
  refine own_st (T' := s₁) (g' := (mkF m 11 #[.val (.long q1), .second, .val (.long q2), .second, .val (.long (q1 &&& (9223372036854775807 : Int64))), .second] [(.long (9223372036854775807 : Int64)), (.long q2)])) (X0.ldc2Long hx hown (mvT hZ (hw _ (List.mem_of_getElem? (i := 4) rfl))) (g := (mkF m 8 #[.val (.long q1), .second, .val (.long q2), .second, .val (.long (q1 &&& (9223372036854775807 : Int64))), .second] [(.long q2)])) rfl (hb hby own_d26_8)) ?_
  refine own_st (T' := s₁) (g' := (mkF m 12 #[.val (.long q1), .second, .val (.long q2), .second, .val (.long (q1 &&& (9223372036854775807 : Int64))), .second] [(.int (lcmpW q2 (9223372036854775807 : Int64)))])) (fun t k => XS.lcmp X0.here hx rfl (hb hby own_d26_11) rfl k) ?_
  by_cases hc12_1 : (lcmpW q2 (9223372036854775807 : Int64)) = (0 : Int32)
  ·
    refine own_st (T' := s₁) (g' := (mkF m 15 #[.val (.long q1), .second, .val (.long q2), .second, .val (.long (q1 &&& (9223372036854775807 : Int64))), .second] [])) (fun t k => XS.ifNo X0.here hx rfl (hb hby own_d26_12) rfl ((if0 _ _).trans (teq hc12_1).2) k) ?_
    refine own_st (T' := s₁) (g' := (mkF m 17 #[.val (.long q1), .second, .val (.long q2), .second, .val (.long (q1 &&& (9223372036854775807 : Int64))), .second] [(.long (q1 &&& (9223372036854775807 : Int64)))])) (fun t k => XS.lload X0.here hx rfl (hb hby own_d26_15) rfl k) ?_
    refine own_st (T' := s₁) (g' := (mkF m 26 #[.val (.long q1), .second, .val (.long q2), .second, .val (.long (q1 &&& (9223372036854775807 : Int64))), .second] [(.long (q1 &&& (9223372036854775807 : Int64)))])) (fun t k => XS.goto X0.here hx rfl (pc0 := 17) (pc' := 26) rfl (hb hby own_d26_17) (by decide) (by decide) k) ?_
    exact own_retJ X0 hx hlk hret (hb hby own_d26_26) (by decide) (by decide) ⟨by rw [hr]; unfold own_off; rw [if_pos hc12_1]; try rfl, e0, rfl⟩
  ·
    refine own_st (T' := s₁) (g' := (mkF m 20 #[.val (.long q1), .second, .val (.long q2), .second, .val (.long (q1 &&& (9223372036854775807 : Int64))), .second] [])) (fun t k => XS.ifYes X0.here hx rfl (pc0 := 12) (pc' := 20) rfl (hb hby own_d26_12) rfl ((if0 _ _).trans (feq hc12_1).2) (by decide) (by decide) k) ?_
    refine own_st (T' := s₁) (g' := (mkF m 22 #[.val (.long q1), .second, .val (.long q2), .second, .val (.long (q1 &&& (9223372036854775807 : Int64))), .second] [(.long (q1 &&& (9223372036854775807 : Int64)))])) (fun t k => XS.lload X0.here hx rfl (hb hby own_d26_20) rfl k) ?_
    refine own_st (T' := s₁) (g' := (mkF m 23 #[.val (.long q1), .second, .val (.long q2), .second, .val (.long (q1 &&& (9223372036854775807 : Int64))), .second] [(.long q2), (.long (q1 &&& (9223372036854775807 : Int64)))])) (fun t k => XS.lloadN X0.here hx rfl (hb hby own_d26_22) rfl k) ?_
    refine own_st (T' := s₁) (g' := (mkF m 24 #[.val (.long q1), .second, .val (.long q2), .second, .val (.long (q1 &&& (9223372036854775807 : Int64))), .second] [(.long (1 : Int64)), (.long q2), (.long (q1 &&& (9223372036854775807 : Int64)))])) (fun t k => XS.lconst X0.here hx rfl (hb hby own_d26_23) k) ?_
    refine own_st (T' := s₁) (g' := (mkF m 25 #[.val (.long q1), .second, .val (.long q2), .second, .val (.long (q1 &&& (9223372036854775807 : Int64))), .second] [(.long (q2 + (1 : Int64))), (.long (q1 &&& (9223372036854775807 : Int64)))])) (fun t k => XS.ladd X0.here hx rfl (hb hby own_d26_24) rfl k) ?_
    refine own_st (T' := s₁) (g' := (mkF m 26 #[.val (.long q1), .second, .val (.long q2), .second, .val (.long (q1 &&& (9223372036854775807 : Int64))), .second] [(.long ((q1 &&& (9223372036854775807 : Int64)) - (q1 &&& (9223372036854775807 : Int64)) / (q2 + (1 : Int64)) * (q2 + (1 : Int64))))])) (fun t k => XS.lrem X0.here hx rfl (hb hby own_d26_25) rfl (own_one1 hs) k) ?_
    exact own_retJ X0 hx hlk hret (hb hby own_d26_26) (by decide) (by decide) ⟨by rw [hr]; unfold own_off; rw [if_neg hc12_1]; try rfl, e0, rfl⟩
theorem own_d29_0 : decode method_5_code 0 = .ok (.iload_n 1, 1) := by decide +kernel
theorem own_d29_1 : decode method_5_code 1 = .ok (.iload_n 2, 1) := by decide +kernel
theorem own_d29_2 : decode method_5_code 2 = .ok (.if_icmp .lt 10, 3) := by decide +kernel
theorem own_d29_5 : decode method_5_code 5 = .ok (.iload_n 1, 1) := by decide +kernel
theorem own_d29_6 : decode method_5_code 6 = .ok (.iload_n 2, 1) := by decide +kernel
theorem own_d29_7 : decode method_5_code 7 = .ok (.iload_n 3, 1) := by decide +kernel
theorem own_d29_8 : decode method_5_code 8 = .ok (.iadd, 1) := by decide +kernel
theorem own_d29_9 : decode method_5_code 9 = .ok (.if_icmp .lt 11, 3) := by decide +kernel
theorem own_d29_12 : decode method_5_code 12 = .ok (.aload_n 0, 1) := by decide +kernel
theorem own_d29_13 : decode method_5_code 13 = .ok (.iload_n 1, 1) := by decide +kernel
theorem own_d29_14 : decode method_5_code 14 = .ok (.laload, 1) := by decide +kernel
theorem own_d29_15 : decode method_5_code 15 = .ok (.lconst 0, 1) := by decide +kernel
theorem own_d29_16 : decode method_5_code 16 = .ok (.lcmp, 1) := by decide +kernel
theorem own_d29_17 : decode method_5_code 17 = .ok (.ifCond .ne 7, 3) := by decide +kernel
theorem own_d29_20 : decode method_5_code 20 = .ok (.iconst 1, 1) := by decide +kernel
theorem own_d29_21 : decode method_5_code 21 = .ok (.goto 4, 3) := by decide +kernel
theorem own_d29_25 : decode method_5_code 25 = .ok (.ireturn, 1) := by decide +kernel
theorem own_pn29 : plainFor (⟨"com/example/astraea/astraea/explicit/StateLayoutPackPinLaw", "clear", "([JIII)Z"⟩ : MethodName) = true := plainFor_of_name (show plainName "com/example/astraea/astraea/explicit/StateLayoutPackPinLaw" = true by first | (simp [plainName, overriddenIn]; done) | decide +kernel)
theorem own_ef29 (m : MethodId) (a1 : Addr) (p2 : Int32) (p3 : Int32) (p4 : Int32) : entryFrame m #[(.ref a1), (.int p2), (.int p3), (.int p4)] 4 = (mkF m 0 #[.val (.ref a1), .val (.int p2), .val (.int p3), .val (.int p4)] []) := by first | (simp [entryFrame, mkF, argsToLocals, Value.category]; done) | rfl
set_option maxRecDepth 65536 in
set_option maxHeartbeats 40000000 in
theorem own_rm29 (l : Launch) (Z : State) (a0 : Array Value) (hw : ∀ d ∈ tables_1, d.before a0 Z = true) (h0 : Heap) (n0 : Nat) (Z0 : n0 ≤ h0.size) (a1 : Addr) (p2 : Int32) (p3 : Int32) (p4 : Int32) (kp : ClassId) (P : Nat → Int64) (V_a1 : Arv Z h0 a1 kp .long (8 : Int32) (own_ls 8 P) (.long (0 : Int64))) (hi : ¬ p2 < 0 ∧ p2 < (8 : Int32)) (hcl : (¬ p2 < p3 ∧ p2 < p3 + p4) ∨ P p2.toNatClampNeg = 0) :
    own_C l Z (⟨"com/example/astraea/astraea/explicit/StateLayoutPackPinLaw", "clear", "([JIII)Z"⟩ : MethodName) method_5_code 4 (some .boolean) [] ({ frames := 0, cells := 0, slots := 0, locals := 0 } : Room) #[(.ref a1), (.int p2), (.int p3), (.int p4)] h0 (own_P (.int 1) h0) := by
  refine own_body own_pn29 (f0 := fun m => (mkF m 0 #[.val (.ref a1), .val (.int p2), .val (.int p3), .val (.int p4)] [])) (fun m => own_ef29 m a1 p2 p3 p4) ?_
  intro p e s m below meth c s₁ hx hby hml hown hnm hret hlk hZ X0 e0
  change own_G p e below (own_F (own_P (.int 1) h0) s 0 0) s₁ (mkF m 0 #[.val (.ref a1), .val (.int p2), .val (.int p3), .val (.int p4)] [])
  have N0 := Fr.nil n0
  refine own_st (T' := s₁) (g' := (mkF m 1 #[.val (.ref a1), .val (.int p2), .val (.int p3), .val (.int p4)] [(.int p2)])) (fun t k => XS.iloadN X0.here hx rfl (hb hby own_d29_0) rfl k) ?_
  refine own_st (T' := s₁) (g' := (mkF m 2 #[.val (.ref a1), .val (.int p2), .val (.int p3), .val (.int p4)] [(.int p3), (.int p2)])) (fun t k => XS.iloadN X0.here hx rfl (hb hby own_d29_1) rfl k) ?_
  by_cases hc2_1 : p2 < p3
  ·
    refine own_st (T' := s₁) (g' := (mkF m 12 #[.val (.ref a1), .val (.int p2), .val (.int p3), .val (.int p4)] [])) (fun t k => XS.icmpYes X0.here hx rfl (pc0 := 2) (pc' := 12) rfl (hb hby own_d29_2) rfl (tlt hc2_1).1 (by decide) (by decide) k) ?_
    refine own_st (T' := s₁) (g' := (mkF m 13 #[.val (.ref a1), .val (.int p2), .val (.int p3), .val (.int p4)] [(.ref a1)])) (fun t k => XS.aloadN X0.here hx rfl (hb hby own_d29_12) rfl rfl k) ?_
    refine own_st (T' := s₁) (g' := (mkF m 14 #[.val (.ref a1), .val (.int p2), .val (.int p3), .val (.int p4)] [(.int p2), (.ref a1)])) (fun t k => XS.iloadN X0.here hx rfl (hb hby own_d29_13) rfl k) ?_
    refine own_st (T' := s₁) (g' := (mkF m 15 #[.val (.ref a1), .val (.int p2), .val (.int p3), .val (.int p4)] [(.long (P (p2 : Int32).toNatClampNeg))])) (own_lld V_a1 rfl X0 hx hZ e0 (j := p2) hi (g := (mkF m 14 #[.val (.ref a1), .val (.int p2), .val (.int p3), .val (.int p4)] [(.int p2), (.ref a1)])) rfl rfl (hb hby own_d29_14)) ?_
    refine own_st (T' := s₁) (g' := (mkF m 16 #[.val (.ref a1), .val (.int p2), .val (.int p3), .val (.int p4)] [(.long (0 : Int64)), (.long (P (p2 : Int32).toNatClampNeg))])) (fun t k => XS.lconst X0.here hx rfl (hb hby own_d29_15) k) ?_
    refine own_st (T' := s₁) (g' := (mkF m 17 #[.val (.ref a1), .val (.int p2), .val (.int p3), .val (.int p4)] [(.int (lcmpW (P (p2 : Int32).toNatClampNeg) (0 : Int64)))])) (fun t k => XS.lcmp X0.here hx rfl (hb hby own_d29_16) rfl k) ?_
    have hk2 : (lcmpW (P (p2 : Int32).toNatClampNeg) (0 : Int64)) = (0 : Int32) := (lw_eq _ _).mpr (hcl.resolve_left fun z => z.1 hc2_1)
    refine own_st (T' := s₁) (g' := (mkF m 20 #[.val (.ref a1), .val (.int p2), .val (.int p3), .val (.int p4)] [])) (fun t k => XS.ifNo X0.here hx rfl (hb hby own_d29_17) rfl ((if0 _ _).trans (teq hk2).2) k) ?_
    refine own_st (T' := s₁) (g' := (mkF m 21 #[.val (.ref a1), .val (.int p2), .val (.int p3), .val (.int p4)] [(.int (1 : Int32))])) (fun t k => XS.iconst X0.here hx rfl (hb hby own_d29_20) k) ?_
    refine own_st (T' := s₁) (g' := (mkF m 25 #[.val (.ref a1), .val (.int p2), .val (.int p3), .val (.int p4)] [(.int (1 : Int32))])) (fun t k => XS.goto X0.here hx rfl (pc0 := 21) (pc' := 25) rfl (hb hby own_d29_21) (by decide) (by decide) k) ?_
    exact own_retB X0 hx hlk hret (hb hby own_d29_25) (by decide) (by decide) rfl ⟨rfl, e0, rfl⟩
  ·
    refine own_st (T' := s₁) (g' := (mkF m 5 #[.val (.ref a1), .val (.int p2), .val (.int p3), .val (.int p4)] [])) (fun t k => XS.icmpNo X0.here hx rfl (hb hby own_d29_2) rfl (flt hc2_1).1 k) ?_
    refine own_st (T' := s₁) (g' := (mkF m 6 #[.val (.ref a1), .val (.int p2), .val (.int p3), .val (.int p4)] [(.int p2)])) (fun t k => XS.iloadN X0.here hx rfl (hb hby own_d29_5) rfl k) ?_
    refine own_st (T' := s₁) (g' := (mkF m 7 #[.val (.ref a1), .val (.int p2), .val (.int p3), .val (.int p4)] [(.int p3), (.int p2)])) (fun t k => XS.iloadN X0.here hx rfl (hb hby own_d29_6) rfl k) ?_
    refine own_st (T' := s₁) (g' := (mkF m 8 #[.val (.ref a1), .val (.int p2), .val (.int p3), .val (.int p4)] [(.int p4), (.int p3), (.int p2)])) (fun t k => XS.iloadN X0.here hx rfl (hb hby own_d29_7) rfl k) ?_
    refine own_st (T' := s₁) (g' := (mkF m 9 #[.val (.ref a1), .val (.int p2), .val (.int p3), .val (.int p4)] [(.int (p3 + p4)), (.int p2)])) (fun t k => XS.iadd X0.here hx rfl (hb hby own_d29_8) rfl k) ?_
    by_cases hc9_3 : p2 < (p3 + p4)
    ·
      refine own_st (T' := s₁) (g' := (mkF m 20 #[.val (.ref a1), .val (.int p2), .val (.int p3), .val (.int p4)] [])) (fun t k => XS.icmpYes X0.here hx rfl (pc0 := 9) (pc' := 20) rfl (hb hby own_d29_9) rfl (tlt hc9_3).1 (by decide) (by decide) k) ?_
      refine own_st (T' := s₁) (g' := (mkF m 21 #[.val (.ref a1), .val (.int p2), .val (.int p3), .val (.int p4)] [(.int (1 : Int32))])) (fun t k => XS.iconst X0.here hx rfl (hb hby own_d29_20) k) ?_
      refine own_st (T' := s₁) (g' := (mkF m 25 #[.val (.ref a1), .val (.int p2), .val (.int p3), .val (.int p4)] [(.int (1 : Int32))])) (fun t k => XS.goto X0.here hx rfl (pc0 := 21) (pc' := 25) rfl (hb hby own_d29_21) (by decide) (by decide) k) ?_
      exact own_retB X0 hx hlk hret (hb hby own_d29_25) (by decide) (by decide) rfl ⟨rfl, e0, rfl⟩
    ·
      refine own_st (T' := s₁) (g' := (mkF m 12 #[.val (.ref a1), .val (.int p2), .val (.int p3), .val (.int p4)] [])) (fun t k => XS.icmpNo X0.here hx rfl (hb hby own_d29_9) rfl (flt hc9_3).1 k) ?_
      refine own_st (T' := s₁) (g' := (mkF m 13 #[.val (.ref a1), .val (.int p2), .val (.int p3), .val (.int p4)] [(.ref a1)])) (fun t k => XS.aloadN X0.here hx rfl (hb hby own_d29_12) rfl rfl k) ?_
      refine own_st (T' := s₁) (g' := (mkF m 14 #[.val (.ref a1), .val (.int p2), .val (.int p3), .val (.int p4)] [(.int p2), (.ref a1)])) (fun t k => XS.iloadN X0.here hx rfl (hb hby own_d29_13) rfl k) ?_
      refine own_st (T' := s₁) (g' := (mkF m 15 #[.val (.ref a1), .val (.int p2), .val (.int p3), .val (.int p4)] [(.long (P (p2 : Int32).toNatClampNeg))])) (own_lld V_a1 rfl X0 hx hZ e0 (j := p2) hi (g := (mkF m 14 #[.val (.ref a1), .val (.int p2), .val (.int p3), .val (.int p4)] [(.int p2), (.ref a1)])) rfl rfl (hb hby own_d29_14)) ?_
      refine own_st (T' := s₁) (g' := (mkF m 16 #[.val (.ref a1), .val (.int p2), .val (.int p3), .val (.int p4)] [(.long (0 : Int64)), (.long (P (p2 : Int32).toNatClampNeg))])) (fun t k => XS.lconst X0.here hx rfl (hb hby own_d29_15) k) ?_
      refine own_st (T' := s₁) (g' := (mkF m 17 #[.val (.ref a1), .val (.int p2), .val (.int p3), .val (.int p4)] [(.int (lcmpW (P (p2 : Int32).toNatClampNeg) (0 : Int64)))])) (fun t k => XS.lcmp X0.here hx rfl (hb hby own_d29_16) rfl k) ?_
      have hk4 : (lcmpW (P (p2 : Int32).toNatClampNeg) (0 : Int64)) = (0 : Int32) := (lw_eq _ _).mpr (hcl.resolve_left fun z => hc9_3 z.2)
      refine own_st (T' := s₁) (g' := (mkF m 20 #[.val (.ref a1), .val (.int p2), .val (.int p3), .val (.int p4)] [])) (fun t k => XS.ifNo X0.here hx rfl (hb hby own_d29_17) rfl ((if0 _ _).trans (teq hk4).2) k) ?_
      refine own_st (T' := s₁) (g' := (mkF m 21 #[.val (.ref a1), .val (.int p2), .val (.int p3), .val (.int p4)] [(.int (1 : Int32))])) (fun t k => XS.iconst X0.here hx rfl (hb hby own_d29_20) k) ?_
      refine own_st (T' := s₁) (g' := (mkF m 25 #[.val (.ref a1), .val (.int p2), .val (.int p3), .val (.int p4)] [(.int (1 : Int32))])) (fun t k => XS.goto X0.here hx rfl (pc0 := 21) (pc' := 25) rfl (hb hby own_d29_21) (by decide) (by decide) k) ?_
      exact own_retB X0 hx hlk hret (hb hby own_d29_25) (by decide) (by decide) rfl ⟨rfl, e0, rfl⟩
theorem own_pn0 : plainFor x = true := plainFor_of_name (show plainName "com/example/astraea/astraea/explicit/StateLayoutPackPinLaw" = true by first | (simp [plainName, overriddenIn]; done) | decide +kernel)
theorem own_ef0 (m : MethodId) (q1 : Int64) (q2 : Int64) (q3 : Int64) (q4 : Int64) (q5 : Int64) (p6 : Int32) : entryFrame m #[(.long q1), (.long q2), (.long q3), (.long q4), (.long q5), (.int p6)] maxLocals = (mkF m 0 #[.val (.long q1), .second, .val (.long q2), .second, .val (.long q3), .second, .val (.long q4), .second, .val (.long q5), .second, .val (.int p6), .unset, .unset, .unset, .unset, .unset, .unset, .unset, .unset, .unset, .unset, .unset, .unset, .unset, .unset, .unset, .unset, .unset] []) := by first | (simp [entryFrame, mkF, argsToLocals, Value.category, maxLocals]; done) | rfl
set_option maxRecDepth 65536 in
set_option maxHeartbeats 40000000 in
theorem own_rm0 (l : Launch) (Z : State) (a0 : Array Value) (hw : ∀ d ∈ tables_1, d.before a0 Z = true) (h0 : Heap) (n0 : Nat) (Z0 : n0 ≤ h0.size) (q1 : Int64) (q2 : Int64) (q3 : Int64) (q4 : Int64) (q5 : Int64) (p6 : Int32) (O : Old Z n0 h0) (s_DC : Addr) (S_DC : Sta Z Z.heap "java/util/ArrayList" "DEFAULTCAPACITY_EMPTY_ELEMENTDATA" "[Ljava/lang/Object;" (.ref s_DC)) (k_DC : ClassId) (A_DC : Arv Z Z.heap s_DC k_DC (.object "java/lang/Object") 0 [] .null) (s_INT : Addr) (S_INT : Sta Z Z.heap "com/example/astraea/astraea/lang/Type" "INT" "Lcom/example/astraea/astraea/lang/Type;" (.ref s_INT)) :
    MetFree l x (head1 (Jvm.Cond.code x code maxLocals ret :: tables_1) room_1) (fun a U => a = #[(.long q1), (.long q2), (.long q3), (.long q4), (.long q5), (.int p6)] ∧ Z.Warmed39 U.vm ∧ U.heap = h0) (fun _ _ _ _ _ => True) (fun _ U o U' => ∃ v L, o = .returned v ∧ (own_qr (.int 1) n0) v U'.heap L ∧ ReturnedEndW U o U' L room_1.cells room_1.slots) := by
  refine own_bodyW own_pn0 (f0 := fun m => (mkF m 0 #[.val (.long q1), .second, .val (.long q2), .second, .val (.long q3), .second, .val (.long q4), .second, .val (.long q5), .second, .val (.int p6), .unset, .unset, .unset, .unset, .unset, .unset, .unset, .unset, .unset, .unset, .unset, .unset, .unset, .unset, .unset, .unset, .unset] [])) (fun m => own_ef0 m q1 q2 q3 q4 q5 p6) ?_
  intro p e s m below meth c s₁ hx hby hml hown hnm hret hlk hZ X0 e0 hS
  change own_G p e below (own_FW (own_qr (.int 1) n0) s room_1.cells room_1.slots) s₁ (mkF m 0 #[.val (.long q1), .second, .val (.long q2), .second, .val (.long q3), .second, .val (.long q4), .second, .val (.long q5), .second, .val (.int p6), .unset, .unset, .unset, .unset, .unset, .unset, .unset, .unset, .unset, .unset, .unset, .unset, .unset, .unset, .unset, .unset, .unset] [])
  have hkS : 0 ≤ h0.size := Nat.zero_le _
  have N0 := Fr.nil n0
  refine own_st (T' := s₁) (g' := (mkF m 2 #[.val (.long q1), .second, .val (.long q2), .second, .val (.long q3), .second, .val (.long q4), .second, .val (.long q5), .second, .val (.int p6), .unset, .unset, .unset, .unset, .unset, .unset, .unset, .unset, .unset, .unset, .unset, .unset, .unset, .unset, .unset, .unset, .unset] [(.long q4)])) (fun t k => XS.lload X0.here hx rfl (hb hby at_0) rfl k) ?_
  refine own_st (T' := s₁) (g' := (mkF m 3 #[.val (.long q1), .second, .val (.long q2), .second, .val (.long q3), .second, .val (.long q4), .second, .val (.long q5), .second, .val (.int p6), .unset, .unset, .unset, .unset, .unset, .unset, .unset, .unset, .unset, .unset, .unset, .unset, .unset, .unset, .unset, .unset, .unset] [(.int (1 : Int32)), (.long q4)])) (fun t k => XS.iconst X0.here hx rfl (hb hby at_2) k) ?_
  refine own_st (T' := s₁) (g' := (mkF m 4 #[.val (.long q1), .second, .val (.long q2), .second, .val (.long q3), .second, .val (.long q4), .second, .val (.long q5), .second, .val (.int p6), .unset, .unset, .unset, .unset, .unset, .unset, .unset, .unset, .unset, .unset, .unset, .unset, .unset, .unset, .unset, .unset, .unset] [(.long ((q4.toUInt64 >>> ((1 : Int32) &&& 0x3f).toInt64.toUInt64).toInt64))])) (fun t k => XS.lushr X0.here hx rfl (hb hby at_3) rfl k) ?_
  refine own_st (T' := s₁) (g' := (mkF m 6 #[.val (.long q1), .second, .val (.long q2), .second, .val (.long q3), .second, .val (.long q4), .second, .val (.long q5), .second, .val (.int p6), .unset, .unset, .unset, .unset, .unset, .unset, .unset, .unset, .unset, .unset, .unset, .unset, .unset, .unset, .unset, .unset, .unset] [(.int p6), (.long ((q4.toUInt64 >>> ((1 : Int32) &&& 0x3f).toInt64.toUInt64).toInt64))])) (fun t k => XS.iload X0.here hx rfl (hb hby at_4) rfl k) ?_
  refine own_st (T' := s₁) (g' := (mkF m 8 #[.val (.long q1), .second, .val (.long q2), .second, .val (.long q3), .second, .val (.long q4), .second, .val (.long q5), .second, .val (.int p6), .unset, .unset, .unset, .unset, .unset, .unset, .unset, .unset, .unset, .unset, .unset, .unset, .unset, .unset, .unset, .unset, .unset] [(.int (63 : Int32)), (.int p6), (.long ((q4.toUInt64 >>> ((1 : Int32) &&& 0x3f).toInt64.toUInt64).toInt64))])) (fun t k => XS.bipush X0.here hx rfl (hb hby at_6) k) ?_
  refine own_st (T' := s₁) (g' := (mkF m 9 #[.val (.long q1), .second, .val (.long q2), .second, .val (.long q3), .second, .val (.long q4), .second, .val (.long q5), .second, .val (.int p6), .unset, .unset, .unset, .unset, .unset, .unset, .unset, .unset, .unset, .unset, .unset, .unset, .unset, .unset, .unset, .unset, .unset] [(.int (p6 &&& (63 : Int32))), (.long ((q4.toUInt64 >>> ((1 : Int32) &&& 0x3f).toInt64.toUInt64).toInt64))])) (fun t k => XS.iand X0.here hx rfl (hb hby at_8) rfl k) ?_
  refine own_st (T' := s₁) (g' := (mkF m 10 #[.val (.long q1), .second, .val (.long q2), .second, .val (.long q3), .second, .val (.long q4), .second, .val (.long q5), .second, .val (.int p6), .unset, .unset, .unset, .unset, .unset, .unset, .unset, .unset, .unset, .unset, .unset, .unset, .unset, .unset, .unset, .unset, .unset] [(.long ((((q4.toUInt64 >>> ((1 : Int32) &&& 0x3f).toInt64.toUInt64).toInt64).toUInt64 >>> ((p6 &&& (63 : Int32)) &&& 0x3f).toInt64.toUInt64).toInt64))])) (fun t k => XS.lushr X0.here hx rfl (hb hby at_9) rfl k) ?_
  obtain ⟨span0, hspan0_⟩ : ∃ z, z = ((((q4.toUInt64 >>> ((1 : Int32) &&& 0x3f).toInt64.toUInt64).toInt64).toUInt64 >>> ((p6 &&& (63 : Int32)) &&& 0x3f).toInt64.toUInt64).toInt64) := ⟨_, rfl⟩
  rw [← hspan0_]
  have hs0 : 0 ≤ span0.toInt := by rw [hspan0_]; exact own_sp _ _
  refine own_st (T' := s₁) (g' := (mkF m 12 #[.val (.long q1), .second, .val (.long q2), .second, .val (.long q3), .second, .val (.long q4), .second, .val (.long q5), .second, .val (.int p6), .val (.long span0), .second, .unset, .unset, .unset, .unset, .unset, .unset, .unset, .unset, .unset, .unset, .unset, .unset, .unset, .unset, .unset] [])) (fun t k => XS.lstore X0.here hx rfl (hb hby at_10) rfl (l' := #[.val (.long q1), .second, .val (.long q2), .second, .val (.long q3), .second, .val (.long q4), .second, .val (.long q5), .second, .val (.int p6), .val (.long span0), .second, .unset, .unset, .unset, .unset, .unset, .unset, .unset, .unset, .unset, .unset, .unset, .unset, .unset, .unset, .unset]) rfl k) ?_
  refine own_st (T' := s₁) (g' := (mkF m 14 #[.val (.long q1), .second, .val (.long q2), .second, .val (.long q3), .second, .val (.long q4), .second, .val (.long q5), .second, .val (.int p6), .val (.long span0), .second, .unset, .unset, .unset, .unset, .unset, .unset, .unset, .unset, .unset, .unset, .unset, .unset, .unset, .unset, .unset] [(.long q5)])) (fun t k => XS.lload X0.here hx rfl (hb hby at_12) rfl k) ?_
  refine own_st (T' := s₁) (g' := (mkF m 15 #[.val (.long q1), .second, .val (.long q2), .second, .val (.long q3), .second, .val (.long q4), .second, .val (.long q5), .second, .val (.int p6), .val (.long span0), .second, .unset, .unset, .unset, .unset, .unset, .unset, .unset, .unset, .unset, .unset, .unset, .unset, .unset, .unset, .unset] [(.int (1 : Int32)), (.long q5)])) (fun t k => XS.iconst X0.here hx rfl (hb hby at_14) k) ?_
  refine own_st (T' := s₁) (g' := (mkF m 16 #[.val (.long q1), .second, .val (.long q2), .second, .val (.long q3), .second, .val (.long q4), .second, .val (.long q5), .second, .val (.int p6), .val (.long span0), .second, .unset, .unset, .unset, .unset, .unset, .unset, .unset, .unset, .unset, .unset, .unset, .unset, .unset, .unset, .unset] [(.long ((q5.toUInt64 >>> ((1 : Int32) &&& 0x3f).toInt64.toUInt64).toInt64))])) (fun t k => XS.lushr X0.here hx rfl (hb hby at_15) rfl k) ?_
  refine own_st (T' := s₁) (g' := (mkF m 18 #[.val (.long q1), .second, .val (.long q2), .second, .val (.long q3), .second, .val (.long q4), .second, .val (.long q5), .second, .val (.int p6), .val (.long span0), .second, .unset, .unset, .unset, .unset, .unset, .unset, .unset, .unset, .unset, .unset, .unset, .unset, .unset, .unset, .unset] [(.int p6), (.long ((q5.toUInt64 >>> ((1 : Int32) &&& 0x3f).toInt64.toUInt64).toInt64))])) (fun t k => XS.iload X0.here hx rfl (hb hby at_16) rfl k) ?_
  refine own_st (T' := s₁) (g' := (mkF m 20 #[.val (.long q1), .second, .val (.long q2), .second, .val (.long q3), .second, .val (.long q4), .second, .val (.long q5), .second, .val (.int p6), .val (.long span0), .second, .unset, .unset, .unset, .unset, .unset, .unset, .unset, .unset, .unset, .unset, .unset, .unset, .unset, .unset, .unset] [(.int (6 : Int32)), (.int p6), (.long ((q5.toUInt64 >>> ((1 : Int32) &&& 0x3f).toInt64.toUInt64).toInt64))])) (fun t k => XS.bipush X0.here hx rfl (hb hby at_18) k) ?_
  refine own_st (T' := s₁) (g' := (mkF m 21 #[.val (.long q1), .second, .val (.long q2), .second, .val (.long q3), .second, .val (.long q4), .second, .val (.long q5), .second, .val (.int p6), .val (.long span0), .second, .unset, .unset, .unset, .unset, .unset, .unset, .unset, .unset, .unset, .unset, .unset, .unset, .unset, .unset, .unset] [(.int ((p6.toUInt32 >>> ((6 : Int32) &&& 31).toUInt32).toInt32)), (.long ((q5.toUInt64 >>> ((1 : Int32) &&& 0x3f).toInt64.toUInt64).toInt64))])) (fun t k => XS.iushr X0.here hx rfl (hb hby at_20) rfl k) ?_
  refine own_st (T' := s₁) (g' := (mkF m 23 #[.val (.long q1), .second, .val (.long q2), .second, .val (.long q3), .second, .val (.long q4), .second, .val (.long q5), .second, .val (.int p6), .val (.long span0), .second, .unset, .unset, .unset, .unset, .unset, .unset, .unset, .unset, .unset, .unset, .unset, .unset, .unset, .unset, .unset] [(.int (63 : Int32)), (.int ((p6.toUInt32 >>> ((6 : Int32) &&& 31).toUInt32).toInt32)), (.long ((q5.toUInt64 >>> ((1 : Int32) &&& 0x3f).toInt64.toUInt64).toInt64))])) (fun t k => XS.bipush X0.here hx rfl (hb hby at_21) k) ?_
  refine own_st (T' := s₁) (g' := (mkF m 24 #[.val (.long q1), .second, .val (.long q2), .second, .val (.long q3), .second, .val (.long q4), .second, .val (.long q5), .second, .val (.int p6), .val (.long span0), .second, .unset, .unset, .unset, .unset, .unset, .unset, .unset, .unset, .unset, .unset, .unset, .unset, .unset, .unset, .unset] [(.int (((p6.toUInt32 >>> ((6 : Int32) &&& 31).toUInt32).toInt32) &&& (63 : Int32))), (.long ((q5.toUInt64 >>> ((1 : Int32) &&& 0x3f).toInt64.toUInt64).toInt64))])) (fun t k => XS.iand X0.here hx rfl (hb hby at_23) rfl k) ?_
  refine own_st (T' := s₁) (g' := (mkF m 25 #[.val (.long q1), .second, .val (.long q2), .second, .val (.long q3), .second, .val (.long q4), .second, .val (.long q5), .second, .val (.int p6), .val (.long span0), .second, .unset, .unset, .unset, .unset, .unset, .unset, .unset, .unset, .unset, .unset, .unset, .unset, .unset, .unset, .unset] [(.long ((((q5.toUInt64 >>> ((1 : Int32) &&& 0x3f).toInt64.toUInt64).toInt64).toUInt64 >>> ((((p6.toUInt32 >>> ((6 : Int32) &&& 31).toUInt32).toInt32) &&& (63 : Int32)) &&& 0x3f).toInt64.toUInt64).toInt64))])) (fun t k => XS.lushr X0.here hx rfl (hb hby at_24) rfl k) ?_
  obtain ⟨span2, hspan2_⟩ : ∃ z, z = ((((q5.toUInt64 >>> ((1 : Int32) &&& 0x3f).toInt64.toUInt64).toInt64).toUInt64 >>> ((((p6.toUInt32 >>> ((6 : Int32) &&& 31).toUInt32).toInt32) &&& (63 : Int32)) &&& 0x3f).toInt64.toUInt64).toInt64) := ⟨_, rfl⟩
  rw [← hspan2_]
  have hs2 : 0 ≤ span2.toInt := by rw [hspan2_]; exact own_sp _ _
  refine own_st (T' := s₁) (g' := (mkF m 27 #[.val (.long q1), .second, .val (.long q2), .second, .val (.long q3), .second, .val (.long q4), .second, .val (.long q5), .second, .val (.int p6), .val (.long span0), .second, .val (.long span2), .second, .unset, .unset, .unset, .unset, .unset, .unset, .unset, .unset, .unset, .unset, .unset, .unset, .unset] [])) (fun t k => XS.lstore X0.here hx rfl (hb hby at_25) rfl (l' := #[.val (.long q1), .second, .val (.long q2), .second, .val (.long q3), .second, .val (.long q4), .second, .val (.long q5), .second, .val (.int p6), .val (.long span0), .second, .val (.long span2), .second, .unset, .unset, .unset, .unset, .unset, .unset, .unset, .unset, .unset, .unset, .unset, .unset, .unset]) rfl k) ?_
  refine own_st (T' := s₁) (g' := (mkF m 29 #[.val (.long q1), .second, .val (.long q2), .second, .val (.long q3), .second, .val (.long q4), .second, .val (.long q5), .second, .val (.int p6), .val (.long span0), .second, .val (.long span2), .second, .unset, .unset, .unset, .unset, .unset, .unset, .unset, .unset, .unset, .unset, .unset, .unset, .unset] [(.long q5)])) (fun t k => XS.lload X0.here hx rfl (hb hby at_27) rfl k) ?_
  refine own_st (T' := s₁) (g' := (mkF m 31 #[.val (.long q1), .second, .val (.long q2), .second, .val (.long q3), .second, .val (.long q4), .second, .val (.long q5), .second, .val (.int p6), .val (.long span0), .second, .val (.long span2), .second, .unset, .unset, .unset, .unset, .unset, .unset, .unset, .unset, .unset, .unset, .unset, .unset, .unset] [(.long span0), (.long q5)])) (fun t k => XS.lload X0.here hx rfl (hb hby at_29) rfl k) ?_
  obtain ⟨r1, hr1⟩ : ∃ z, z = own_low q5 span0 := ⟨_, rfl⟩
  obtain ⟨_, T1, L1, hQ1, X1, st1⟩ := own_callS (y := (⟨"com/example/astraea/astraea/explicit/StateLayoutPackPinLaw", "lowFor", "(JJ)J"⟩ : MethodName)) (argsL := [(.long q5), (.long span0)]) 0 [] (own_rm1 l Z a0 hw h0 n0 Z0 q5 span0 _ hr1) X0 hx hZ hown (hw _ (List.mem_of_getElem? (i := 0) rfl)) (hw _ (List.mem_of_getElem? (i := 1) rfl)) (hw _ (List.mem_of_getElem? (i := 2) rfl)) (hw _ (List.mem_of_getElem? (i := 3) rfl)) (by decide) (by decide) (by decide) (by decide) (by decide) e0 (g := (mkF m 31 #[.val (.long q1), .second, .val (.long q2), .second, .val (.long q3), .second, .val (.long q4), .second, .val (.long q5), .second, .val (.int p6), .val (.long span0), .second, .val (.long span2), .second, .unset, .unset, .unset, .unset, .unset, .unset, .unset, .unset, .unset, .unset, .unset, .unset, .unset] [(.long span0), (.long q5)])) rfl (by rw [hml]; rfl) (lenOf own_pd13 rfl) rfl (by show 2 * 0 + _ ≤ _; exact Nat.le_of_eq rfl) (hb hby at_31)
  obtain ⟨rfl, e1, rfl⟩ := hQ1
  have X1 : Stand p l e room_1 (s.setVm s.vm) m #[(.long q1), (.long q2), (.long q3), (.long q4), (.long q5), (.int p6)] below meth c T1 [] 0 0 := X1
  refine own_st (T' := T1) (g' := (mkF m 34 #[.val (.long q1), .second, .val (.long q2), .second, .val (.long q3), .second, .val (.long q4), .second, .val (.long q5), .second, .val (.int p6), .val (.long span0), .second, .val (.long span2), .second, .unset, .unset, .unset, .unset, .unset, .unset, .unset, .unset, .unset, .unset, .unset, .unset, .unset] [(.long r1)])) st1 ?_
  refine own_st (T' := T1) (g' := (mkF m 36 #[.val (.long q1), .second, .val (.long q2), .second, .val (.long q3), .second, .val (.long q4), .second, .val (.long q5), .second, .val (.int p6), .val (.long span0), .second, .val (.long span2), .second, .val (.long r1), .second, .unset, .unset, .unset, .unset, .unset, .unset, .unset, .unset, .unset, .unset, .unset] [])) (fun t k => XS.lstore X1.here hx rfl (hb hby at_34) rfl (l' := #[.val (.long q1), .second, .val (.long q2), .second, .val (.long q3), .second, .val (.long q4), .second, .val (.long q5), .second, .val (.int p6), .val (.long span0), .second, .val (.long span2), .second, .val (.long r1), .second, .unset, .unset, .unset, .unset, .unset, .unset, .unset, .unset, .unset, .unset, .unset]) rfl k) ?_
  refine own_st (T' := T1) (g' := (mkF m 38 #[.val (.long q1), .second, .val (.long q2), .second, .val (.long q3), .second, .val (.long q4), .second, .val (.long q5), .second, .val (.int p6), .val (.long span0), .second, .val (.long span2), .second, .val (.long r1), .second, .unset, .unset, .unset, .unset, .unset, .unset, .unset, .unset, .unset, .unset, .unset] [(.long q4)])) (fun t k => XS.lload X1.here hx rfl (hb hby at_36) rfl k) ?_
  refine own_st (T' := T1) (g' := (mkF m 40 #[.val (.long q1), .second, .val (.long q2), .second, .val (.long q3), .second, .val (.long q4), .second, .val (.long q5), .second, .val (.int p6), .val (.long span0), .second, .val (.long span2), .second, .val (.long r1), .second, .unset, .unset, .unset, .unset, .unset, .unset, .unset, .unset, .unset, .unset, .unset] [(.long span2), (.long q4)])) (fun t k => XS.lload X1.here hx rfl (hb hby at_38) rfl k) ?_
  obtain ⟨r2, hr2⟩ : ∃ z, z = own_low q4 span2 := ⟨_, rfl⟩
  obtain ⟨_, T2, L2, hQ2, X2, st2⟩ := own_callS (y := (⟨"com/example/astraea/astraea/explicit/StateLayoutPackPinLaw", "lowFor", "(JJ)J"⟩ : MethodName)) (argsL := [(.long q4), (.long span2)]) 0 [] (own_rm1 l Z a0 hw h0 n0 Z0 q4 span2 _ hr2) X1 hx hZ hown (hw _ (List.mem_of_getElem? (i := 0) rfl)) (hw _ (List.mem_of_getElem? (i := 1) rfl)) (hw _ (List.mem_of_getElem? (i := 2) rfl)) (hw _ (List.mem_of_getElem? (i := 3) rfl)) (by decide) (by decide) (by decide) (by decide) (by decide) e1 (g := (mkF m 40 #[.val (.long q1), .second, .val (.long q2), .second, .val (.long q3), .second, .val (.long q4), .second, .val (.long q5), .second, .val (.int p6), .val (.long span0), .second, .val (.long span2), .second, .val (.long r1), .second, .unset, .unset, .unset, .unset, .unset, .unset, .unset, .unset, .unset, .unset, .unset] [(.long span2), (.long q4)])) rfl (by rw [hml]; rfl) (lenOf own_pd13 rfl) rfl (by show 2 * 0 + _ ≤ _; exact Nat.le_of_eq rfl) (hb hby at_40)
  obtain ⟨rfl, e2, rfl⟩ := hQ2
  have X2 : Stand p l e room_1 (s.setVm s.vm) m #[(.long q1), (.long q2), (.long q3), (.long q4), (.long q5), (.int p6)] below meth c T2 [] 0 0 := X2
  refine own_st (T' := T2) (g' := (mkF m 43 #[.val (.long q1), .second, .val (.long q2), .second, .val (.long q3), .second, .val (.long q4), .second, .val (.long q5), .second, .val (.int p6), .val (.long span0), .second, .val (.long span2), .second, .val (.long r1), .second, .unset, .unset, .unset, .unset, .unset, .unset, .unset, .unset, .unset, .unset, .unset] [(.long r2)])) st2 ?_
  refine own_st (T' := T2) (g' := (mkF m 45 #[.val (.long q1), .second, .val (.long q2), .second, .val (.long q3), .second, .val (.long q4), .second, .val (.long q5), .second, .val (.int p6), .val (.long span0), .second, .val (.long span2), .second, .val (.long r1), .second, .val (.long r2), .second, .unset, .unset, .unset, .unset, .unset, .unset, .unset, .unset, .unset] [])) (fun t k => XS.lstore X2.here hx rfl (hb hby at_43) rfl (l' := #[.val (.long q1), .second, .val (.long q2), .second, .val (.long q3), .second, .val (.long q4), .second, .val (.long q5), .second, .val (.int p6), .val (.long span0), .second, .val (.long span2), .second, .val (.long r1), .second, .val (.long r2), .second, .unset, .unset, .unset, .unset, .unset, .unset, .unset, .unset, .unset]) rfl k) ?_
  refine own_st (T' := T2) (g' := (mkF m 47 #[.val (.long q1), .second, .val (.long q2), .second, .val (.long q3), .second, .val (.long q4), .second, .val (.long q5), .second, .val (.int p6), .val (.long span0), .second, .val (.long span2), .second, .val (.long r1), .second, .val (.long r2), .second, .unset, .unset, .unset, .unset, .unset, .unset, .unset, .unset, .unset] [(.int p6)])) (fun t k => XS.iload X2.here hx rfl (hb hby at_45) rfl k) ?_
  refine own_st (T' := T2) (g' := (mkF m 49 #[.val (.long q1), .second, .val (.long q2), .second, .val (.long q3), .second, .val (.long q4), .second, .val (.long q5), .second, .val (.int p6), .val (.long span0), .second, .val (.long span2), .second, .val (.long r1), .second, .val (.long r2), .second, .unset, .unset, .unset, .unset, .unset, .unset, .unset, .unset, .unset] [(.int (12 : Int32)), (.int p6)])) (fun t k => XS.bipush X2.here hx rfl (hb hby at_47) k) ?_
  refine own_st (T' := T2) (g' := (mkF m 50 #[.val (.long q1), .second, .val (.long q2), .second, .val (.long q3), .second, .val (.long q4), .second, .val (.long q5), .second, .val (.int p6), .val (.long span0), .second, .val (.long span2), .second, .val (.long r1), .second, .val (.long r2), .second, .unset, .unset, .unset, .unset, .unset, .unset, .unset, .unset, .unset] [(.int ((p6.toUInt32 >>> ((12 : Int32) &&& 31).toUInt32).toInt32))])) (fun t k => XS.iushr X2.here hx rfl (hb hby at_49) rfl k) ?_
  refine own_st (T' := T2) (g' := (mkF m 51 #[.val (.long q1), .second, .val (.long q2), .second, .val (.long q3), .second, .val (.long q4), .second, .val (.long q5), .second, .val (.int p6), .val (.long span0), .second, .val (.long span2), .second, .val (.long r1), .second, .val (.long r2), .second, .unset, .unset, .unset, .unset, .unset, .unset, .unset, .unset, .unset] [(.int (3 : Int32)), (.int ((p6.toUInt32 >>> ((12 : Int32) &&& 31).toUInt32).toInt32))])) (fun t k => XS.iconst X2.here hx rfl (hb hby at_50) k) ?_
  refine own_st (T' := T2) (g' := (mkF m 52 #[.val (.long q1), .second, .val (.long q2), .second, .val (.long q3), .second, .val (.long q4), .second, .val (.long q5), .second, .val (.int p6), .val (.long span0), .second, .val (.long span2), .second, .val (.long r1), .second, .val (.long r2), .second, .unset, .unset, .unset, .unset, .unset, .unset, .unset, .unset, .unset] [(.int (((p6.toUInt32 >>> ((12 : Int32) &&& 31).toUInt32).toInt32) &&& (3 : Int32)))])) (fun t k => XS.iand X2.here hx rfl (hb hby at_51) rfl k) ?_
  obtain ⟨qa, hqa_⟩ : ∃ z, z = (((p6.toUInt32 >>> ((12 : Int32) &&& 31).toUInt32).toInt32) &&& (3 : Int32)) := ⟨_, rfl⟩
  rw [← hqa_]
  have hqa : 0 ≤ qa.toInt ∧ qa.toInt ≤ 3 := by rw [hqa_]; exact c_and _ 3 (by decide)
  refine own_st (T' := T2) (g' := (mkF m 54 #[.val (.long q1), .second, .val (.long q2), .second, .val (.long q3), .second, .val (.long q4), .second, .val (.long q5), .second, .val (.int p6), .val (.long span0), .second, .val (.long span2), .second, .val (.long r1), .second, .val (.long r2), .second, .val (.int qa), .unset, .unset, .unset, .unset, .unset, .unset, .unset, .unset] [])) (fun t k => XS.istore X2.here hx rfl (hb hby at_52) rfl (l' := #[.val (.long q1), .second, .val (.long q2), .second, .val (.long q3), .second, .val (.long q4), .second, .val (.long q5), .second, .val (.int p6), .val (.long span0), .second, .val (.long span2), .second, .val (.long r1), .second, .val (.long r2), .second, .val (.int qa), .unset, .unset, .unset, .unset, .unset, .unset, .unset, .unset]) rfl k) ?_
  obtain ⟨T3, h3, X3, e3, E3, A3, D3, -, st3⟩ := newO X2 hx hZ hown (hw _ (List.mem_of_getElem? (i := 5) rfl)) (hw _ (List.mem_of_getElem? (i := 6) rfl)) (hw _ (List.mem_of_getElem? (i := 7) rfl)) e2 (g := (mkF m 54 #[.val (.long q1), .second, .val (.long q2), .second, .val (.long q3), .second, .val (.long q4), .second, .val (.long q5), .second, .val (.int p6), .val (.long span0), .second, .val (.long span2), .second, .val (.long r1), .second, .val (.long r2), .second, .val (.int qa), .unset, .unset, .unset, .unset, .unset, .unset, .unset, .unset] [])) rfl (hb hby at_54) (by decide) (by decide)
  obtain ⟨b3, gb3⟩ : ∃ z, z = h0.size := ⟨_, rfl⟩
  rw [← gb3] at A3 D3 st3
  have g_b3 : n0 ≤ b3 := Nat.le_trans Z0 (Nat.le_of_eq gb3.symm)
  have Z3 : n0 ≤ h3.size := Nat.le_trans Z0 E3.1
  have hkS := Nat.le_trans hkS E3.1
  have O := O.ext E3
  have E_b3 := A3
  have F_modCount_b3 : Fld Z h3 b3 "java/util/AbstractList" "modCount" "I" (.int (0 : Int32)) := D3 (Or.inl (hw _ (List.mem_of_getElem? (i := 27) rfl))) (ty := .int) (by decide)
  have F_elementData_b3 : Fld Z h3 b3 "java/util/ArrayList" "elementData" "[Ljava/lang/Object;" .null := D3 (Or.inl (hw _ (List.mem_of_getElem? (i := 30) rfl))) (ty := (.array (.object "java/lang/Object"))) (by decide)
  have F_size_b3 : Fld Z h3 b3 "java/util/ArrayList" "size" "I" (.int (0 : Int32)) := D3 (Or.inl (hw _ (List.mem_of_getElem? (i := 74) rfl))) (ty := .int) (by decide)
  have X3 : Stand p l e room_1 (s.setVm s.vm) m #[(.long q1), (.long q2), (.long q3), (.long q4), (.long q5), (.int p6)] below meth c T3 [] 1 3 := X3
  refine own_st (T' := T3) (g' := (mkF m 57 #[.val (.long q1), .second, .val (.long q2), .second, .val (.long q3), .second, .val (.long q4), .second, .val (.long q5), .second, .val (.int p6), .val (.long span0), .second, .val (.long span2), .second, .val (.long r1), .second, .val (.long r2), .second, .val (.int qa), .unset, .unset, .unset, .unset, .unset, .unset, .unset, .unset] [(.ref b3)])) st3 ?_
  refine own_st (T' := T3) (g' := (mkF m 58 #[.val (.long q1), .second, .val (.long q2), .second, .val (.long q3), .second, .val (.long q4), .second, .val (.long q5), .second, .val (.int p6), .val (.long span0), .second, .val (.long span2), .second, .val (.long r1), .second, .val (.long r2), .second, .val (.int qa), .unset, .unset, .unset, .unset, .unset, .unset, .unset, .unset] [(.ref b3), (.ref b3)])) (fun t k => XS.dup X3.here hx rfl (hb hby at_57) rfl rfl k) ?_
  obtain ⟨_, T4, L4, hQ4, X4, st4⟩ := own_callI (y := (⟨"java/util/ArrayList", "<init>", "()V"⟩ : MethodName)) (argsL := []) 1 [(.ref b3)] (own_rm2 l Z a0 hw h3 n0 Z3 b3 O s_DC S_DC k_DC A_DC (.int (0 : Int32)) .null (.int (0 : Int32)) E_b3 F_modCount_b3 F_elementData_b3 F_size_b3 g_b3) X3 hx hZ hown rfl (hw _ (List.mem_of_getElem? (i := 8) rfl)) (hw _ (List.mem_of_getElem? (i := 9) rfl)) (hw _ (List.mem_of_getElem? (i := 10) rfl)) (hw _ (List.mem_of_getElem? (i := 7) rfl)) (by decide) (by decide) (by decide) (by decide) (by decide) e3 (g := (mkF m 58 #[.val (.long q1), .second, .val (.long q2), .second, .val (.long q3), .second, .val (.long q4), .second, .val (.long q5), .second, .val (.int p6), .val (.long span0), .second, .val (.long span2), .second, .val (.long r1), .second, .val (.long r2), .second, .val (.int qa), .unset, .unset, .unset, .unset, .unset, .unset, .unset, .unset] [(.ref b3), (.ref b3)])) rfl (by rw [hml]; rfl) (lenOf own_pd0 rfl) rfl (by show 2 * 0 + _ ≤ _; exact Nat.le_of_eq rfl) (hb hby at_58)
  obtain ⟨rfl, N4q, Kq4, E_b3, F_modCount_b3, F_elementData_b3, F_size_b3⟩ := hQ4
  have Z4 : n0 ≤ T4.heap.size := Nat.le_trans Z3 Kq4.1
  have hkS := Nat.le_trans hkS Kq4.1
  have O := O.keep Kq4 (allS g_b3 all0)
  have N4 := Fr.app N0 N4q
  generalize hlc4 : ([] ++ L4 : List Loc) = lc4 at X4 N4
  have X4 : Stand p l e room_1 (s.setVm s.vm) m #[(.long q1), (.long q2), (.long q3), (.long q4), (.long q5), (.int p6)] below meth c T4 lc4 1 3 := X4
  refine own_st (T' := T4) (g' := (mkF m 61 #[.val (.long q1), .second, .val (.long q2), .second, .val (.long q3), .second, .val (.long q4), .second, .val (.long q5), .second, .val (.int p6), .val (.long span0), .second, .val (.long span2), .second, .val (.long r1), .second, .val (.long r2), .second, .val (.int qa), .unset, .unset, .unset, .unset, .unset, .unset, .unset, .unset] [(.ref b3)])) st4 ?_
  refine own_st (T' := T4) (g' := (mkF m 63 #[.val (.long q1), .second, .val (.long q2), .second, .val (.long q3), .second, .val (.long q4), .second, .val (.long q5), .second, .val (.int p6), .val (.long span0), .second, .val (.long span2), .second, .val (.long r1), .second, .val (.long r2), .second, .val (.int qa), .val (.ref b3), .unset, .unset, .unset, .unset, .unset, .unset, .unset] [])) (fun t k => XS.astore X4.here hx rfl (hb hby at_61) rfl rfl (l' := #[.val (.long q1), .second, .val (.long q2), .second, .val (.long q3), .second, .val (.long q4), .second, .val (.long q5), .second, .val (.int p6), .val (.long span0), .second, .val (.long span2), .second, .val (.long r1), .second, .val (.long r2), .second, .val (.int qa), .val (.ref b3), .unset, .unset, .unset, .unset, .unset, .unset, .unset]) rfl k) ?_
  refine own_st (T' := T4) (g' := (mkF m 65 #[.val (.long q1), .second, .val (.long q2), .second, .val (.long q3), .second, .val (.long q4), .second, .val (.long q5), .second, .val (.int p6), .val (.long span0), .second, .val (.long span2), .second, .val (.long r1), .second, .val (.long r2), .second, .val (.int qa), .val (.ref b3), .unset, .unset, .unset, .unset, .unset, .unset, .unset] [(.ref b3)])) (fun t k => XS.aload X4.here hx rfl (hb hby at_63) rfl rfl k) ?_
  obtain ⟨T5, h5, X5, e5, E5, A5, D5, -, st5⟩ := newO X4 hx hZ hown (hw _ (List.mem_of_getElem? (i := 31) rfl)) (hw _ (List.mem_of_getElem? (i := 32) rfl)) (hw _ (List.mem_of_getElem? (i := 33) rfl)) rfl (g := (mkF m 65 #[.val (.long q1), .second, .val (.long q2), .second, .val (.long q3), .second, .val (.long q4), .second, .val (.long q5), .second, .val (.int p6), .val (.long span0), .second, .val (.long span2), .second, .val (.long r1), .second, .val (.long r2), .second, .val (.int qa), .val (.ref b3), .unset, .unset, .unset, .unset, .unset, .unset, .unset] [(.ref b3)])) rfl (hb hby at_65) (by decide) (by decide)
  obtain ⟨b5, gb5⟩ : ∃ z, z = T4.heap.size := ⟨_, rfl⟩
  rw [← gb5] at A5 D5 st5
  have ne_b3_b5 : b3 ≠ b5 := by rw [gb5]; exact Nat.ne_of_lt E_b3.lt
  have g_b5 : n0 ≤ b5 := Nat.le_trans Z4 (Nat.le_of_eq gb5.symm)
  have Z5 : n0 ≤ h5.size := Nat.le_trans Z4 E5.1
  have hkS := Nat.le_trans hkS E5.1
  have O := O.ext E5
  have E_b3 := E_b3.ext E5
  have F_modCount_b3 := F_modCount_b3.ext E5
  have F_elementData_b3 := F_elementData_b3.ext E5
  have F_size_b3 := F_size_b3.ext E5
  have E_b5 := A5
  have F_name_b5 : Fld Z h5 b5 "com/example/astraea/astraea/lang/Variable" "name" "Ljava/lang/String;" .null := D5 (Or.inr (hw _ (List.mem_of_getElem? (i := 55) rfl))) (ty := (.object "java/lang/String")) (by decide)
  have F_type_b5 : Fld Z h5 b5 "com/example/astraea/astraea/lang/Variable" "type" "Lcom/example/astraea/astraea/lang/Type;" .null := D5 (Or.inr (hw _ (List.mem_of_getElem? (i := 57) rfl))) (ty := (.object "com/example/astraea/astraea/lang/Type")) (by decide)
  have F_bounded_b5 : Fld Z h5 b5 "com/example/astraea/astraea/lang/Variable" "bounded" "Z" (.int (0 : Int32)) := D5 (Or.inr (hw _ (List.mem_of_getElem? (i := 59) rfl))) (ty := .boolean) (by decide)
  have F_lower_b5 : Fld Z h5 b5 "com/example/astraea/astraea/lang/Variable" "lower" "J" (.long (0 : Int64)) := D5 (Or.inr (hw _ (List.mem_of_getElem? (i := 61) rfl))) (ty := .long) (by decide)
  have F_upper_b5 : Fld Z h5 b5 "com/example/astraea/astraea/lang/Variable" "upper" "J" (.long (0 : Int64)) := D5 (Or.inr (hw _ (List.mem_of_getElem? (i := 63) rfl))) (ty := .long) (by decide)
  have F_position_b5 : Fld Z h5 b5 "com/example/astraea/astraea/lang/Variable" "position" "Lcom/example/astraea/astraea/lang/Position;" .null := D5 (Or.inr (hw _ (List.mem_of_getElem? (i := 65) rfl))) (ty := (.object "com/example/astraea/astraea/lang/Position")) (by decide)
  have X5 : Stand p l e room_1 (s.setVm s.vm) m #[(.long q1), (.long q2), (.long q3), (.long q4), (.long q5), (.int p6)] below meth c T5 lc4 2 9 := X5
  refine own_st (T' := T5) (g' := (mkF m 68 #[.val (.long q1), .second, .val (.long q2), .second, .val (.long q3), .second, .val (.long q4), .second, .val (.long q5), .second, .val (.int p6), .val (.long span0), .second, .val (.long span2), .second, .val (.long r1), .second, .val (.long r2), .second, .val (.int qa), .val (.ref b3), .unset, .unset, .unset, .unset, .unset, .unset, .unset] [(.ref b5), (.ref b3)])) st5 ?_
  refine own_st (T' := T5) (g' := (mkF m 69 #[.val (.long q1), .second, .val (.long q2), .second, .val (.long q3), .second, .val (.long q4), .second, .val (.long q5), .second, .val (.int p6), .val (.long span0), .second, .val (.long span2), .second, .val (.long r1), .second, .val (.long r2), .second, .val (.int qa), .val (.ref b3), .unset, .unset, .unset, .unset, .unset, .unset, .unset] [(.ref b5), (.ref b5), (.ref b3)])) (fun t k => XS.dup X5.here hx rfl (hb hby at_68) rfl rfl k) ?_
  obtain ⟨a6, T6, h6, k6, X6, e6, E6, hS, hkN6, hZ, hown, st6⟩ := ldcS X5 hx hZ hown (hw _ (List.mem_of_getElem? (i := 34) rfl)) (own_wS hw) e5 hS hkS (g := (mkF m 69 #[.val (.long q1), .second, .val (.long q2), .second, .val (.long q3), .second, .val (.long q4), .second, .val (.long q5), .second, .val (.int p6), .val (.long span0), .second, .val (.long span2), .second, .val (.long r1), .second, .val (.long r2), .second, .val (.int qa), .val (.ref b3), .unset, .unset, .unset, .unset, .unset, .unset, .unset] [(.ref b5), (.ref b5), (.ref b3)])) rfl (hb hby at_69) (n := 4) (by decide) (by decide) (by decide) (by decide)
  have Z6 : n0 ≤ h6.size := Nat.le_trans Z5 E6.1
  have hkS := Nat.le_trans hkS E6.1
  have O := O.ext E6
  have E_b3 := E_b3.ext E6
  have F_modCount_b3 := F_modCount_b3.ext E6
  have F_elementData_b3 := F_elementData_b3.ext E6
  have F_size_b3 := F_size_b3.ext E6
  have E_b5 := E_b5.ext E6
  have F_name_b5 := F_name_b5.ext E6
  have F_type_b5 := F_type_b5.ext E6
  have F_bounded_b5 := F_bounded_b5.ext E6
  have F_lower_b5 := F_lower_b5.ext E6
  have F_upper_b5 := F_upper_b5.ext E6
  have F_position_b5 := F_position_b5.ext E6
  have hkS := hkN6
  have X6 : Stand p l e room_1 (s.setVm T6.vm) m #[(.long q1), (.long q2), (.long q3), (.long q4), (.long q5), (.int p6)] below meth c T6 lc4 4 17 := X6
  refine own_st (T' := T6) (g' := (mkF m 71 #[.val (.long q1), .second, .val (.long q2), .second, .val (.long q3), .second, .val (.long q4), .second, .val (.long q5), .second, .val (.int p6), .val (.long span0), .second, .val (.long span2), .second, .val (.long r1), .second, .val (.long r2), .second, .val (.int qa), .val (.ref b3), .unset, .unset, .unset, .unset, .unset, .unset, .unset] [(.ref a6), (.ref b5), (.ref b5), (.ref b3)])) st6 ?_
  obtain ⟨T7, X7, e7, st7⟩ := getS2 X6 hx hZ hown (host := "") (Or.inl (hw _ (List.mem_of_getElem? (i := 42) rfl))) Via.refl e6 (S_INT.ext O.2) (g := (mkF m 71 #[.val (.long q1), .second, .val (.long q2), .second, .val (.long q3), .second, .val (.long q4), .second, .val (.long q5), .second, .val (.int p6), .val (.long span0), .second, .val (.long span2), .second, .val (.long r1), .second, .val (.long r2), .second, .val (.int qa), .val (.ref b3), .unset, .unset, .unset, .unset, .unset, .unset, .unset] [(.ref a6), (.ref b5), (.ref b5), (.ref b3)])) rfl (hb hby at_71)
  refine own_st (T' := T7) (g' := (mkF m 74 #[.val (.long q1), .second, .val (.long q2), .second, .val (.long q3), .second, .val (.long q4), .second, .val (.long q5), .second, .val (.int p6), .val (.long span0), .second, .val (.long span2), .second, .val (.long r1), .second, .val (.long r2), .second, .val (.int qa), .val (.ref b3), .unset, .unset, .unset, .unset, .unset, .unset, .unset] [(.ref s_INT), (.ref a6), (.ref b5), (.ref b5), (.ref b3)])) st7 ?_
  refine own_st (T' := T7) (g' := (mkF m 75 #[.val (.long q1), .second, .val (.long q2), .second, .val (.long q3), .second, .val (.long q4), .second, .val (.long q5), .second, .val (.int p6), .val (.long span0), .second, .val (.long span2), .second, .val (.long r1), .second, .val (.long r2), .second, .val (.int qa), .val (.ref b3), .unset, .unset, .unset, .unset, .unset, .unset, .unset] [(.int (1 : Int32)), (.ref s_INT), (.ref a6), (.ref b5), (.ref b5), (.ref b3)])) (fun t k => XS.iconst X7.here hx rfl (hb hby at_74) k) ?_
  refine own_st (T' := T7) (g' := (mkF m 77 #[.val (.long q1), .second, .val (.long q2), .second, .val (.long q3), .second, .val (.long q4), .second, .val (.long q5), .second, .val (.int p6), .val (.long span0), .second, .val (.long span2), .second, .val (.long r1), .second, .val (.long r2), .second, .val (.int qa), .val (.ref b3), .unset, .unset, .unset, .unset, .unset, .unset, .unset] [(.long r1), (.int (1 : Int32)), (.ref s_INT), (.ref a6), (.ref b5), (.ref b5), (.ref b3)])) (fun t k => XS.lload X7.here hx rfl (hb hby at_75) rfl k) ?_
  refine own_st (T' := T7) (g' := (mkF m 79 #[.val (.long q1), .second, .val (.long q2), .second, .val (.long q3), .second, .val (.long q4), .second, .val (.long q5), .second, .val (.int p6), .val (.long span0), .second, .val (.long span2), .second, .val (.long r1), .second, .val (.long r2), .second, .val (.int qa), .val (.ref b3), .unset, .unset, .unset, .unset, .unset, .unset, .unset] [(.long r1), (.long r1), (.int (1 : Int32)), (.ref s_INT), (.ref a6), (.ref b5), (.ref b5), (.ref b3)])) (fun t k => XS.lload X7.here hx rfl (hb hby at_77) rfl k) ?_
  refine own_st (T' := T7) (g' := (mkF m 81 #[.val (.long q1), .second, .val (.long q2), .second, .val (.long q3), .second, .val (.long q4), .second, .val (.long q5), .second, .val (.int p6), .val (.long span0), .second, .val (.long span2), .second, .val (.long r1), .second, .val (.long r2), .second, .val (.int qa), .val (.ref b3), .unset, .unset, .unset, .unset, .unset, .unset, .unset] [(.long span0), (.long r1), (.long r1), (.int (1 : Int32)), (.ref s_INT), (.ref a6), (.ref b5), (.ref b5), (.ref b3)])) (fun t k => XS.lload X7.here hx rfl (hb hby at_79) rfl k) ?_
  refine own_st (T' := T7) (g' := (mkF m 82 #[.val (.long q1), .second, .val (.long q2), .second, .val (.long q3), .second, .val (.long q4), .second, .val (.long q5), .second, .val (.int p6), .val (.long span0), .second, .val (.long span2), .second, .val (.long r1), .second, .val (.long r2), .second, .val (.int qa), .val (.ref b3), .unset, .unset, .unset, .unset, .unset, .unset, .unset] [(.long (r1 + span0)), (.long r1), (.int (1 : Int32)), (.ref s_INT), (.ref a6), (.ref b5), (.ref b5), (.ref b3)])) (fun t k => XS.ladd X7.here hx rfl (hb hby at_81) rfl k) ?_
  refine own_st (T' := T7) (g' := (mkF m 83 #[.val (.long q1), .second, .val (.long q2), .second, .val (.long q3), .second, .val (.long q4), .second, .val (.long q5), .second, .val (.int p6), .val (.long span0), .second, .val (.long span2), .second, .val (.long r1), .second, .val (.long r2), .second, .val (.int qa), .val (.ref b3), .unset, .unset, .unset, .unset, .unset, .unset, .unset] [.null, (.long (r1 + span0)), (.long r1), (.int (1 : Int32)), (.ref s_INT), (.ref a6), (.ref b5), (.ref b5), (.ref b3)])) (fun t k => XS.aconstNull X7.here hx rfl (hb hby at_82) k) ?_
  obtain ⟨_, T8, L8, hQ8, X8, st8⟩ := own_callI (y := (⟨"com/example/astraea/astraea/lang/Variable", "<init>", "(Ljava/lang/String;Lcom/example/astraea/astraea/lang/Type;ZJJLcom/example/astraea/astraea/lang/Position;)V"⟩ : MethodName)) (argsL := [(.ref a6), (.ref s_INT), (.int (1 : Int32)), (.long r1), (.long (r1 + span0)), .null]) 2 [(.ref b5), (.ref b3)] (own_rm6 l Z a0 hw h6 n0 Z6 b5 a6 s_INT (1 : Int32) r1 (r1 + span0) E_b5 g_b5 (Or.inr rfl) _ F_name_b5 _ F_type_b5 _ F_bounded_b5 _ F_lower_b5 _ F_upper_b5 _ F_position_b5) X7 hx hZ hown rfl (hw _ (List.mem_of_getElem? (i := 45) rfl)) (hw _ (List.mem_of_getElem? (i := 46) rfl)) (hw _ (List.mem_of_getElem? (i := 47) rfl)) (hw _ (List.mem_of_getElem? (i := 33) rfl)) (by decide) (by decide) (by decide) (by decide) (by decide) e7 (g := (mkF m 83 #[.val (.long q1), .second, .val (.long q2), .second, .val (.long q3), .second, .val (.long q4), .second, .val (.long q5), .second, .val (.int p6), .val (.long span0), .second, .val (.long span2), .second, .val (.long r1), .second, .val (.long r2), .second, .val (.int qa), .val (.ref b3), .unset, .unset, .unset, .unset, .unset, .unset, .unset] [.null, (.long (r1 + span0)), (.long r1), (.int (1 : Int32)), (.ref s_INT), (.ref a6), (.ref b5), (.ref b5), (.ref b3)])) rfl (by rw [hml]; rfl) (lenOf own_pd14 rfl) rfl (by show 2 * 0 + _ ≤ _; exact Nat.le_of_eq rfl) (hb hby at_83)
  obtain ⟨rfl, N8q, Kq8, E_b5, F_bounded_b5, F_lower_b5, F_upper_b5⟩ := hQ8
  have Z8 : n0 ≤ T8.heap.size := Nat.le_trans Z6 Kq8.1
  have hkS := Nat.le_trans hkS Kq8.1
  have O := O.keep Kq8 (allS g_b5 all0)
  have E_b3 := E_b3.keep Kq8
  have F_modCount_b3 := F_modCount_b3.keep Kq8 (ninS ne_b3_b5 nin0)
  have F_elementData_b3 := F_elementData_b3.keep Kq8 (ninS ne_b3_b5 nin0)
  have F_size_b3 := F_size_b3.keep Kq8 (ninS ne_b3_b5 nin0)
  have N8 := Fr.app N4 N8q
  generalize hlc8 : (lc4 ++ L8 : List Loc) = lc8 at X8 N8
  have X8 : Stand p l e room_1 (s.setVm T6.vm) m #[(.long q1), (.long q2), (.long q3), (.long q4), (.long q5), (.int p6)] below meth c T8 lc8 4 17 := X8
  refine own_st (T' := T8) (g' := (mkF m 86 #[.val (.long q1), .second, .val (.long q2), .second, .val (.long q3), .second, .val (.long q4), .second, .val (.long q5), .second, .val (.int p6), .val (.long span0), .second, .val (.long span2), .second, .val (.long r1), .second, .val (.long r2), .second, .val (.int qa), .val (.ref b3), .unset, .unset, .unset, .unset, .unset, .unset, .unset] [(.ref b5), (.ref b3)])) st8 ?_
  have ltA9 := E_b3.lt
  have ltB9_b5 := E_b5.lt
  obtain ⟨_, T9, L9, hQ9, X9, st9⟩ := own_callV (y := (⟨"java/util/ArrayList", "add", "(Ljava/lang/Object;)Z"⟩ : MethodName)) (z := (⟨"java/util/ArrayList", "add", "(Ljava/lang/Object;)Z"⟩ : MethodName)) (argsL := [(.ref b5)]) 0 [] (K := "java/util/ArrayList") (own_rm8n0 l Z a0 hw T8.heap n0 Z8 b3 b5 O s_DC S_DC k_DC A_DC (0 : Int32) E_b5 (Ne.symm ne_b3_b5) E_b3 F_modCount_b3 F_elementData_b3 F_size_b3 g_b3) X8 hx hZ hown (hw _ (List.mem_of_getElem? (i := 66) rfl)) (hw _ (List.mem_of_getElem? (i := 67) rfl)) (notFace_of_selects (args := #[]) (mvT hZ (hw _ (List.mem_of_getElem? (i := 69) rfl)))) (hw _ (List.mem_of_getElem? (i := 69) rfl)) (hw _ (List.mem_of_getElem? (i := 68) rfl)) (hw _ (List.mem_of_getElem? (i := 70) rfl)) (hw _ (List.mem_of_getElem? (i := 7) rfl)) (by decide) (by decide) (by decide) (by decide) (by decide) rfl E_b3 (g := (mkF m 86 #[.val (.long q1), .second, .val (.long q2), .second, .val (.long q3), .second, .val (.long q4), .second, .val (.long q5), .second, .val (.int p6), .val (.long span0), .second, .val (.long span2), .second, .val (.long r1), .second, .val (.long r2), .second, .val (.int qa), .val (.ref b3), .unset, .unset, .unset, .unset, .unset, .unset, .unset] [(.ref b5), (.ref b3)])) rfl (by rw [hml]; rfl) (lenOf own_pd15 rfl) rfl (by show 2 * 0 + _ ≤ _; exact Nat.le_of_eq rfl) (hb hby at_86)
  obtain ⟨rfl, N9q, O, Kq9, o9, k9, sz_o9, ⟨E_b3, F_modCount_b3, F_elementData_b3, F_size_b3⟩, V_o9, OV_o9⟩ := hQ9
  have Z9 : n0 ≤ T9.heap.size := Nat.le_trans Z8 Kq9.1
  have hkS := Nat.le_trans hkS Kq9.1
  have E_b5 := E_b5.keep Kq9
  have F_bounded_b5 := F_bounded_b5.keep Kq9 (ninS (Ne.symm ne_b3_b5) nin0)
  have F_lower_b5 := F_lower_b5.keep Kq9 (ninS (Ne.symm ne_b3_b5) nin0)
  have F_upper_b5 := F_upper_b5.keep Kq9 (ninS (Ne.symm ne_b3_b5) nin0)
  have N9 := Fr.app N8 N9q
  generalize hlc9 : (lc8 ++ L9 : List Loc) = lc9 at X9 N9
  have X9 : Stand p l e room_1 (s.setVm T6.vm) m #[(.long q1), (.long q2), (.long q3), (.long q4), (.long q5), (.int p6)] below meth c T9 lc9 5 27 := X9
  have g_o9 : n0 ≤ o9 := Nat.le_trans Z8 sz_o9
  have ne_b3_o9 : b3 ≠ o9 := Nat.ne_of_lt (Nat.lt_of_lt_of_le ltA9 sz_o9)
  have ne_b5_o9 : b5 ≠ o9 := Nat.ne_of_lt (Nat.lt_of_lt_of_le ltB9_b5 sz_o9)
  refine own_st (T' := T9) (g' := (mkF m 89 #[.val (.long q1), .second, .val (.long q2), .second, .val (.long q3), .second, .val (.long q4), .second, .val (.long q5), .second, .val (.int p6), .val (.long span0), .second, .val (.long span2), .second, .val (.long r1), .second, .val (.long r2), .second, .val (.int qa), .val (.ref b3), .unset, .unset, .unset, .unset, .unset, .unset, .unset] [(.int (1 : Int32))])) st9 ?_
  refine own_st (T' := T9) (g' := (mkF m 90 #[.val (.long q1), .second, .val (.long q2), .second, .val (.long q3), .second, .val (.long q4), .second, .val (.long q5), .second, .val (.int p6), .val (.long span0), .second, .val (.long span2), .second, .val (.long r1), .second, .val (.long r2), .second, .val (.int qa), .val (.ref b3), .unset, .unset, .unset, .unset, .unset, .unset, .unset] [])) (fun t k => XS.pop X9.here hx rfl (hb hby at_89) rfl rfl k) ?_
  refine own_st (T' := T9) (g' := (mkF m 92 #[.val (.long q1), .second, .val (.long q2), .second, .val (.long q3), .second, .val (.long q4), .second, .val (.long q5), .second, .val (.int p6), .val (.long span0), .second, .val (.long span2), .second, .val (.long r1), .second, .val (.long r2), .second, .val (.int qa), .val (.ref b3), .unset, .unset, .unset, .unset, .unset, .unset, .unset] [(.ref b3)])) (fun t k => XS.aload X9.here hx rfl (hb hby at_90) rfl rfl k) ?_
  obtain ⟨T10, h10, X10, e10, E10, A10, D10, -, st10⟩ := newO X9 hx hZ hown (hw _ (List.mem_of_getElem? (i := 31) rfl)) (hw _ (List.mem_of_getElem? (i := 32) rfl)) (hw _ (List.mem_of_getElem? (i := 33) rfl)) rfl (g := (mkF m 92 #[.val (.long q1), .second, .val (.long q2), .second, .val (.long q3), .second, .val (.long q4), .second, .val (.long q5), .second, .val (.int p6), .val (.long span0), .second, .val (.long span2), .second, .val (.long r1), .second, .val (.long r2), .second, .val (.int qa), .val (.ref b3), .unset, .unset, .unset, .unset, .unset, .unset, .unset] [(.ref b3)])) rfl (hb hby at_92) (by decide) (by decide)
  obtain ⟨b10, gb10⟩ : ∃ z, z = T9.heap.size := ⟨_, rfl⟩
  rw [← gb10] at A10 D10 st10
  have ne_b3_b10 : b3 ≠ b10 := by rw [gb10]; exact Nat.ne_of_lt E_b3.lt
  have ne_b5_b10 : b5 ≠ b10 := by rw [gb10]; exact Nat.ne_of_lt E_b5.lt
  have ne_o9_b10 : o9 ≠ b10 := by rw [gb10]; exact Nat.ne_of_lt V_o9.lt
  have g_b10 : n0 ≤ b10 := Nat.le_trans Z9 (Nat.le_of_eq gb10.symm)
  have Z10 : n0 ≤ h10.size := Nat.le_trans Z9 E10.1
  have hkS := Nat.le_trans hkS E10.1
  have E_b3 := E_b3.ext E10
  have F_modCount_b3 := F_modCount_b3.ext E10
  have F_elementData_b3 := F_elementData_b3.ext E10
  have F_size_b3 := F_size_b3.ext E10
  have E_b5 := E_b5.ext E10
  have F_bounded_b5 := F_bounded_b5.ext E10
  have F_lower_b5 := F_lower_b5.ext E10
  have F_upper_b5 := F_upper_b5.ext E10
  have V_o9 := V_o9.ext E10
  have O := O.ext E10
  have E_b10 := A10
  have F_name_b10 : Fld Z h10 b10 "com/example/astraea/astraea/lang/Variable" "name" "Ljava/lang/String;" .null := D10 (Or.inr (hw _ (List.mem_of_getElem? (i := 55) rfl))) (ty := (.object "java/lang/String")) (by decide)
  have F_type_b10 : Fld Z h10 b10 "com/example/astraea/astraea/lang/Variable" "type" "Lcom/example/astraea/astraea/lang/Type;" .null := D10 (Or.inr (hw _ (List.mem_of_getElem? (i := 57) rfl))) (ty := (.object "com/example/astraea/astraea/lang/Type")) (by decide)
  have F_bounded_b10 : Fld Z h10 b10 "com/example/astraea/astraea/lang/Variable" "bounded" "Z" (.int (0 : Int32)) := D10 (Or.inr (hw _ (List.mem_of_getElem? (i := 59) rfl))) (ty := .boolean) (by decide)
  have F_lower_b10 : Fld Z h10 b10 "com/example/astraea/astraea/lang/Variable" "lower" "J" (.long (0 : Int64)) := D10 (Or.inr (hw _ (List.mem_of_getElem? (i := 61) rfl))) (ty := .long) (by decide)
  have F_upper_b10 : Fld Z h10 b10 "com/example/astraea/astraea/lang/Variable" "upper" "J" (.long (0 : Int64)) := D10 (Or.inr (hw _ (List.mem_of_getElem? (i := 63) rfl))) (ty := .long) (by decide)
  have F_position_b10 : Fld Z h10 b10 "com/example/astraea/astraea/lang/Variable" "position" "Lcom/example/astraea/astraea/lang/Position;" .null := D10 (Or.inr (hw _ (List.mem_of_getElem? (i := 65) rfl))) (ty := (.object "com/example/astraea/astraea/lang/Position")) (by decide)
  have X10 : Stand p l e room_1 (s.setVm T6.vm) m #[(.long q1), (.long q2), (.long q3), (.long q4), (.long q5), (.int p6)] below meth c T10 lc9 6 33 := X10
  refine own_st (T' := T10) (g' := (mkF m 95 #[.val (.long q1), .second, .val (.long q2), .second, .val (.long q3), .second, .val (.long q4), .second, .val (.long q5), .second, .val (.int p6), .val (.long span0), .second, .val (.long span2), .second, .val (.long r1), .second, .val (.long r2), .second, .val (.int qa), .val (.ref b3), .unset, .unset, .unset, .unset, .unset, .unset, .unset] [(.ref b10), (.ref b3)])) st10 ?_
  refine own_st (T' := T10) (g' := (mkF m 96 #[.val (.long q1), .second, .val (.long q2), .second, .val (.long q3), .second, .val (.long q4), .second, .val (.long q5), .second, .val (.int p6), .val (.long span0), .second, .val (.long span2), .second, .val (.long r1), .second, .val (.long r2), .second, .val (.int qa), .val (.ref b3), .unset, .unset, .unset, .unset, .unset, .unset, .unset] [(.ref b10), (.ref b10), (.ref b3)])) (fun t k => XS.dup X10.here hx rfl (hb hby at_95) rfl rfl k) ?_
  obtain ⟨a11, T11, h11, k11, X11, e11, E11, hS, hkN11, hZ, hown, st11⟩ := ldcS X10 hx hZ hown (hw _ (List.mem_of_getElem? (i := 97) rfl)) (own_wS hw) e10 hS hkS (g := (mkF m 96 #[.val (.long q1), .second, .val (.long q2), .second, .val (.long q3), .second, .val (.long q4), .second, .val (.long q5), .second, .val (.int p6), .val (.long span0), .second, .val (.long span2), .second, .val (.long r1), .second, .val (.long r2), .second, .val (.int qa), .val (.ref b3), .unset, .unset, .unset, .unset, .unset, .unset, .unset] [(.ref b10), (.ref b10), (.ref b3)])) rfl (hb hby at_96) (n := 4) (by decide) (by decide) (by decide) (by decide)
  have Z11 : n0 ≤ h11.size := Nat.le_trans Z10 E11.1
  have hkS := Nat.le_trans hkS E11.1
  have E_b3 := E_b3.ext E11
  have F_modCount_b3 := F_modCount_b3.ext E11
  have F_elementData_b3 := F_elementData_b3.ext E11
  have F_size_b3 := F_size_b3.ext E11
  have E_b5 := E_b5.ext E11
  have F_bounded_b5 := F_bounded_b5.ext E11
  have F_lower_b5 := F_lower_b5.ext E11
  have F_upper_b5 := F_upper_b5.ext E11
  have V_o9 := V_o9.ext E11
  have O := O.ext E11
  have E_b10 := E_b10.ext E11
  have F_name_b10 := F_name_b10.ext E11
  have F_type_b10 := F_type_b10.ext E11
  have F_bounded_b10 := F_bounded_b10.ext E11
  have F_lower_b10 := F_lower_b10.ext E11
  have F_upper_b10 := F_upper_b10.ext E11
  have F_position_b10 := F_position_b10.ext E11
  have hkS := hkN11
  have X11 : Stand p l e room_1 (s.setVm T11.vm) m #[(.long q1), (.long q2), (.long q3), (.long q4), (.long q5), (.int p6)] below meth c T11 lc9 8 41 := X11
  refine own_st (T' := T11) (g' := (mkF m 98 #[.val (.long q1), .second, .val (.long q2), .second, .val (.long q3), .second, .val (.long q4), .second, .val (.long q5), .second, .val (.int p6), .val (.long span0), .second, .val (.long span2), .second, .val (.long r1), .second, .val (.long r2), .second, .val (.int qa), .val (.ref b3), .unset, .unset, .unset, .unset, .unset, .unset, .unset] [(.ref a11), (.ref b10), (.ref b10), (.ref b3)])) st11 ?_
  obtain ⟨T12, X12, e12, st12⟩ := getS2 X11 hx hZ hown (host := "") (Or.inl (hw _ (List.mem_of_getElem? (i := 42) rfl))) Via.refl e11 (S_INT.ext O.2) (g := (mkF m 98 #[.val (.long q1), .second, .val (.long q2), .second, .val (.long q3), .second, .val (.long q4), .second, .val (.long q5), .second, .val (.int p6), .val (.long span0), .second, .val (.long span2), .second, .val (.long r1), .second, .val (.long r2), .second, .val (.int qa), .val (.ref b3), .unset, .unset, .unset, .unset, .unset, .unset, .unset] [(.ref a11), (.ref b10), (.ref b10), (.ref b3)])) rfl (hb hby at_98)
  refine own_st (T' := T12) (g' := (mkF m 101 #[.val (.long q1), .second, .val (.long q2), .second, .val (.long q3), .second, .val (.long q4), .second, .val (.long q5), .second, .val (.int p6), .val (.long span0), .second, .val (.long span2), .second, .val (.long r1), .second, .val (.long r2), .second, .val (.int qa), .val (.ref b3), .unset, .unset, .unset, .unset, .unset, .unset, .unset] [(.ref s_INT), (.ref a11), (.ref b10), (.ref b10), (.ref b3)])) st12 ?_
  refine own_st (T' := T12) (g' := (mkF m 102 #[.val (.long q1), .second, .val (.long q2), .second, .val (.long q3), .second, .val (.long q4), .second, .val (.long q5), .second, .val (.int p6), .val (.long span0), .second, .val (.long span2), .second, .val (.long r1), .second, .val (.long r2), .second, .val (.int qa), .val (.ref b3), .unset, .unset, .unset, .unset, .unset, .unset, .unset] [(.int (0 : Int32)), (.ref s_INT), (.ref a11), (.ref b10), (.ref b10), (.ref b3)])) (fun t k => XS.iconst X12.here hx rfl (hb hby at_101) k) ?_
  refine own_st (T' := T12) (g' := (mkF m 103 #[.val (.long q1), .second, .val (.long q2), .second, .val (.long q3), .second, .val (.long q4), .second, .val (.long q5), .second, .val (.int p6), .val (.long span0), .second, .val (.long span2), .second, .val (.long r1), .second, .val (.long r2), .second, .val (.int qa), .val (.ref b3), .unset, .unset, .unset, .unset, .unset, .unset, .unset] [(.long (0 : Int64)), (.int (0 : Int32)), (.ref s_INT), (.ref a11), (.ref b10), (.ref b10), (.ref b3)])) (fun t k => XS.lconst X12.here hx rfl (hb hby at_102) k) ?_
  refine own_st (T' := T12) (g' := (mkF m 104 #[.val (.long q1), .second, .val (.long q2), .second, .val (.long q3), .second, .val (.long q4), .second, .val (.long q5), .second, .val (.int p6), .val (.long span0), .second, .val (.long span2), .second, .val (.long r1), .second, .val (.long r2), .second, .val (.int qa), .val (.ref b3), .unset, .unset, .unset, .unset, .unset, .unset, .unset] [(.long (0 : Int64)), (.long (0 : Int64)), (.int (0 : Int32)), (.ref s_INT), (.ref a11), (.ref b10), (.ref b10), (.ref b3)])) (fun t k => XS.lconst X12.here hx rfl (hb hby at_103) k) ?_
  refine own_st (T' := T12) (g' := (mkF m 105 #[.val (.long q1), .second, .val (.long q2), .second, .val (.long q3), .second, .val (.long q4), .second, .val (.long q5), .second, .val (.int p6), .val (.long span0), .second, .val (.long span2), .second, .val (.long r1), .second, .val (.long r2), .second, .val (.int qa), .val (.ref b3), .unset, .unset, .unset, .unset, .unset, .unset, .unset] [.null, (.long (0 : Int64)), (.long (0 : Int64)), (.int (0 : Int32)), (.ref s_INT), (.ref a11), (.ref b10), (.ref b10), (.ref b3)])) (fun t k => XS.aconstNull X12.here hx rfl (hb hby at_104) k) ?_
  obtain ⟨_, T13, L13, hQ13, X13, st13⟩ := own_callI (y := (⟨"com/example/astraea/astraea/lang/Variable", "<init>", "(Ljava/lang/String;Lcom/example/astraea/astraea/lang/Type;ZJJLcom/example/astraea/astraea/lang/Position;)V"⟩ : MethodName)) (argsL := [(.ref a11), (.ref s_INT), (.int (0 : Int32)), (.long (0 : Int64)), (.long (0 : Int64)), .null]) 2 [(.ref b10), (.ref b3)] (own_rm6 l Z a0 hw h11 n0 Z11 b10 a11 s_INT (0 : Int32) (0 : Int64) (0 : Int64) E_b10 g_b10 (Or.inl rfl) _ F_name_b10 _ F_type_b10 _ F_bounded_b10 _ F_lower_b10 _ F_upper_b10 _ F_position_b10) X12 hx hZ hown rfl (hw _ (List.mem_of_getElem? (i := 45) rfl)) (hw _ (List.mem_of_getElem? (i := 46) rfl)) (hw _ (List.mem_of_getElem? (i := 47) rfl)) (hw _ (List.mem_of_getElem? (i := 33) rfl)) (by decide) (by decide) (by decide) (by decide) (by decide) e12 (g := (mkF m 105 #[.val (.long q1), .second, .val (.long q2), .second, .val (.long q3), .second, .val (.long q4), .second, .val (.long q5), .second, .val (.int p6), .val (.long span0), .second, .val (.long span2), .second, .val (.long r1), .second, .val (.long r2), .second, .val (.int qa), .val (.ref b3), .unset, .unset, .unset, .unset, .unset, .unset, .unset] [.null, (.long (0 : Int64)), (.long (0 : Int64)), (.int (0 : Int32)), (.ref s_INT), (.ref a11), (.ref b10), (.ref b10), (.ref b3)])) rfl (by rw [hml]; rfl) (lenOf own_pd14 rfl) rfl (by show 2 * 0 + _ ≤ _; exact Nat.le_of_eq rfl) (hb hby at_105)
  obtain ⟨rfl, N13q, Kq13, E_b10, F_bounded_b10, F_lower_b10, F_upper_b10⟩ := hQ13
  have Z13 : n0 ≤ T13.heap.size := Nat.le_trans Z11 Kq13.1
  have hkS := Nat.le_trans hkS Kq13.1
  have E_b3 := E_b3.keep Kq13
  have F_modCount_b3 := F_modCount_b3.keep Kq13 (ninS ne_b3_b10 nin0)
  have F_elementData_b3 := F_elementData_b3.keep Kq13 (ninS ne_b3_b10 nin0)
  have F_size_b3 := F_size_b3.keep Kq13 (ninS ne_b3_b10 nin0)
  have E_b5 := E_b5.keep Kq13
  have F_bounded_b5 := F_bounded_b5.keep Kq13 (ninS ne_b5_b10 nin0)
  have F_lower_b5 := F_lower_b5.keep Kq13 (ninS ne_b5_b10 nin0)
  have F_upper_b5 := F_upper_b5.keep Kq13 (ninS ne_b5_b10 nin0)
  have V_o9 := V_o9.keep Kq13 (ninS ne_o9_b10 nin0)
  have O := O.keep Kq13 (allS g_b10 all0)
  have N13 := Fr.app N9 N13q
  generalize hlc13 : (lc9 ++ L13 : List Loc) = lc13 at X13 N13
  have X13 : Stand p l e room_1 (s.setVm T11.vm) m #[(.long q1), (.long q2), (.long q3), (.long q4), (.long q5), (.int p6)] below meth c T13 lc13 8 41 := X13
  refine own_st (T' := T13) (g' := (mkF m 108 #[.val (.long q1), .second, .val (.long q2), .second, .val (.long q3), .second, .val (.long q4), .second, .val (.long q5), .second, .val (.int p6), .val (.long span0), .second, .val (.long span2), .second, .val (.long r1), .second, .val (.long r2), .second, .val (.int qa), .val (.ref b3), .unset, .unset, .unset, .unset, .unset, .unset, .unset] [(.ref b10), (.ref b3)])) st13 ?_
  obtain ⟨_, T14, L14, hQ14, X14, st14⟩ := own_callV (y := (⟨"java/util/ArrayList", "add", "(Ljava/lang/Object;)Z"⟩ : MethodName)) (z := (⟨"java/util/ArrayList", "add", "(Ljava/lang/Object;)Z"⟩ : MethodName)) (argsL := [(.ref b10)]) 0 [] (K := "java/util/ArrayList") (own_rm8n1 l Z a0 hw T13.heap n0 Z13 b3 b10 o9 k9 b5 ((0 : Int32) + 1) E_b10 (Ne.symm ne_b3_b10) (Ne.symm ne_o9_b10) (Ne.symm ne_b3_o9) V_o9 OV_o9 g_o9 E_b3 F_modCount_b3 F_elementData_b3 F_size_b3 g_b3) X13 hx hZ hown (hw _ (List.mem_of_getElem? (i := 66) rfl)) (hw _ (List.mem_of_getElem? (i := 67) rfl)) (notFace_of_selects (args := #[]) (mvT hZ (hw _ (List.mem_of_getElem? (i := 69) rfl)))) (hw _ (List.mem_of_getElem? (i := 69) rfl)) (hw _ (List.mem_of_getElem? (i := 68) rfl)) (hw _ (List.mem_of_getElem? (i := 70) rfl)) (hw _ (List.mem_of_getElem? (i := 7) rfl)) (by decide) (by decide) (by decide) (by decide) (by decide) rfl E_b3 (g := (mkF m 108 #[.val (.long q1), .second, .val (.long q2), .second, .val (.long q3), .second, .val (.long q4), .second, .val (.long q5), .second, .val (.int p6), .val (.long span0), .second, .val (.long span2), .second, .val (.long r1), .second, .val (.long r2), .second, .val (.int qa), .val (.ref b3), .unset, .unset, .unset, .unset, .unset, .unset, .unset] [(.ref b10), (.ref b3)])) rfl (by rw [hml]; rfl) (lenOf own_pd15 rfl) rfl (by show 2 * 0 + _ ≤ _; exact Nat.le_of_eq rfl) (hb hby at_108)
  obtain ⟨rfl, N14q, Kq14, ⟨E_b3, F_modCount_b3, F_elementData_b3, F_size_b3⟩, V_o9⟩ := hQ14
  have Z14 : n0 ≤ T14.heap.size := Nat.le_trans Z13 Kq14.1
  have hkS := Nat.le_trans hkS Kq14.1
  have E_b5 := E_b5.keep Kq14
  have F_bounded_b5 := F_bounded_b5.keep Kq14 (ninS (Ne.symm ne_b3_b5) (ninS ne_b5_o9 nin0))
  have F_lower_b5 := F_lower_b5.keep Kq14 (ninS (Ne.symm ne_b3_b5) (ninS ne_b5_o9 nin0))
  have F_upper_b5 := F_upper_b5.keep Kq14 (ninS (Ne.symm ne_b3_b5) (ninS ne_b5_o9 nin0))
  have O := O.keep Kq14 (allS g_b3 (allS g_o9 all0))
  have E_b10 := E_b10.keep Kq14
  have F_bounded_b10 := F_bounded_b10.keep Kq14 (ninS (Ne.symm ne_b3_b10) (ninS (Ne.symm ne_o9_b10) nin0))
  have F_lower_b10 := F_lower_b10.keep Kq14 (ninS (Ne.symm ne_b3_b10) (ninS (Ne.symm ne_o9_b10) nin0))
  have F_upper_b10 := F_upper_b10.keep Kq14 (ninS (Ne.symm ne_b3_b10) (ninS (Ne.symm ne_o9_b10) nin0))
  have N14 := Fr.app N13 N14q
  generalize hlc14 : (lc13 ++ L14 : List Loc) = lc14 at X14 N14
  have X14 : Stand p l e room_1 (s.setVm T11.vm) m #[(.long q1), (.long q2), (.long q3), (.long q4), (.long q5), (.int p6)] below meth c T14 lc14 8 41 := X14
  refine own_st (T' := T14) (g' := (mkF m 111 #[.val (.long q1), .second, .val (.long q2), .second, .val (.long q3), .second, .val (.long q4), .second, .val (.long q5), .second, .val (.int p6), .val (.long span0), .second, .val (.long span2), .second, .val (.long r1), .second, .val (.long r2), .second, .val (.int qa), .val (.ref b3), .unset, .unset, .unset, .unset, .unset, .unset, .unset] [(.int (1 : Int32))])) st14 ?_
  refine own_st (T' := T14) (g' := (mkF m 112 #[.val (.long q1), .second, .val (.long q2), .second, .val (.long q3), .second, .val (.long q4), .second, .val (.long q5), .second, .val (.int p6), .val (.long span0), .second, .val (.long span2), .second, .val (.long r1), .second, .val (.long r2), .second, .val (.int qa), .val (.ref b3), .unset, .unset, .unset, .unset, .unset, .unset, .unset] [])) (fun t k => XS.pop X14.here hx rfl (hb hby at_111) rfl rfl k) ?_
  refine own_st (T' := T14) (g' := (mkF m 114 #[.val (.long q1), .second, .val (.long q2), .second, .val (.long q3), .second, .val (.long q4), .second, .val (.long q5), .second, .val (.int p6), .val (.long span0), .second, .val (.long span2), .second, .val (.long r1), .second, .val (.long r2), .second, .val (.int qa), .val (.ref b3), .unset, .unset, .unset, .unset, .unset, .unset, .unset] [(.ref b3)])) (fun t k => XS.aload X14.here hx rfl (hb hby at_112) rfl rfl k) ?_
  obtain ⟨T15, h15, X15, e15, E15, A15, D15, -, st15⟩ := newO X14 hx hZ hown (hw _ (List.mem_of_getElem? (i := 31) rfl)) (hw _ (List.mem_of_getElem? (i := 32) rfl)) (hw _ (List.mem_of_getElem? (i := 33) rfl)) rfl (g := (mkF m 114 #[.val (.long q1), .second, .val (.long q2), .second, .val (.long q3), .second, .val (.long q4), .second, .val (.long q5), .second, .val (.int p6), .val (.long span0), .second, .val (.long span2), .second, .val (.long r1), .second, .val (.long r2), .second, .val (.int qa), .val (.ref b3), .unset, .unset, .unset, .unset, .unset, .unset, .unset] [(.ref b3)])) rfl (hb hby at_114) (by decide) (by decide)
  obtain ⟨b15, gb15⟩ : ∃ z, z = T14.heap.size := ⟨_, rfl⟩
  rw [← gb15] at A15 D15 st15
  have ne_b3_b15 : b3 ≠ b15 := by rw [gb15]; exact Nat.ne_of_lt E_b3.lt
  have ne_b5_b15 : b5 ≠ b15 := by rw [gb15]; exact Nat.ne_of_lt E_b5.lt
  have ne_o9_b15 : o9 ≠ b15 := by rw [gb15]; exact Nat.ne_of_lt V_o9.lt
  have ne_b10_b15 : b10 ≠ b15 := by rw [gb15]; exact Nat.ne_of_lt E_b10.lt
  have g_b15 : n0 ≤ b15 := Nat.le_trans Z14 (Nat.le_of_eq gb15.symm)
  have Z15 : n0 ≤ h15.size := Nat.le_trans Z14 E15.1
  have hkS := Nat.le_trans hkS E15.1
  have E_b3 := E_b3.ext E15
  have F_modCount_b3 := F_modCount_b3.ext E15
  have F_elementData_b3 := F_elementData_b3.ext E15
  have F_size_b3 := F_size_b3.ext E15
  have E_b5 := E_b5.ext E15
  have F_bounded_b5 := F_bounded_b5.ext E15
  have F_lower_b5 := F_lower_b5.ext E15
  have F_upper_b5 := F_upper_b5.ext E15
  have V_o9 := V_o9.ext E15
  have O := O.ext E15
  have E_b10 := E_b10.ext E15
  have F_bounded_b10 := F_bounded_b10.ext E15
  have F_lower_b10 := F_lower_b10.ext E15
  have F_upper_b10 := F_upper_b10.ext E15
  have E_b15 := A15
  have F_name_b15 : Fld Z h15 b15 "com/example/astraea/astraea/lang/Variable" "name" "Ljava/lang/String;" .null := D15 (Or.inr (hw _ (List.mem_of_getElem? (i := 55) rfl))) (ty := (.object "java/lang/String")) (by decide)
  have F_type_b15 : Fld Z h15 b15 "com/example/astraea/astraea/lang/Variable" "type" "Lcom/example/astraea/astraea/lang/Type;" .null := D15 (Or.inr (hw _ (List.mem_of_getElem? (i := 57) rfl))) (ty := (.object "com/example/astraea/astraea/lang/Type")) (by decide)
  have F_bounded_b15 : Fld Z h15 b15 "com/example/astraea/astraea/lang/Variable" "bounded" "Z" (.int (0 : Int32)) := D15 (Or.inr (hw _ (List.mem_of_getElem? (i := 59) rfl))) (ty := .boolean) (by decide)
  have F_lower_b15 : Fld Z h15 b15 "com/example/astraea/astraea/lang/Variable" "lower" "J" (.long (0 : Int64)) := D15 (Or.inr (hw _ (List.mem_of_getElem? (i := 61) rfl))) (ty := .long) (by decide)
  have F_upper_b15 : Fld Z h15 b15 "com/example/astraea/astraea/lang/Variable" "upper" "J" (.long (0 : Int64)) := D15 (Or.inr (hw _ (List.mem_of_getElem? (i := 63) rfl))) (ty := .long) (by decide)
  have F_position_b15 : Fld Z h15 b15 "com/example/astraea/astraea/lang/Variable" "position" "Lcom/example/astraea/astraea/lang/Position;" .null := D15 (Or.inr (hw _ (List.mem_of_getElem? (i := 65) rfl))) (ty := (.object "com/example/astraea/astraea/lang/Position")) (by decide)
  have X15 : Stand p l e room_1 (s.setVm T11.vm) m #[(.long q1), (.long q2), (.long q3), (.long q4), (.long q5), (.int p6)] below meth c T15 lc14 9 47 := X15
  refine own_st (T' := T15) (g' := (mkF m 117 #[.val (.long q1), .second, .val (.long q2), .second, .val (.long q3), .second, .val (.long q4), .second, .val (.long q5), .second, .val (.int p6), .val (.long span0), .second, .val (.long span2), .second, .val (.long r1), .second, .val (.long r2), .second, .val (.int qa), .val (.ref b3), .unset, .unset, .unset, .unset, .unset, .unset, .unset] [(.ref b15), (.ref b3)])) st15 ?_
  refine own_st (T' := T15) (g' := (mkF m 118 #[.val (.long q1), .second, .val (.long q2), .second, .val (.long q3), .second, .val (.long q4), .second, .val (.long q5), .second, .val (.int p6), .val (.long span0), .second, .val (.long span2), .second, .val (.long r1), .second, .val (.long r2), .second, .val (.int qa), .val (.ref b3), .unset, .unset, .unset, .unset, .unset, .unset, .unset] [(.ref b15), (.ref b15), (.ref b3)])) (fun t k => XS.dup X15.here hx rfl (hb hby at_117) rfl rfl k) ?_
  obtain ⟨a16, T16, h16, k16, X16, e16, E16, hS, hkN16, hZ, hown, st16⟩ := ldcS X15 hx hZ hown (hw _ (List.mem_of_getElem? (i := 98) rfl)) (own_wS hw) e15 hS hkS (g := (mkF m 118 #[.val (.long q1), .second, .val (.long q2), .second, .val (.long q3), .second, .val (.long q4), .second, .val (.long q5), .second, .val (.int p6), .val (.long span0), .second, .val (.long span2), .second, .val (.long r1), .second, .val (.long r2), .second, .val (.int qa), .val (.ref b3), .unset, .unset, .unset, .unset, .unset, .unset, .unset] [(.ref b15), (.ref b15), (.ref b3)])) rfl (hb hby at_118) (n := 4) (by decide) (by decide) (by decide) (by decide)
  have Z16 : n0 ≤ h16.size := Nat.le_trans Z15 E16.1
  have hkS := Nat.le_trans hkS E16.1
  have E_b3 := E_b3.ext E16
  have F_modCount_b3 := F_modCount_b3.ext E16
  have F_elementData_b3 := F_elementData_b3.ext E16
  have F_size_b3 := F_size_b3.ext E16
  have E_b5 := E_b5.ext E16
  have F_bounded_b5 := F_bounded_b5.ext E16
  have F_lower_b5 := F_lower_b5.ext E16
  have F_upper_b5 := F_upper_b5.ext E16
  have V_o9 := V_o9.ext E16
  have O := O.ext E16
  have E_b10 := E_b10.ext E16
  have F_bounded_b10 := F_bounded_b10.ext E16
  have F_lower_b10 := F_lower_b10.ext E16
  have F_upper_b10 := F_upper_b10.ext E16
  have E_b15 := E_b15.ext E16
  have F_name_b15 := F_name_b15.ext E16
  have F_type_b15 := F_type_b15.ext E16
  have F_bounded_b15 := F_bounded_b15.ext E16
  have F_lower_b15 := F_lower_b15.ext E16
  have F_upper_b15 := F_upper_b15.ext E16
  have F_position_b15 := F_position_b15.ext E16
  have hkS := hkN16
  have X16 : Stand p l e room_1 (s.setVm T16.vm) m #[(.long q1), (.long q2), (.long q3), (.long q4), (.long q5), (.int p6)] below meth c T16 lc14 11 55 := X16
  refine own_st (T' := T16) (g' := (mkF m 120 #[.val (.long q1), .second, .val (.long q2), .second, .val (.long q3), .second, .val (.long q4), .second, .val (.long q5), .second, .val (.int p6), .val (.long span0), .second, .val (.long span2), .second, .val (.long r1), .second, .val (.long r2), .second, .val (.int qa), .val (.ref b3), .unset, .unset, .unset, .unset, .unset, .unset, .unset] [(.ref a16), (.ref b15), (.ref b15), (.ref b3)])) st16 ?_
  obtain ⟨T17, X17, e17, st17⟩ := getS2 X16 hx hZ hown (host := "") (Or.inl (hw _ (List.mem_of_getElem? (i := 42) rfl))) Via.refl e16 (S_INT.ext O.2) (g := (mkF m 120 #[.val (.long q1), .second, .val (.long q2), .second, .val (.long q3), .second, .val (.long q4), .second, .val (.long q5), .second, .val (.int p6), .val (.long span0), .second, .val (.long span2), .second, .val (.long r1), .second, .val (.long r2), .second, .val (.int qa), .val (.ref b3), .unset, .unset, .unset, .unset, .unset, .unset, .unset] [(.ref a16), (.ref b15), (.ref b15), (.ref b3)])) rfl (hb hby at_120)
  refine own_st (T' := T17) (g' := (mkF m 123 #[.val (.long q1), .second, .val (.long q2), .second, .val (.long q3), .second, .val (.long q4), .second, .val (.long q5), .second, .val (.int p6), .val (.long span0), .second, .val (.long span2), .second, .val (.long r1), .second, .val (.long r2), .second, .val (.int qa), .val (.ref b3), .unset, .unset, .unset, .unset, .unset, .unset, .unset] [(.ref s_INT), (.ref a16), (.ref b15), (.ref b15), (.ref b3)])) st17 ?_
  refine own_st (T' := T17) (g' := (mkF m 124 #[.val (.long q1), .second, .val (.long q2), .second, .val (.long q3), .second, .val (.long q4), .second, .val (.long q5), .second, .val (.int p6), .val (.long span0), .second, .val (.long span2), .second, .val (.long r1), .second, .val (.long r2), .second, .val (.int qa), .val (.ref b3), .unset, .unset, .unset, .unset, .unset, .unset, .unset] [(.int (1 : Int32)), (.ref s_INT), (.ref a16), (.ref b15), (.ref b15), (.ref b3)])) (fun t k => XS.iconst X17.here hx rfl (hb hby at_123) k) ?_
  refine own_st (T' := T17) (g' := (mkF m 126 #[.val (.long q1), .second, .val (.long q2), .second, .val (.long q3), .second, .val (.long q4), .second, .val (.long q5), .second, .val (.int p6), .val (.long span0), .second, .val (.long span2), .second, .val (.long r1), .second, .val (.long r2), .second, .val (.int qa), .val (.ref b3), .unset, .unset, .unset, .unset, .unset, .unset, .unset] [(.long r2), (.int (1 : Int32)), (.ref s_INT), (.ref a16), (.ref b15), (.ref b15), (.ref b3)])) (fun t k => XS.lload X17.here hx rfl (hb hby at_124) rfl k) ?_
  refine own_st (T' := T17) (g' := (mkF m 128 #[.val (.long q1), .second, .val (.long q2), .second, .val (.long q3), .second, .val (.long q4), .second, .val (.long q5), .second, .val (.int p6), .val (.long span0), .second, .val (.long span2), .second, .val (.long r1), .second, .val (.long r2), .second, .val (.int qa), .val (.ref b3), .unset, .unset, .unset, .unset, .unset, .unset, .unset] [(.long r2), (.long r2), (.int (1 : Int32)), (.ref s_INT), (.ref a16), (.ref b15), (.ref b15), (.ref b3)])) (fun t k => XS.lload X17.here hx rfl (hb hby at_126) rfl k) ?_
  refine own_st (T' := T17) (g' := (mkF m 130 #[.val (.long q1), .second, .val (.long q2), .second, .val (.long q3), .second, .val (.long q4), .second, .val (.long q5), .second, .val (.int p6), .val (.long span0), .second, .val (.long span2), .second, .val (.long r1), .second, .val (.long r2), .second, .val (.int qa), .val (.ref b3), .unset, .unset, .unset, .unset, .unset, .unset, .unset] [(.long span2), (.long r2), (.long r2), (.int (1 : Int32)), (.ref s_INT), (.ref a16), (.ref b15), (.ref b15), (.ref b3)])) (fun t k => XS.lload X17.here hx rfl (hb hby at_128) rfl k) ?_
  refine own_st (T' := T17) (g' := (mkF m 131 #[.val (.long q1), .second, .val (.long q2), .second, .val (.long q3), .second, .val (.long q4), .second, .val (.long q5), .second, .val (.int p6), .val (.long span0), .second, .val (.long span2), .second, .val (.long r1), .second, .val (.long r2), .second, .val (.int qa), .val (.ref b3), .unset, .unset, .unset, .unset, .unset, .unset, .unset] [(.long (r2 + span2)), (.long r2), (.int (1 : Int32)), (.ref s_INT), (.ref a16), (.ref b15), (.ref b15), (.ref b3)])) (fun t k => XS.ladd X17.here hx rfl (hb hby at_130) rfl k) ?_
  refine own_st (T' := T17) (g' := (mkF m 132 #[.val (.long q1), .second, .val (.long q2), .second, .val (.long q3), .second, .val (.long q4), .second, .val (.long q5), .second, .val (.int p6), .val (.long span0), .second, .val (.long span2), .second, .val (.long r1), .second, .val (.long r2), .second, .val (.int qa), .val (.ref b3), .unset, .unset, .unset, .unset, .unset, .unset, .unset] [.null, (.long (r2 + span2)), (.long r2), (.int (1 : Int32)), (.ref s_INT), (.ref a16), (.ref b15), (.ref b15), (.ref b3)])) (fun t k => XS.aconstNull X17.here hx rfl (hb hby at_131) k) ?_
  obtain ⟨_, T18, L18, hQ18, X18, st18⟩ := own_callI (y := (⟨"com/example/astraea/astraea/lang/Variable", "<init>", "(Ljava/lang/String;Lcom/example/astraea/astraea/lang/Type;ZJJLcom/example/astraea/astraea/lang/Position;)V"⟩ : MethodName)) (argsL := [(.ref a16), (.ref s_INT), (.int (1 : Int32)), (.long r2), (.long (r2 + span2)), .null]) 2 [(.ref b15), (.ref b3)] (own_rm6 l Z a0 hw h16 n0 Z16 b15 a16 s_INT (1 : Int32) r2 (r2 + span2) E_b15 g_b15 (Or.inr rfl) _ F_name_b15 _ F_type_b15 _ F_bounded_b15 _ F_lower_b15 _ F_upper_b15 _ F_position_b15) X17 hx hZ hown rfl (hw _ (List.mem_of_getElem? (i := 45) rfl)) (hw _ (List.mem_of_getElem? (i := 46) rfl)) (hw _ (List.mem_of_getElem? (i := 47) rfl)) (hw _ (List.mem_of_getElem? (i := 33) rfl)) (by decide) (by decide) (by decide) (by decide) (by decide) e17 (g := (mkF m 132 #[.val (.long q1), .second, .val (.long q2), .second, .val (.long q3), .second, .val (.long q4), .second, .val (.long q5), .second, .val (.int p6), .val (.long span0), .second, .val (.long span2), .second, .val (.long r1), .second, .val (.long r2), .second, .val (.int qa), .val (.ref b3), .unset, .unset, .unset, .unset, .unset, .unset, .unset] [.null, (.long (r2 + span2)), (.long r2), (.int (1 : Int32)), (.ref s_INT), (.ref a16), (.ref b15), (.ref b15), (.ref b3)])) rfl (by rw [hml]; rfl) (lenOf own_pd14 rfl) rfl (by show 2 * 0 + _ ≤ _; exact Nat.le_of_eq rfl) (hb hby at_132)
  obtain ⟨rfl, N18q, Kq18, E_b15, F_bounded_b15, F_lower_b15, F_upper_b15⟩ := hQ18
  have Z18 : n0 ≤ T18.heap.size := Nat.le_trans Z16 Kq18.1
  have hkS := Nat.le_trans hkS Kq18.1
  have E_b3 := E_b3.keep Kq18
  have F_modCount_b3 := F_modCount_b3.keep Kq18 (ninS ne_b3_b15 nin0)
  have F_elementData_b3 := F_elementData_b3.keep Kq18 (ninS ne_b3_b15 nin0)
  have F_size_b3 := F_size_b3.keep Kq18 (ninS ne_b3_b15 nin0)
  have E_b5 := E_b5.keep Kq18
  have F_bounded_b5 := F_bounded_b5.keep Kq18 (ninS ne_b5_b15 nin0)
  have F_lower_b5 := F_lower_b5.keep Kq18 (ninS ne_b5_b15 nin0)
  have F_upper_b5 := F_upper_b5.keep Kq18 (ninS ne_b5_b15 nin0)
  have V_o9 := V_o9.keep Kq18 (ninS ne_o9_b15 nin0)
  have O := O.keep Kq18 (allS g_b15 all0)
  have E_b10 := E_b10.keep Kq18
  have F_bounded_b10 := F_bounded_b10.keep Kq18 (ninS ne_b10_b15 nin0)
  have F_lower_b10 := F_lower_b10.keep Kq18 (ninS ne_b10_b15 nin0)
  have F_upper_b10 := F_upper_b10.keep Kq18 (ninS ne_b10_b15 nin0)
  have N18 := Fr.app N14 N18q
  generalize hlc18 : (lc14 ++ L18 : List Loc) = lc18 at X18 N18
  have X18 : Stand p l e room_1 (s.setVm T16.vm) m #[(.long q1), (.long q2), (.long q3), (.long q4), (.long q5), (.int p6)] below meth c T18 lc18 11 55 := X18
  refine own_st (T' := T18) (g' := (mkF m 135 #[.val (.long q1), .second, .val (.long q2), .second, .val (.long q3), .second, .val (.long q4), .second, .val (.long q5), .second, .val (.int p6), .val (.long span0), .second, .val (.long span2), .second, .val (.long r1), .second, .val (.long r2), .second, .val (.int qa), .val (.ref b3), .unset, .unset, .unset, .unset, .unset, .unset, .unset] [(.ref b15), (.ref b3)])) st18 ?_
  obtain ⟨_, T19, L19, hQ19, X19, st19⟩ := own_callV (y := (⟨"java/util/ArrayList", "add", "(Ljava/lang/Object;)Z"⟩ : MethodName)) (z := (⟨"java/util/ArrayList", "add", "(Ljava/lang/Object;)Z"⟩ : MethodName)) (argsL := [(.ref b15)]) 0 [] (K := "java/util/ArrayList") (own_rm8n2 l Z a0 hw T18.heap n0 Z18 b3 b15 o9 k9 b5 b10 (((0 : Int32) + 1) + 1) E_b15 (Ne.symm ne_b3_b15) (Ne.symm ne_o9_b15) (Ne.symm ne_b3_o9) V_o9 OV_o9 g_o9 E_b3 F_modCount_b3 F_elementData_b3 F_size_b3 g_b3) X18 hx hZ hown (hw _ (List.mem_of_getElem? (i := 66) rfl)) (hw _ (List.mem_of_getElem? (i := 67) rfl)) (notFace_of_selects (args := #[]) (mvT hZ (hw _ (List.mem_of_getElem? (i := 69) rfl)))) (hw _ (List.mem_of_getElem? (i := 69) rfl)) (hw _ (List.mem_of_getElem? (i := 68) rfl)) (hw _ (List.mem_of_getElem? (i := 70) rfl)) (hw _ (List.mem_of_getElem? (i := 7) rfl)) (by decide) (by decide) (by decide) (by decide) (by decide) rfl E_b3 (g := (mkF m 135 #[.val (.long q1), .second, .val (.long q2), .second, .val (.long q3), .second, .val (.long q4), .second, .val (.long q5), .second, .val (.int p6), .val (.long span0), .second, .val (.long span2), .second, .val (.long r1), .second, .val (.long r2), .second, .val (.int qa), .val (.ref b3), .unset, .unset, .unset, .unset, .unset, .unset, .unset] [(.ref b15), (.ref b3)])) rfl (by rw [hml]; rfl) (lenOf own_pd15 rfl) rfl (by show 2 * 0 + _ ≤ _; exact Nat.le_of_eq rfl) (hb hby at_135)
  obtain ⟨rfl, N19q, Kq19, ⟨E_b3, F_modCount_b3, F_elementData_b3, F_size_b3⟩, V_o9⟩ := hQ19
  have Z19 : n0 ≤ T19.heap.size := Nat.le_trans Z18 Kq19.1
  have hkS := Nat.le_trans hkS Kq19.1
  have E_b5 := E_b5.keep Kq19
  have F_bounded_b5 := F_bounded_b5.keep Kq19 (ninS (Ne.symm ne_b3_b5) (ninS ne_b5_o9 nin0))
  have F_lower_b5 := F_lower_b5.keep Kq19 (ninS (Ne.symm ne_b3_b5) (ninS ne_b5_o9 nin0))
  have F_upper_b5 := F_upper_b5.keep Kq19 (ninS (Ne.symm ne_b3_b5) (ninS ne_b5_o9 nin0))
  have O := O.keep Kq19 (allS g_b3 (allS g_o9 all0))
  have E_b10 := E_b10.keep Kq19
  have F_bounded_b10 := F_bounded_b10.keep Kq19 (ninS (Ne.symm ne_b3_b10) (ninS (Ne.symm ne_o9_b10) nin0))
  have F_lower_b10 := F_lower_b10.keep Kq19 (ninS (Ne.symm ne_b3_b10) (ninS (Ne.symm ne_o9_b10) nin0))
  have F_upper_b10 := F_upper_b10.keep Kq19 (ninS (Ne.symm ne_b3_b10) (ninS (Ne.symm ne_o9_b10) nin0))
  have E_b15 := E_b15.keep Kq19
  have F_bounded_b15 := F_bounded_b15.keep Kq19 (ninS (Ne.symm ne_b3_b15) (ninS (Ne.symm ne_o9_b15) nin0))
  have F_lower_b15 := F_lower_b15.keep Kq19 (ninS (Ne.symm ne_b3_b15) (ninS (Ne.symm ne_o9_b15) nin0))
  have F_upper_b15 := F_upper_b15.keep Kq19 (ninS (Ne.symm ne_b3_b15) (ninS (Ne.symm ne_o9_b15) nin0))
  have N19 := Fr.app N18 N19q
  generalize hlc19 : (lc18 ++ L19 : List Loc) = lc19 at X19 N19
  have X19 : Stand p l e room_1 (s.setVm T16.vm) m #[(.long q1), (.long q2), (.long q3), (.long q4), (.long q5), (.int p6)] below meth c T19 lc19 11 55 := X19
  refine own_st (T' := T19) (g' := (mkF m 138 #[.val (.long q1), .second, .val (.long q2), .second, .val (.long q3), .second, .val (.long q4), .second, .val (.long q5), .second, .val (.int p6), .val (.long span0), .second, .val (.long span2), .second, .val (.long r1), .second, .val (.long r2), .second, .val (.int qa), .val (.ref b3), .unset, .unset, .unset, .unset, .unset, .unset, .unset] [(.int (1 : Int32))])) st19 ?_
  refine own_st (T' := T19) (g' := (mkF m 139 #[.val (.long q1), .second, .val (.long q2), .second, .val (.long q3), .second, .val (.long q4), .second, .val (.long q5), .second, .val (.int p6), .val (.long span0), .second, .val (.long span2), .second, .val (.long r1), .second, .val (.long r2), .second, .val (.int qa), .val (.ref b3), .unset, .unset, .unset, .unset, .unset, .unset, .unset] [])) (fun t k => XS.pop X19.here hx rfl (hb hby at_138) rfl rfl k) ?_
  obtain ⟨bw0, hbw0⟩ : ∃ z, z = own_bits (1 : Int32) r1 (r1 + span0) := ⟨_, rfl⟩
  have hr_0 : 1 ≤ bw0.toInt ∧ bw0.toInt ≤ 64 := by rw [hbw0]; exact own_bits_range
  have h64_0 : ¬ bw0 = 64 := by rw [hbw0]; exact (own_bits_big (by decide) (by rw [own_asub]; exact hs0)).1
  obtain ⟨bw1, hbw1⟩ : ∃ z, z = own_bits (0 : Int32) (0 : Int64) (0 : Int64) := ⟨_, rfl⟩
  have hr_1 : 1 ≤ bw1.toInt ∧ bw1.toInt ≤ 64 := by rw [hbw1]; exact own_bits_range
  have h64_1 : bw1 = 64 := by rw [hbw1]; unfold own_bits; rw [if_pos rfl]
  obtain ⟨bw2, hbw2⟩ : ∃ z, z = own_bits (1 : Int32) r2 (r2 + span2) := ⟨_, rfl⟩
  have hr_2 : 1 ≤ bw2.toInt ∧ bw2.toInt ≤ 64 := by rw [hbw2]; exact own_bits_range
  have h64_2 : ¬ bw2 = 64 := by rw [hbw2]; exact (own_bits_big (by decide) (by rw [own_asub]; exact hs2)).1
  obtain ⟨T20, h20, X20, e20, E20, A20, D20, -, st20⟩ := newO X19 hx hZ hown (hw _ (List.mem_of_getElem? (i := 99) rfl)) (hw _ (List.mem_of_getElem? (i := 100) rfl)) (hw _ (List.mem_of_getElem? (i := 101) rfl)) rfl (g := (mkF m 139 #[.val (.long q1), .second, .val (.long q2), .second, .val (.long q3), .second, .val (.long q4), .second, .val (.long q5), .second, .val (.int p6), .val (.long span0), .second, .val (.long span2), .second, .val (.long r1), .second, .val (.long r2), .second, .val (.int qa), .val (.ref b3), .unset, .unset, .unset, .unset, .unset, .unset, .unset] [])) rfl (hb hby at_139) (by decide) (by decide)
  obtain ⟨b20, gb20⟩ : ∃ z, z = T19.heap.size := ⟨_, rfl⟩
  rw [← gb20] at A20 D20 st20
  have ne_b3_b20 : b3 ≠ b20 := by rw [gb20]; exact Nat.ne_of_lt E_b3.lt
  have ne_b5_b20 : b5 ≠ b20 := by rw [gb20]; exact Nat.ne_of_lt E_b5.lt
  have ne_o9_b20 : o9 ≠ b20 := by rw [gb20]; exact Nat.ne_of_lt V_o9.lt
  have ne_b10_b20 : b10 ≠ b20 := by rw [gb20]; exact Nat.ne_of_lt E_b10.lt
  have ne_b15_b20 : b15 ≠ b20 := by rw [gb20]; exact Nat.ne_of_lt E_b15.lt
  have g_b20 : n0 ≤ b20 := Nat.le_trans Z19 (Nat.le_of_eq gb20.symm)
  have Z20 : n0 ≤ h20.size := Nat.le_trans Z19 E20.1
  have hkS := Nat.le_trans hkS E20.1
  have E_b3 := E_b3.ext E20
  have F_modCount_b3 := F_modCount_b3.ext E20
  have F_elementData_b3 := F_elementData_b3.ext E20
  have F_size_b3 := F_size_b3.ext E20
  have E_b5 := E_b5.ext E20
  have F_bounded_b5 := F_bounded_b5.ext E20
  have F_lower_b5 := F_lower_b5.ext E20
  have F_upper_b5 := F_upper_b5.ext E20
  have V_o9 := V_o9.ext E20
  have O := O.ext E20
  have E_b10 := E_b10.ext E20
  have F_bounded_b10 := F_bounded_b10.ext E20
  have F_lower_b10 := F_lower_b10.ext E20
  have F_upper_b10 := F_upper_b10.ext E20
  have E_b15 := E_b15.ext E20
  have F_bounded_b15 := F_bounded_b15.ext E20
  have F_lower_b15 := F_lower_b15.ext E20
  have F_upper_b15 := F_upper_b15.ext E20
  have E_b20 := A20
  have F_word_b20 : Fld Z h20 b20 "com/example/astraea/astraea/explicit/StateLayout" "word" "[I" .null := D20 (Or.inr (hw _ (List.mem_of_getElem? (i := 117) rfl))) (ty := (.array .int)) (by decide)
  have F_shift_b20 : Fld Z h20 b20 "com/example/astraea/astraea/explicit/StateLayout" "shift" "[I" .null := D20 (Or.inr (hw _ (List.mem_of_getElem? (i := 119) rfl))) (ty := (.array .int)) (by decide)
  have F_mask_b20 : Fld Z h20 b20 "com/example/astraea/astraea/explicit/StateLayout" "mask" "[J" .null := D20 (Or.inr (hw _ (List.mem_of_getElem? (i := 122) rfl))) (ty := (.array .long)) (by decide)
  have F_lower_b20 : Fld Z h20 b20 "com/example/astraea/astraea/explicit/StateLayout" "lower" "[J" .null := D20 (Or.inr (hw _ (List.mem_of_getElem? (i := 124) rfl))) (ty := (.array .long)) (by decide)
  have F_words_b20 : Fld Z h20 b20 "com/example/astraea/astraea/explicit/StateLayout" "words" "I" (.int (0 : Int32)) := D20 (Or.inr (hw _ (List.mem_of_getElem? (i := 177) rfl))) (ty := .int) (by decide)
  have X20 : Stand p l e room_1 (s.setVm T16.vm) m #[(.long q1), (.long q2), (.long q3), (.long q4), (.long q5), (.int p6)] below meth c T20 lc19 12 60 := X20
  refine own_st (T' := T20) (g' := (mkF m 142 #[.val (.long q1), .second, .val (.long q2), .second, .val (.long q3), .second, .val (.long q4), .second, .val (.long q5), .second, .val (.int p6), .val (.long span0), .second, .val (.long span2), .second, .val (.long r1), .second, .val (.long r2), .second, .val (.int qa), .val (.ref b3), .unset, .unset, .unset, .unset, .unset, .unset, .unset] [(.ref b20)])) st20 ?_
  refine own_st (T' := T20) (g' := (mkF m 143 #[.val (.long q1), .second, .val (.long q2), .second, .val (.long q3), .second, .val (.long q4), .second, .val (.long q5), .second, .val (.int p6), .val (.long span0), .second, .val (.long span2), .second, .val (.long r1), .second, .val (.long r2), .second, .val (.int qa), .val (.ref b3), .unset, .unset, .unset, .unset, .unset, .unset, .unset] [(.ref b20), (.ref b20)])) (fun t k => XS.dup X20.here hx rfl (hb hby at_142) rfl rfl k) ?_
  refine own_st (T' := T20) (g' := (mkF m 145 #[.val (.long q1), .second, .val (.long q2), .second, .val (.long q3), .second, .val (.long q4), .second, .val (.long q5), .second, .val (.int p6), .val (.long span0), .second, .val (.long span2), .second, .val (.long r1), .second, .val (.long r2), .second, .val (.int qa), .val (.ref b3), .unset, .unset, .unset, .unset, .unset, .unset, .unset] [(.ref b3), (.ref b20), (.ref b20)])) (fun t k => XS.aload X20.here hx rfl (hb hby at_143) rfl rfl k) ?_
  obtain ⟨_, T21, L21, hQ21, X21, st21⟩ := own_callI (y := (⟨"com/example/astraea/astraea/explicit/StateLayout", "<init>", "(Ljava/util/List;)V"⟩ : MethodName)) (argsL := [(.ref b3)]) 1 [(.ref b20)] (own_rm13 l Z a0 hw h20 n0 Z20 b20 b3 g_b20 E_b20 _ F_words_b20 _ F_word_b20 _ F_shift_b20 _ F_mask_b20 _ F_lower_b20 o9 b5 b10 b15 k9 E_b3 F_size_b3 F_elementData_b3 V_o9 (1 : Int32) r1 (r1 + span0) (Or.inr rfl) E_b5 F_bounded_b5 F_lower_b5 F_upper_b5 bw0 hbw0 hr_0 (0 : Int32) (0 : Int64) (0 : Int64) (Or.inl rfl) E_b10 F_bounded_b10 F_lower_b10 F_upper_b10 bw1 hbw1 hr_1 (1 : Int32) r2 (r2 + span2) (Or.inr rfl) E_b15 F_bounded_b15 F_lower_b15 F_upper_b15 bw2 hbw2 hr_2 ne_b3_b20 ne_o9_b20 ne_b5_b20 ne_b10_b20 ne_b15_b20 h64_0 h64_1 h64_2) X20 hx hZ hown rfl (hw _ (List.mem_of_getElem? (i := 102) rfl)) (hw _ (List.mem_of_getElem? (i := 103) rfl)) (hw _ (List.mem_of_getElem? (i := 104) rfl)) (hw _ (List.mem_of_getElem? (i := 101) rfl)) (by decide) (by decide) (by decide) (by decide) (by decide) e20 (g := (mkF m 145 #[.val (.long q1), .second, .val (.long q2), .second, .val (.long q3), .second, .val (.long q4), .second, .val (.long q5), .second, .val (.int p6), .val (.long span0), .second, .val (.long span2), .second, .val (.long r1), .second, .val (.long r2), .second, .val (.int qa), .val (.ref b3), .unset, .unset, .unset, .unset, .unset, .unset, .unset] [(.ref b3), (.ref b20), (.ref b20)])) rfl (by rw [hml]; rfl) (lenOf own_pd16 rfl) rfl (by show 2 * 0 + _ ≤ _; exact Nat.le_of_eq rfl) (hb hby at_145)
  obtain ⟨rfl, N21q, Kq21, w0, w1, w2, s0, s1, s2, m0, m1, m2, l0, l1, l2, u, ⟨E_b20, F_words_b20, aw, as_, am, al, kw, ks, km, kl, F_word_b20, F_shift_b20, F_mask_b20, F_lower_b20, V_aw, V_as_, V_am, V_al⟩, hlay, hlx⟩ := hQ21
  have Z21 : n0 ≤ T21.heap.size := Nat.le_trans Z20 Kq21.1
  have hkS := Nat.le_trans hkS Kq21.1
  have E_b3 := E_b3.keep Kq21
  have F_modCount_b3 := F_modCount_b3.keep Kq21 (ninS ne_b3_b20 nin0)
  have F_elementData_b3 := F_elementData_b3.keep Kq21 (ninS ne_b3_b20 nin0)
  have F_size_b3 := F_size_b3.keep Kq21 (ninS ne_b3_b20 nin0)
  have E_b5 := E_b5.keep Kq21
  have F_bounded_b5 := F_bounded_b5.keep Kq21 (ninS ne_b5_b20 nin0)
  have F_lower_b5 := F_lower_b5.keep Kq21 (ninS ne_b5_b20 nin0)
  have F_upper_b5 := F_upper_b5.keep Kq21 (ninS ne_b5_b20 nin0)
  have V_o9 := V_o9.keep Kq21 (ninS ne_o9_b20 nin0)
  have O := O.keep Kq21 (allS g_b20 all0)
  have E_b10 := E_b10.keep Kq21
  have F_bounded_b10 := F_bounded_b10.keep Kq21 (ninS ne_b10_b20 nin0)
  have F_lower_b10 := F_lower_b10.keep Kq21 (ninS ne_b10_b20 nin0)
  have F_upper_b10 := F_upper_b10.keep Kq21 (ninS ne_b10_b20 nin0)
  have E_b15 := E_b15.keep Kq21
  have F_bounded_b15 := F_bounded_b15.keep Kq21 (ninS ne_b15_b20 nin0)
  have F_lower_b15 := F_lower_b15.keep Kq21 (ninS ne_b15_b20 nin0)
  have F_upper_b15 := F_upper_b15.keep Kq21 (ninS ne_b15_b20 nin0)
  have N21 := Fr.app N19 N21q
  generalize hlc21 : (lc19 ++ L21 : List Loc) = lc21 at X21 N21
  have X21 : Stand p l e room_1 (s.setVm T16.vm) m #[(.long q1), (.long q2), (.long q3), (.long q4), (.long q5), (.int p6)] below meth c T21 lc21 16 72 := X21
  refine own_st (T' := T21) (g' := (mkF m 148 #[.val (.long q1), .second, .val (.long q2), .second, .val (.long q3), .second, .val (.long q4), .second, .val (.long q5), .second, .val (.int p6), .val (.long span0), .second, .val (.long span2), .second, .val (.long r1), .second, .val (.long r2), .second, .val (.int qa), .val (.ref b3), .unset, .unset, .unset, .unset, .unset, .unset, .unset] [(.ref b20)])) st21 ?_
  refine own_st (T' := T21) (g' := (mkF m 150 #[.val (.long q1), .second, .val (.long q2), .second, .val (.long q3), .second, .val (.long q4), .second, .val (.long q5), .second, .val (.int p6), .val (.long span0), .second, .val (.long span2), .second, .val (.long r1), .second, .val (.long r2), .second, .val (.int qa), .val (.ref b3), .val (.ref b20), .unset, .unset, .unset, .unset, .unset, .unset] [])) (fun t k => XS.astore X21.here hx rfl (hb hby at_148) rfl rfl (l' := #[.val (.long q1), .second, .val (.long q2), .second, .val (.long q3), .second, .val (.long q4), .second, .val (.long q5), .second, .val (.int p6), .val (.long span0), .second, .val (.long span2), .second, .val (.long r1), .second, .val (.long r2), .second, .val (.int qa), .val (.ref b3), .val (.ref b20), .unset, .unset, .unset, .unset, .unset, .unset]) rfl k) ?_
  refine own_st (T' := T21) (g' := (mkF m 152 #[.val (.long q1), .second, .val (.long q2), .second, .val (.long q3), .second, .val (.long q4), .second, .val (.long q5), .second, .val (.int p6), .val (.long span0), .second, .val (.long span2), .second, .val (.long r1), .second, .val (.long r2), .second, .val (.int qa), .val (.ref b3), .val (.ref b20), .unset, .unset, .unset, .unset, .unset, .unset] [(.ref b20)])) (fun t k => XS.aload X21.here hx rfl (hb hby at_150) rfl rfl k) ?_
  obtain ⟨_, T22, L22, hQ22, X22, st22⟩ := own_callV (y := (⟨"com/example/astraea/astraea/explicit/StateLayout", "words", "()I"⟩ : MethodName)) (z := (⟨"com/example/astraea/astraea/explicit/StateLayout", "words", "()I"⟩ : MethodName)) (argsL := []) 0 [] (K := "com/example/astraea/astraea/explicit/StateLayout") (own_rm25 l Z a0 hw T21.heap n0 Z21 b20 _ F_words_b20) X21 hx hZ hown (hw _ (List.mem_of_getElem? (i := 178) rfl)) (hw _ (List.mem_of_getElem? (i := 179) rfl)) (notFace_of_selects (args := #[]) (mvT hZ (hw _ (List.mem_of_getElem? (i := 181) rfl)))) (hw _ (List.mem_of_getElem? (i := 181) rfl)) (hw _ (List.mem_of_getElem? (i := 180) rfl)) (hw _ (List.mem_of_getElem? (i := 182) rfl)) (hw _ (List.mem_of_getElem? (i := 101) rfl)) (by decide) (by decide) (by decide) (by decide) (by decide) rfl E_b20 (g := (mkF m 152 #[.val (.long q1), .second, .val (.long q2), .second, .val (.long q3), .second, .val (.long q4), .second, .val (.long q5), .second, .val (.int p6), .val (.long span0), .second, .val (.long span2), .second, .val (.long r1), .second, .val (.long r2), .second, .val (.int qa), .val (.ref b3), .val (.ref b20), .unset, .unset, .unset, .unset, .unset, .unset] [(.ref b20)])) rfl (by rw [hml]; rfl) (lenOf own_pd11 rfl) rfl (by show 2 * 0 + _ ≤ _; exact Nat.le_of_eq rfl) (hb hby at_152)
  obtain ⟨rfl, e22, rfl⟩ := hQ22
  have X22 : Stand p l e room_1 (s.setVm T16.vm) m #[(.long q1), (.long q2), (.long q3), (.long q4), (.long q5), (.int p6)] below meth c T22 lc21 16 72 := by have := X22; rwa [List.append_nil] at this
  refine own_st (T' := T22) (g' := (mkF m 155 #[.val (.long q1), .second, .val (.long q2), .second, .val (.long q3), .second, .val (.long q4), .second, .val (.long q5), .second, .val (.int p6), .val (.long span0), .second, .val (.long span2), .second, .val (.long r1), .second, .val (.long r2), .second, .val (.int qa), .val (.ref b3), .val (.ref b20), .unset, .unset, .unset, .unset, .unset, .unset] [(.int u)])) st22 ?_
  refine own_st (T' := T22) (g' := (mkF m 157 #[.val (.long q1), .second, .val (.long q2), .second, .val (.long q3), .second, .val (.long q4), .second, .val (.long q5), .second, .val (.int p6), .val (.long span0), .second, .val (.long span2), .second, .val (.long r1), .second, .val (.long r2), .second, .val (.int qa), .val (.ref b3), .val (.ref b20), .val (.int u), .unset, .unset, .unset, .unset, .unset] [])) (fun t k => XS.istore X22.here hx rfl (hb hby at_155) rfl (l' := #[.val (.long q1), .second, .val (.long q2), .second, .val (.long q3), .second, .val (.long q4), .second, .val (.long q5), .second, .val (.int p6), .val (.long span0), .second, .val (.long span2), .second, .val (.long r1), .second, .val (.long r2), .second, .val (.int qa), .val (.ref b3), .val (.ref b20), .val (.int u), .unset, .unset, .unset, .unset, .unset]) rfl k) ?_
  refine own_st (T' := T22) (g' := (mkF m 159 #[.val (.long q1), .second, .val (.long q2), .second, .val (.long q3), .second, .val (.long q4), .second, .val (.long q5), .second, .val (.int p6), .val (.long span0), .second, .val (.long span2), .second, .val (.long r1), .second, .val (.long r2), .second, .val (.int qa), .val (.ref b3), .val (.ref b20), .val (.int u), .unset, .unset, .unset, .unset, .unset] [(.int u)])) (fun t k => XS.iload X22.here hx rfl (hb hby at_157) rfl k) ?_
  refine own_st (T' := T22) (g' := (mkF m 160 #[.val (.long q1), .second, .val (.long q2), .second, .val (.long q3), .second, .val (.long q4), .second, .val (.long q5), .second, .val (.int p6), .val (.long span0), .second, .val (.long span2), .second, .val (.long r1), .second, .val (.long r2), .second, .val (.int qa), .val (.ref b3), .val (.ref b20), .val (.int u), .unset, .unset, .unset, .unset, .unset] [(.int (2 : Int32)), (.int u)])) (fun t k => XS.iconst X22.here hx rfl (hb hby at_159) k) ?_
  have hk23 : ¬ (u < (2 : Int32)) := own_u2 hlx
  refine own_st (T' := T22) (g' := (mkF m 163 #[.val (.long q1), .second, .val (.long q2), .second, .val (.long q3), .second, .val (.long q4), .second, .val (.long q5), .second, .val (.int p6), .val (.long span0), .second, .val (.long span2), .second, .val (.long r1), .second, .val (.long r2), .second, .val (.int qa), .val (.ref b3), .val (.ref b20), .val (.int u), .unset, .unset, .unset, .unset, .unset] [])) (fun t k => XS.icmpNo X22.here hx rfl (hb hby at_160) rfl (flt hk23).1 k) ?_
  refine own_st (T' := T22) (g' := (mkF m 165 #[.val (.long q1), .second, .val (.long q2), .second, .val (.long q3), .second, .val (.long q4), .second, .val (.long q5), .second, .val (.int p6), .val (.long span0), .second, .val (.long span2), .second, .val (.long r1), .second, .val (.long r2), .second, .val (.int qa), .val (.ref b3), .val (.ref b20), .val (.int u), .unset, .unset, .unset, .unset, .unset] [(.int u)])) (fun t k => XS.iload X22.here hx rfl (hb hby at_163) rfl k) ?_
  refine own_st (T' := T22) (g' := (mkF m 166 #[.val (.long q1), .second, .val (.long q2), .second, .val (.long q3), .second, .val (.long q4), .second, .val (.long q5), .second, .val (.int p6), .val (.long span0), .second, .val (.long span2), .second, .val (.long r1), .second, .val (.long r2), .second, .val (.int qa), .val (.ref b3), .val (.ref b20), .val (.int u), .unset, .unset, .unset, .unset, .unset] [(.int (3 : Int32)), (.int u)])) (fun t k => XS.iconst X22.here hx rfl (hb hby at_165) k) ?_
  have hk24 : ¬ ((3 : Int32) < u) := own_u3 hlx
  refine own_st (T' := T22) (g' := (mkF m 171 #[.val (.long q1), .second, .val (.long q2), .second, .val (.long q3), .second, .val (.long q4), .second, .val (.long q5), .second, .val (.int p6), .val (.long span0), .second, .val (.long span2), .second, .val (.long r1), .second, .val (.long r2), .second, .val (.int qa), .val (.ref b3), .val (.ref b20), .val (.int u), .unset, .unset, .unset, .unset, .unset] [])) (fun t k => XS.icmpYes X22.here hx rfl (pc0 := 166) (pc' := 171) rfl (hb hby at_166) rfl (flt hk24).2.2.2 (by decide) (by decide) k) ?_
  refine own_st (T' := T22) (g' := (mkF m 172 #[.val (.long q1), .second, .val (.long q2), .second, .val (.long q3), .second, .val (.long q4), .second, .val (.long q5), .second, .val (.int p6), .val (.long span0), .second, .val (.long span2), .second, .val (.long r1), .second, .val (.long r2), .second, .val (.int qa), .val (.ref b3), .val (.ref b20), .val (.int u), .unset, .unset, .unset, .unset, .unset] [(.int (3 : Int32))])) (fun t k => XS.iconst X22.here hx rfl (hb hby at_171) k) ?_
  obtain ⟨T25, h25, k25, X25, e25, E25, A25, Ex25, st25⟩ := newPE X22 hx hZ (aty := .long) (hw _ (List.mem_of_getElem? (i := 120) rfl)) e22 (g := (mkF m 172 #[.val (.long q1), .second, .val (.long q2), .second, .val (.long q3), .second, .val (.long q4), .second, .val (.long q5), .second, .val (.int p6), .val (.long span0), .second, .val (.long span2), .second, .val (.long r1), .second, .val (.long r2), .second, .val (.int qa), .val (.ref b3), .val (.ref b20), .val (.int u), .unset, .unset, .unset, .unset, .unset] [(.int (3 : Int32))])) rfl (hb hby at_172) rfl (by decide) (cap := 3) (by decide) (by decide) (by decide) (by decide) (ad := "[J") (by decide)
  obtain ⟨b25, gb25⟩ : ∃ z, z = T21.heap.size := ⟨_, rfl⟩
  rw [← gb25] at A25 Ex25 st25
  have ne_b3_b25 : b3 ≠ b25 := by rw [gb25]; exact Nat.ne_of_lt E_b3.lt
  have ne_b5_b25 : b5 ≠ b25 := by rw [gb25]; exact Nat.ne_of_lt E_b5.lt
  have ne_o9_b25 : o9 ≠ b25 := by rw [gb25]; exact Nat.ne_of_lt V_o9.lt
  have ne_b10_b25 : b10 ≠ b25 := by rw [gb25]; exact Nat.ne_of_lt E_b10.lt
  have ne_b15_b25 : b15 ≠ b25 := by rw [gb25]; exact Nat.ne_of_lt E_b15.lt
  have ne_b20_b25 : b20 ≠ b25 := by rw [gb25]; exact Nat.ne_of_lt E_b20.lt
  have ne_aw_b25 : aw ≠ b25 := by rw [gb25]; exact Nat.ne_of_lt V_aw.lt
  have ne_as__b25 : as_ ≠ b25 := by rw [gb25]; exact Nat.ne_of_lt V_as_.lt
  have ne_am_b25 : am ≠ b25 := by rw [gb25]; exact Nat.ne_of_lt V_am.lt
  have ne_al_b25 : al ≠ b25 := by rw [gb25]; exact Nat.ne_of_lt V_al.lt
  have g_b25 : n0 ≤ b25 := Nat.le_trans Z21 (Nat.le_of_eq gb25.symm)
  have Z25 : n0 ≤ h25.size := Nat.le_trans Z21 E25.1
  have hkS := Nat.le_trans hkS E25.1
  have E_b3 := E_b3.ext E25
  have F_modCount_b3 := F_modCount_b3.ext E25
  have F_elementData_b3 := F_elementData_b3.ext E25
  have F_size_b3 := F_size_b3.ext E25
  have E_b5 := E_b5.ext E25
  have F_bounded_b5 := F_bounded_b5.ext E25
  have F_lower_b5 := F_lower_b5.ext E25
  have F_upper_b5 := F_upper_b5.ext E25
  have V_o9 := V_o9.ext E25
  have O := O.ext E25
  have E_b10 := E_b10.ext E25
  have F_bounded_b10 := F_bounded_b10.ext E25
  have F_lower_b10 := F_lower_b10.ext E25
  have F_upper_b10 := F_upper_b10.ext E25
  have E_b15 := E_b15.ext E25
  have F_bounded_b15 := F_bounded_b15.ext E25
  have F_lower_b15 := F_lower_b15.ext E25
  have F_upper_b15 := F_upper_b15.ext E25
  have E_b20 := E_b20.ext E25
  have F_word_b20 := F_word_b20.ext E25
  have F_shift_b20 := F_shift_b20.ext E25
  have F_mask_b20 := F_mask_b20.ext E25
  have F_lower_b20 := F_lower_b20.ext E25
  have F_words_b20 := F_words_b20.ext E25
  have V_aw := V_aw.ext E25
  have V_as_ := V_as_.ext E25
  have V_am := V_am.ext E25
  have V_al := V_al.ext E25
  have V_b25 : Arv Z h25 b25 k25 .long (3 : Int32) [(.long (0 : Int64)), (.long (0 : Int64)), (.long (0 : Int64))] (.long (0 : Int64)) := (Arv.new A25 (by decide)).pad (pad_rep [] (.long (0 : Int64)) 3)
  have E_b25 := Ex25
  have X25 : Stand p l e room_1 (s.setVm T16.vm) m #[(.long q1), (.long q2), (.long q3), (.long q4), (.long q5), (.int p6)] below meth c T25 lc21 17 75 := X25
  refine own_st (T' := T25) (g' := (mkF m 174 #[.val (.long q1), .second, .val (.long q2), .second, .val (.long q3), .second, .val (.long q4), .second, .val (.long q5), .second, .val (.int p6), .val (.long span0), .second, .val (.long span2), .second, .val (.long r1), .second, .val (.long r2), .second, .val (.int qa), .val (.ref b3), .val (.ref b20), .val (.int u), .unset, .unset, .unset, .unset, .unset] [(.ref b25)])) st25 ?_
  refine own_st (T' := T25) (g' := (mkF m 176 #[.val (.long q1), .second, .val (.long q2), .second, .val (.long q3), .second, .val (.long q4), .second, .val (.long q5), .second, .val (.int p6), .val (.long span0), .second, .val (.long span2), .second, .val (.long r1), .second, .val (.long r2), .second, .val (.int qa), .val (.ref b3), .val (.ref b20), .val (.int u), .val (.ref b25), .unset, .unset, .unset, .unset] [])) (fun t k => XS.astore X25.here hx rfl (hb hby at_174) rfl rfl (l' := #[.val (.long q1), .second, .val (.long q2), .second, .val (.long q3), .second, .val (.long q4), .second, .val (.long q5), .second, .val (.int p6), .val (.long span0), .second, .val (.long span2), .second, .val (.long r1), .second, .val (.long r2), .second, .val (.int qa), .val (.ref b3), .val (.ref b20), .val (.int u), .val (.ref b25), .unset, .unset, .unset, .unset]) rfl k) ?_
  refine own_st (T' := T25) (g' := (mkF m 178 #[.val (.long q1), .second, .val (.long q2), .second, .val (.long q3), .second, .val (.long q4), .second, .val (.long q5), .second, .val (.int p6), .val (.long span0), .second, .val (.long span2), .second, .val (.long r1), .second, .val (.long r2), .second, .val (.int qa), .val (.ref b3), .val (.ref b20), .val (.int u), .val (.ref b25), .unset, .unset, .unset, .unset] [(.ref b25)])) (fun t k => XS.aload X25.here hx rfl (hb hby at_176) rfl rfl k) ?_
  refine own_st (T' := T25) (g' := (mkF m 179 #[.val (.long q1), .second, .val (.long q2), .second, .val (.long q3), .second, .val (.long q4), .second, .val (.long q5), .second, .val (.int p6), .val (.long span0), .second, .val (.long span2), .second, .val (.long r1), .second, .val (.long r2), .second, .val (.int qa), .val (.ref b3), .val (.ref b20), .val (.int u), .val (.ref b25), .unset, .unset, .unset, .unset] [(.int (0 : Int32)), (.ref b25)])) (fun t k => XS.iconst X25.here hx rfl (hb hby at_178) k) ?_
  refine own_st (T' := T25) (g' := (mkF m 181 #[.val (.long q1), .second, .val (.long q2), .second, .val (.long q3), .second, .val (.long q4), .second, .val (.long q5), .second, .val (.int p6), .val (.long span0), .second, .val (.long span2), .second, .val (.long r1), .second, .val (.long r2), .second, .val (.int qa), .val (.ref b3), .val (.ref b20), .val (.int u), .val (.ref b25), .unset, .unset, .unset, .unset] [(.long r1), (.int (0 : Int32)), (.ref b25)])) (fun t k => XS.lload X25.here hx rfl (hb hby at_179) rfl k) ?_
  refine own_st (T' := T25) (g' := (mkF m 182 #[.val (.long q1), .second, .val (.long q2), .second, .val (.long q3), .second, .val (.long q4), .second, .val (.long q5), .second, .val (.int p6), .val (.long span0), .second, .val (.long span2), .second, .val (.long r1), .second, .val (.long r2), .second, .val (.int qa), .val (.ref b3), .val (.ref b20), .val (.int u), .val (.ref b25), .unset, .unset, .unset, .unset] [(.long q1), (.long r1), (.int (0 : Int32)), (.ref b25)])) (fun t k => XS.lloadN X25.here hx rfl (hb hby at_181) rfl k) ?_
  refine own_st (T' := T25) (g' := (mkF m 184 #[.val (.long q1), .second, .val (.long q2), .second, .val (.long q3), .second, .val (.long q4), .second, .val (.long q5), .second, .val (.int p6), .val (.long span0), .second, .val (.long span2), .second, .val (.long r1), .second, .val (.long r2), .second, .val (.int qa), .val (.ref b3), .val (.ref b20), .val (.int u), .val (.ref b25), .unset, .unset, .unset, .unset] [(.long span0), (.long q1), (.long r1), (.int (0 : Int32)), (.ref b25)])) (fun t k => XS.lload X25.here hx rfl (hb hby at_182) rfl k) ?_
  obtain ⟨r26, hr26⟩ : ∃ z, z = own_off q1 span0 := ⟨_, rfl⟩
  obtain ⟨_, T26, L26, hQ26, X26, st26⟩ := own_callS (y := (⟨"com/example/astraea/astraea/explicit/StateLayoutPackPinLaw", "off", "(JJ)J"⟩ : MethodName)) (argsL := [(.long q1), (.long span0)]) 4 [(.long r1), (.int (0 : Int32)), (.ref b25)] (own_rm26 l Z a0 hw h25 n0 Z25 q1 span0 _ hr26 hs0) X25 hx hZ hown (hw _ (List.mem_of_getElem? (i := 183) rfl)) (hw _ (List.mem_of_getElem? (i := 184) rfl)) (hw _ (List.mem_of_getElem? (i := 2) rfl)) (hw _ (List.mem_of_getElem? (i := 185) rfl)) (by decide) (by decide) (by decide) (by decide) (by decide) e25 (g := (mkF m 184 #[.val (.long q1), .second, .val (.long q2), .second, .val (.long q3), .second, .val (.long q4), .second, .val (.long q5), .second, .val (.int p6), .val (.long span0), .second, .val (.long span2), .second, .val (.long r1), .second, .val (.long r2), .second, .val (.int qa), .val (.ref b3), .val (.ref b20), .val (.int u), .val (.ref b25), .unset, .unset, .unset, .unset] [(.long span0), (.long q1), (.long r1), (.int (0 : Int32)), (.ref b25)])) rfl (by rw [hml]; rfl) (lenOf own_pd13 rfl) rfl (by show 2 * 0 + _ ≤ _; exact Nat.le_of_eq rfl) (hb hby at_184)
  obtain ⟨rfl, e26, rfl⟩ := hQ26
  have X26 : Stand p l e room_1 (s.setVm T16.vm) m #[(.long q1), (.long q2), (.long q3), (.long q4), (.long q5), (.int p6)] below meth c T26 lc21 17 75 := by have := X26; rwa [List.append_nil] at this
  refine own_st (T' := T26) (g' := (mkF m 187 #[.val (.long q1), .second, .val (.long q2), .second, .val (.long q3), .second, .val (.long q4), .second, .val (.long q5), .second, .val (.int p6), .val (.long span0), .second, .val (.long span2), .second, .val (.long r1), .second, .val (.long r2), .second, .val (.int qa), .val (.ref b3), .val (.ref b20), .val (.int u), .val (.ref b25), .unset, .unset, .unset, .unset] [(.long r26), (.long r1), (.int (0 : Int32)), (.ref b25)])) st26 ?_
  refine own_st (T' := T26) (g' := (mkF m 188 #[.val (.long q1), .second, .val (.long q2), .second, .val (.long q3), .second, .val (.long q4), .second, .val (.long q5), .second, .val (.int p6), .val (.long span0), .second, .val (.long span2), .second, .val (.long r1), .second, .val (.long r2), .second, .val (.int qa), .val (.ref b3), .val (.ref b20), .val (.int u), .val (.ref b25), .unset, .unset, .unset, .unset] [(.long (r1 + r26)), (.int (0 : Int32)), (.ref b25)])) (fun t k => XS.ladd X26.here hx rfl (hb hby at_187) rfl k) ?_
  obtain ⟨v0, hv0_⟩ : ∃ z, z = (r1 + r26) := ⟨_, rfl⟩
  rw [← hv0_]
  have hv0 := own_okoff hs0 hr26 hbw0 hv0_
  obtain ⟨cl27, Ar27, q27, S27, N27n, H27, G27⟩ := V_b25
  have hin27 : ¬ ((0 : Int32) < 0 ∨ cl27.slots.size ≤ ((0 : Int32) : Int32).toNatClampNeg) := inb_of S27 ⟨by decide, by decide⟩
  obtain ⟨T28, h28, X28, e28, W28, st28⟩ := stJ X26 hx hZ e26 Ar27 (j := (0 : Int32)) hin27 (g := (mkF m 188 #[.val (.long q1), .second, .val (.long q2), .second, .val (.long q3), .second, .val (.long q4), .second, .val (.long q5), .second, .val (.int p6), .val (.long span0), .second, .val (.long span2), .second, .val (.long r1), .second, .val (.long r2), .second, .val (.int qa), .val (.ref b3), .val (.ref b20), .val (.int u), .val (.ref b25), .unset, .unset, .unset, .unset] [(.long v0), (.int (0 : Int32)), (.ref b25)])) rfl rfl (hb hby at_188)
  have hkS := Nat.le_trans hkS (Keep.of_wr W28).1
  have E_b3 := E_b3.wr W28
  have F_modCount_b3 := F_modCount_b3.other W28 (Or.inl ne_b3_b25)
  have F_elementData_b3 := F_elementData_b3.other W28 (Or.inl ne_b3_b25)
  have F_size_b3 := F_size_b3.other W28 (Or.inl ne_b3_b25)
  have E_b5 := E_b5.wr W28
  have F_bounded_b5 := F_bounded_b5.other W28 (Or.inl ne_b5_b25)
  have F_lower_b5 := F_lower_b5.other W28 (Or.inl ne_b5_b25)
  have F_upper_b5 := F_upper_b5.other W28 (Or.inl ne_b5_b25)
  have V_o9 := V_o9.other W28 ne_o9_b25
  have O := O.wr W28 g_b25
  have E_b10 := E_b10.wr W28
  have F_bounded_b10 := F_bounded_b10.other W28 (Or.inl ne_b10_b25)
  have F_lower_b10 := F_lower_b10.other W28 (Or.inl ne_b10_b25)
  have F_upper_b10 := F_upper_b10.other W28 (Or.inl ne_b10_b25)
  have E_b15 := E_b15.wr W28
  have F_bounded_b15 := F_bounded_b15.other W28 (Or.inl ne_b15_b25)
  have F_lower_b15 := F_lower_b15.other W28 (Or.inl ne_b15_b25)
  have F_upper_b15 := F_upper_b15.other W28 (Or.inl ne_b15_b25)
  have E_b20 := E_b20.wr W28
  have F_word_b20 := F_word_b20.other W28 (Or.inl ne_b20_b25)
  have F_shift_b20 := F_shift_b20.other W28 (Or.inl ne_b20_b25)
  have F_mask_b20 := F_mask_b20.other W28 (Or.inl ne_b20_b25)
  have F_lower_b20 := F_lower_b20.other W28 (Or.inl ne_b20_b25)
  have F_words_b20 := F_words_b20.other W28 (Or.inl ne_b20_b25)
  have V_aw := V_aw.other W28 ne_aw_b25
  have V_as_ := V_as_.other W28 ne_as__b25
  have V_am := V_am.other W28 ne_am_b25
  have V_al := V_al.other W28 ne_al_b25
  have E_b25 := E_b25.wr W28
  have V_b25 : Arv Z h28 b25 k25 .long (3 : Int32) [(.long v0), (.long (0 : Int64)), (.long (0 : Int64))] (.long (0 : Int64)) := Arv.set Ar27 q27 S27 N27n H27 G27 rfl W28 0 rfl (Nat.le_of_ble_eq_true rfl)
  have N28 := Fr.snoc X28 N21 g_b25
  generalize hlc28 : (lc21 ++ [(⟨b25, ((0 : Int32) : Int32).toNatClampNeg⟩ : Loc)] : List Loc) = lc28 at X28 N28
  have Z28 : n0 ≤ h28.size := Nat.le_trans Z25 (Keep.of_wr W28).1
  refine own_st (T' := T28) (g' := (mkF m 189 #[.val (.long q1), .second, .val (.long q2), .second, .val (.long q3), .second, .val (.long q4), .second, .val (.long q5), .second, .val (.int p6), .val (.long span0), .second, .val (.long span2), .second, .val (.long r1), .second, .val (.long r2), .second, .val (.int qa), .val (.ref b3), .val (.ref b20), .val (.int u), .val (.ref b25), .unset, .unset, .unset, .unset] [])) st28 ?_
  refine own_st (T' := T28) (g' := (mkF m 191 #[.val (.long q1), .second, .val (.long q2), .second, .val (.long q3), .second, .val (.long q4), .second, .val (.long q5), .second, .val (.int p6), .val (.long span0), .second, .val (.long span2), .second, .val (.long r1), .second, .val (.long r2), .second, .val (.int qa), .val (.ref b3), .val (.ref b20), .val (.int u), .val (.ref b25), .unset, .unset, .unset, .unset] [(.ref b25)])) (fun t k => XS.aload X28.here hx rfl (hb hby at_189) rfl rfl k) ?_
  refine own_st (T' := T28) (g' := (mkF m 192 #[.val (.long q1), .second, .val (.long q2), .second, .val (.long q3), .second, .val (.long q4), .second, .val (.long q5), .second, .val (.int p6), .val (.long span0), .second, .val (.long span2), .second, .val (.long r1), .second, .val (.long r2), .second, .val (.int qa), .val (.ref b3), .val (.ref b20), .val (.int u), .val (.ref b25), .unset, .unset, .unset, .unset] [(.int (1 : Int32)), (.ref b25)])) (fun t k => XS.iconst X28.here hx rfl (hb hby at_191) k) ?_
  refine own_st (T' := T28) (g' := (mkF m 193 #[.val (.long q1), .second, .val (.long q2), .second, .val (.long q3), .second, .val (.long q4), .second, .val (.long q5), .second, .val (.int p6), .val (.long span0), .second, .val (.long span2), .second, .val (.long r1), .second, .val (.long r2), .second, .val (.int qa), .val (.ref b3), .val (.ref b20), .val (.int u), .val (.ref b25), .unset, .unset, .unset, .unset] [(.long q2), (.int (1 : Int32)), (.ref b25)])) (fun t k => XS.lloadN X28.here hx rfl (hb hby at_192) rfl k) ?_
  obtain ⟨cl29, Ar29, q29, S29, N29n, H29, G29⟩ := V_b25
  have hin29 : ¬ ((1 : Int32) < 0 ∨ cl29.slots.size ≤ ((1 : Int32) : Int32).toNatClampNeg) := inb_of S29 ⟨by decide, by decide⟩
  obtain ⟨T30, h30, X30, e30, W30, st30⟩ := stJ X28 hx hZ e28 Ar29 (j := (1 : Int32)) hin29 (g := (mkF m 193 #[.val (.long q1), .second, .val (.long q2), .second, .val (.long q3), .second, .val (.long q4), .second, .val (.long q5), .second, .val (.int p6), .val (.long span0), .second, .val (.long span2), .second, .val (.long r1), .second, .val (.long r2), .second, .val (.int qa), .val (.ref b3), .val (.ref b20), .val (.int u), .val (.ref b25), .unset, .unset, .unset, .unset] [(.long q2), (.int (1 : Int32)), (.ref b25)])) rfl rfl (hb hby at_193)
  have hkS := Nat.le_trans hkS (Keep.of_wr W30).1
  have E_b3 := E_b3.wr W30
  have F_modCount_b3 := F_modCount_b3.other W30 (Or.inl ne_b3_b25)
  have F_elementData_b3 := F_elementData_b3.other W30 (Or.inl ne_b3_b25)
  have F_size_b3 := F_size_b3.other W30 (Or.inl ne_b3_b25)
  have E_b5 := E_b5.wr W30
  have F_bounded_b5 := F_bounded_b5.other W30 (Or.inl ne_b5_b25)
  have F_lower_b5 := F_lower_b5.other W30 (Or.inl ne_b5_b25)
  have F_upper_b5 := F_upper_b5.other W30 (Or.inl ne_b5_b25)
  have V_o9 := V_o9.other W30 ne_o9_b25
  have O := O.wr W30 g_b25
  have E_b10 := E_b10.wr W30
  have F_bounded_b10 := F_bounded_b10.other W30 (Or.inl ne_b10_b25)
  have F_lower_b10 := F_lower_b10.other W30 (Or.inl ne_b10_b25)
  have F_upper_b10 := F_upper_b10.other W30 (Or.inl ne_b10_b25)
  have E_b15 := E_b15.wr W30
  have F_bounded_b15 := F_bounded_b15.other W30 (Or.inl ne_b15_b25)
  have F_lower_b15 := F_lower_b15.other W30 (Or.inl ne_b15_b25)
  have F_upper_b15 := F_upper_b15.other W30 (Or.inl ne_b15_b25)
  have E_b20 := E_b20.wr W30
  have F_word_b20 := F_word_b20.other W30 (Or.inl ne_b20_b25)
  have F_shift_b20 := F_shift_b20.other W30 (Or.inl ne_b20_b25)
  have F_mask_b20 := F_mask_b20.other W30 (Or.inl ne_b20_b25)
  have F_lower_b20 := F_lower_b20.other W30 (Or.inl ne_b20_b25)
  have F_words_b20 := F_words_b20.other W30 (Or.inl ne_b20_b25)
  have V_aw := V_aw.other W30 ne_aw_b25
  have V_as_ := V_as_.other W30 ne_as__b25
  have V_am := V_am.other W30 ne_am_b25
  have V_al := V_al.other W30 ne_al_b25
  have E_b25 := E_b25.wr W30
  have V_b25 : Arv Z h30 b25 k25 .long (3 : Int32) [(.long v0), (.long q2), (.long (0 : Int64))] (.long (0 : Int64)) := Arv.set Ar29 q29 S29 N29n H29 G29 rfl W30 1 rfl (Nat.le_of_ble_eq_true rfl)
  have N30 := Fr.snoc X30 N28 g_b25
  generalize hlc30 : (lc28 ++ [(⟨b25, ((1 : Int32) : Int32).toNatClampNeg⟩ : Loc)] : List Loc) = lc30 at X30 N30
  have Z30 : n0 ≤ h30.size := Nat.le_trans Z28 (Keep.of_wr W30).1
  refine own_st (T' := T30) (g' := (mkF m 194 #[.val (.long q1), .second, .val (.long q2), .second, .val (.long q3), .second, .val (.long q4), .second, .val (.long q5), .second, .val (.int p6), .val (.long span0), .second, .val (.long span2), .second, .val (.long r1), .second, .val (.long r2), .second, .val (.int qa), .val (.ref b3), .val (.ref b20), .val (.int u), .val (.ref b25), .unset, .unset, .unset, .unset] [])) st30 ?_
  refine own_st (T' := T30) (g' := (mkF m 196 #[.val (.long q1), .second, .val (.long q2), .second, .val (.long q3), .second, .val (.long q4), .second, .val (.long q5), .second, .val (.int p6), .val (.long span0), .second, .val (.long span2), .second, .val (.long r1), .second, .val (.long r2), .second, .val (.int qa), .val (.ref b3), .val (.ref b20), .val (.int u), .val (.ref b25), .unset, .unset, .unset, .unset] [(.ref b25)])) (fun t k => XS.aload X30.here hx rfl (hb hby at_194) rfl rfl k) ?_
  refine own_st (T' := T30) (g' := (mkF m 197 #[.val (.long q1), .second, .val (.long q2), .second, .val (.long q3), .second, .val (.long q4), .second, .val (.long q5), .second, .val (.int p6), .val (.long span0), .second, .val (.long span2), .second, .val (.long r1), .second, .val (.long r2), .second, .val (.int qa), .val (.ref b3), .val (.ref b20), .val (.int u), .val (.ref b25), .unset, .unset, .unset, .unset] [(.int (2 : Int32)), (.ref b25)])) (fun t k => XS.iconst X30.here hx rfl (hb hby at_196) k) ?_
  refine own_st (T' := T30) (g' := (mkF m 199 #[.val (.long q1), .second, .val (.long q2), .second, .val (.long q3), .second, .val (.long q4), .second, .val (.long q5), .second, .val (.int p6), .val (.long span0), .second, .val (.long span2), .second, .val (.long r1), .second, .val (.long r2), .second, .val (.int qa), .val (.ref b3), .val (.ref b20), .val (.int u), .val (.ref b25), .unset, .unset, .unset, .unset] [(.long r2), (.int (2 : Int32)), (.ref b25)])) (fun t k => XS.lload X30.here hx rfl (hb hby at_197) rfl k) ?_
  refine own_st (T' := T30) (g' := (mkF m 201 #[.val (.long q1), .second, .val (.long q2), .second, .val (.long q3), .second, .val (.long q4), .second, .val (.long q5), .second, .val (.int p6), .val (.long span0), .second, .val (.long span2), .second, .val (.long r1), .second, .val (.long r2), .second, .val (.int qa), .val (.ref b3), .val (.ref b20), .val (.int u), .val (.ref b25), .unset, .unset, .unset, .unset] [(.long q3), (.long r2), (.int (2 : Int32)), (.ref b25)])) (fun t k => XS.lload X30.here hx rfl (hb hby at_199) rfl k) ?_
  refine own_st (T' := T30) (g' := (mkF m 203 #[.val (.long q1), .second, .val (.long q2), .second, .val (.long q3), .second, .val (.long q4), .second, .val (.long q5), .second, .val (.int p6), .val (.long span0), .second, .val (.long span2), .second, .val (.long r1), .second, .val (.long r2), .second, .val (.int qa), .val (.ref b3), .val (.ref b20), .val (.int u), .val (.ref b25), .unset, .unset, .unset, .unset] [(.long span2), (.long q3), (.long r2), (.int (2 : Int32)), (.ref b25)])) (fun t k => XS.lload X30.here hx rfl (hb hby at_201) rfl k) ?_
  obtain ⟨r31, hr31⟩ : ∃ z, z = own_off q3 span2 := ⟨_, rfl⟩
  obtain ⟨_, T31, L31, hQ31, X31, st31⟩ := own_callS (y := (⟨"com/example/astraea/astraea/explicit/StateLayoutPackPinLaw", "off", "(JJ)J"⟩ : MethodName)) (argsL := [(.long q3), (.long span2)]) 4 [(.long r2), (.int (2 : Int32)), (.ref b25)] (own_rm26 l Z a0 hw h30 n0 Z30 q3 span2 _ hr31 hs2) X30 hx hZ hown (hw _ (List.mem_of_getElem? (i := 183) rfl)) (hw _ (List.mem_of_getElem? (i := 184) rfl)) (hw _ (List.mem_of_getElem? (i := 2) rfl)) (hw _ (List.mem_of_getElem? (i := 185) rfl)) (by decide) (by decide) (by decide) (by decide) (by decide) e30 (g := (mkF m 203 #[.val (.long q1), .second, .val (.long q2), .second, .val (.long q3), .second, .val (.long q4), .second, .val (.long q5), .second, .val (.int p6), .val (.long span0), .second, .val (.long span2), .second, .val (.long r1), .second, .val (.long r2), .second, .val (.int qa), .val (.ref b3), .val (.ref b20), .val (.int u), .val (.ref b25), .unset, .unset, .unset, .unset] [(.long span2), (.long q3), (.long r2), (.int (2 : Int32)), (.ref b25)])) rfl (by rw [hml]; rfl) (lenOf own_pd13 rfl) rfl (by show 2 * 0 + _ ≤ _; exact Nat.le_of_eq rfl) (hb hby at_203)
  obtain ⟨rfl, e31, rfl⟩ := hQ31
  have X31 : Stand p l e room_1 (s.setVm T16.vm) m #[(.long q1), (.long q2), (.long q3), (.long q4), (.long q5), (.int p6)] below meth c T31 lc30 17 75 := by have := X31; rwa [List.append_nil] at this
  refine own_st (T' := T31) (g' := (mkF m 206 #[.val (.long q1), .second, .val (.long q2), .second, .val (.long q3), .second, .val (.long q4), .second, .val (.long q5), .second, .val (.int p6), .val (.long span0), .second, .val (.long span2), .second, .val (.long r1), .second, .val (.long r2), .second, .val (.int qa), .val (.ref b3), .val (.ref b20), .val (.int u), .val (.ref b25), .unset, .unset, .unset, .unset] [(.long r31), (.long r2), (.int (2 : Int32)), (.ref b25)])) st31 ?_
  refine own_st (T' := T31) (g' := (mkF m 207 #[.val (.long q1), .second, .val (.long q2), .second, .val (.long q3), .second, .val (.long q4), .second, .val (.long q5), .second, .val (.int p6), .val (.long span0), .second, .val (.long span2), .second, .val (.long r1), .second, .val (.long r2), .second, .val (.int qa), .val (.ref b3), .val (.ref b20), .val (.int u), .val (.ref b25), .unset, .unset, .unset, .unset] [(.long (r2 + r31)), (.int (2 : Int32)), (.ref b25)])) (fun t k => XS.ladd X31.here hx rfl (hb hby at_206) rfl k) ?_
  obtain ⟨v2, hv2_⟩ : ∃ z, z = (r2 + r31) := ⟨_, rfl⟩
  rw [← hv2_]
  have hv2 := own_okoff hs2 hr31 hbw2 hv2_
  obtain ⟨cl32, Ar32, q32, S32, N32n, H32, G32⟩ := V_b25
  have hin32 : ¬ ((2 : Int32) < 0 ∨ cl32.slots.size ≤ ((2 : Int32) : Int32).toNatClampNeg) := inb_of S32 ⟨by decide, by decide⟩
  obtain ⟨T33, h33, X33, e33, W33, st33⟩ := stJ X31 hx hZ e31 Ar32 (j := (2 : Int32)) hin32 (g := (mkF m 207 #[.val (.long q1), .second, .val (.long q2), .second, .val (.long q3), .second, .val (.long q4), .second, .val (.long q5), .second, .val (.int p6), .val (.long span0), .second, .val (.long span2), .second, .val (.long r1), .second, .val (.long r2), .second, .val (.int qa), .val (.ref b3), .val (.ref b20), .val (.int u), .val (.ref b25), .unset, .unset, .unset, .unset] [(.long v2), (.int (2 : Int32)), (.ref b25)])) rfl rfl (hb hby at_207)
  have hkS := Nat.le_trans hkS (Keep.of_wr W33).1
  have E_b3 := E_b3.wr W33
  have F_modCount_b3 := F_modCount_b3.other W33 (Or.inl ne_b3_b25)
  have F_elementData_b3 := F_elementData_b3.other W33 (Or.inl ne_b3_b25)
  have F_size_b3 := F_size_b3.other W33 (Or.inl ne_b3_b25)
  have E_b5 := E_b5.wr W33
  have F_bounded_b5 := F_bounded_b5.other W33 (Or.inl ne_b5_b25)
  have F_lower_b5 := F_lower_b5.other W33 (Or.inl ne_b5_b25)
  have F_upper_b5 := F_upper_b5.other W33 (Or.inl ne_b5_b25)
  have V_o9 := V_o9.other W33 ne_o9_b25
  have O := O.wr W33 g_b25
  have E_b10 := E_b10.wr W33
  have F_bounded_b10 := F_bounded_b10.other W33 (Or.inl ne_b10_b25)
  have F_lower_b10 := F_lower_b10.other W33 (Or.inl ne_b10_b25)
  have F_upper_b10 := F_upper_b10.other W33 (Or.inl ne_b10_b25)
  have E_b15 := E_b15.wr W33
  have F_bounded_b15 := F_bounded_b15.other W33 (Or.inl ne_b15_b25)
  have F_lower_b15 := F_lower_b15.other W33 (Or.inl ne_b15_b25)
  have F_upper_b15 := F_upper_b15.other W33 (Or.inl ne_b15_b25)
  have E_b20 := E_b20.wr W33
  have F_word_b20 := F_word_b20.other W33 (Or.inl ne_b20_b25)
  have F_shift_b20 := F_shift_b20.other W33 (Or.inl ne_b20_b25)
  have F_mask_b20 := F_mask_b20.other W33 (Or.inl ne_b20_b25)
  have F_lower_b20 := F_lower_b20.other W33 (Or.inl ne_b20_b25)
  have F_words_b20 := F_words_b20.other W33 (Or.inl ne_b20_b25)
  have V_aw := V_aw.other W33 ne_aw_b25
  have V_as_ := V_as_.other W33 ne_as__b25
  have V_am := V_am.other W33 ne_am_b25
  have V_al := V_al.other W33 ne_al_b25
  have E_b25 := E_b25.wr W33
  have V_b25 : Arv Z h33 b25 k25 .long (3 : Int32) [(.long v0), (.long q2), (.long v2)] (.long (0 : Int64)) := Arv.set Ar32 q32 S32 N32n H32 G32 rfl W33 2 rfl (Nat.le_of_ble_eq_true rfl)
  have N33 := Fr.snoc X33 N30 g_b25
  generalize hlc33 : (lc30 ++ [(⟨b25, ((2 : Int32) : Int32).toNatClampNeg⟩ : Loc)] : List Loc) = lc33 at X33 N33
  have Z33 : n0 ≤ h33.size := Nat.le_trans Z30 (Keep.of_wr W33).1
  refine own_st (T' := T33) (g' := (mkF m 208 #[.val (.long q1), .second, .val (.long q2), .second, .val (.long q3), .second, .val (.long q4), .second, .val (.long q5), .second, .val (.int p6), .val (.long span0), .second, .val (.long span2), .second, .val (.long r1), .second, .val (.long r2), .second, .val (.int qa), .val (.ref b3), .val (.ref b20), .val (.int u), .val (.ref b25), .unset, .unset, .unset, .unset] [])) st33 ?_
  refine own_st (T' := T33) (g' := (mkF m 210 #[.val (.long q1), .second, .val (.long q2), .second, .val (.long q3), .second, .val (.long q4), .second, .val (.long q5), .second, .val (.int p6), .val (.long span0), .second, .val (.long span2), .second, .val (.long r1), .second, .val (.long r2), .second, .val (.int qa), .val (.ref b3), .val (.ref b20), .val (.int u), .val (.ref b25), .unset, .unset, .unset, .unset] [(.int (8 : Int32))])) (fun t k => XS.bipush X33.here hx rfl (hb hby at_208) k) ?_
  obtain ⟨T34, h34, k34, X34, e34, E34, A34, Ex34, st34⟩ := newPE X33 hx hZ (aty := .long) (hw _ (List.mem_of_getElem? (i := 120) rfl)) e33 (g := (mkF m 210 #[.val (.long q1), .second, .val (.long q2), .second, .val (.long q3), .second, .val (.long q4), .second, .val (.long q5), .second, .val (.int p6), .val (.long span0), .second, .val (.long span2), .second, .val (.long r1), .second, .val (.long r2), .second, .val (.int qa), .val (.ref b3), .val (.ref b20), .val (.int u), .val (.ref b25), .unset, .unset, .unset, .unset] [(.int (8 : Int32))])) rfl (hb hby at_210) rfl (by decide) (cap := 8) (by decide) (by decide) (by decide) (by decide) (ad := "[J") (by decide)
  obtain ⟨b34, gb34⟩ : ∃ z, z = h33.size := ⟨_, rfl⟩
  rw [← gb34] at A34 Ex34 st34
  have ne_b3_b34 : b3 ≠ b34 := by rw [gb34]; exact Nat.ne_of_lt E_b3.lt
  have ne_b5_b34 : b5 ≠ b34 := by rw [gb34]; exact Nat.ne_of_lt E_b5.lt
  have ne_o9_b34 : o9 ≠ b34 := by rw [gb34]; exact Nat.ne_of_lt V_o9.lt
  have ne_b10_b34 : b10 ≠ b34 := by rw [gb34]; exact Nat.ne_of_lt E_b10.lt
  have ne_b15_b34 : b15 ≠ b34 := by rw [gb34]; exact Nat.ne_of_lt E_b15.lt
  have ne_b20_b34 : b20 ≠ b34 := by rw [gb34]; exact Nat.ne_of_lt E_b20.lt
  have ne_aw_b34 : aw ≠ b34 := by rw [gb34]; exact Nat.ne_of_lt V_aw.lt
  have ne_as__b34 : as_ ≠ b34 := by rw [gb34]; exact Nat.ne_of_lt V_as_.lt
  have ne_am_b34 : am ≠ b34 := by rw [gb34]; exact Nat.ne_of_lt V_am.lt
  have ne_al_b34 : al ≠ b34 := by rw [gb34]; exact Nat.ne_of_lt V_al.lt
  have ne_b25_b34 : b25 ≠ b34 := by rw [gb34]; exact Nat.ne_of_lt V_b25.lt
  have g_b34 : n0 ≤ b34 := Nat.le_trans Z33 (Nat.le_of_eq gb34.symm)
  have Z34 : n0 ≤ h34.size := Nat.le_trans Z33 E34.1
  have hkS := Nat.le_trans hkS E34.1
  have E_b3 := E_b3.ext E34
  have F_modCount_b3 := F_modCount_b3.ext E34
  have F_elementData_b3 := F_elementData_b3.ext E34
  have F_size_b3 := F_size_b3.ext E34
  have E_b5 := E_b5.ext E34
  have F_bounded_b5 := F_bounded_b5.ext E34
  have F_lower_b5 := F_lower_b5.ext E34
  have F_upper_b5 := F_upper_b5.ext E34
  have V_o9 := V_o9.ext E34
  have O := O.ext E34
  have E_b10 := E_b10.ext E34
  have F_bounded_b10 := F_bounded_b10.ext E34
  have F_lower_b10 := F_lower_b10.ext E34
  have F_upper_b10 := F_upper_b10.ext E34
  have E_b15 := E_b15.ext E34
  have F_bounded_b15 := F_bounded_b15.ext E34
  have F_lower_b15 := F_lower_b15.ext E34
  have F_upper_b15 := F_upper_b15.ext E34
  have E_b20 := E_b20.ext E34
  have F_word_b20 := F_word_b20.ext E34
  have F_shift_b20 := F_shift_b20.ext E34
  have F_mask_b20 := F_mask_b20.ext E34
  have F_lower_b20 := F_lower_b20.ext E34
  have F_words_b20 := F_words_b20.ext E34
  have V_aw := V_aw.ext E34
  have V_as_ := V_as_.ext E34
  have V_am := V_am.ext E34
  have V_al := V_al.ext E34
  have V_b25 := V_b25.ext E34
  have E_b25 := E_b25.ext E34
  have V_b34 : Arv Z h34 b34 k34 .long (8 : Int32) [(.long (0 : Int64)), (.long (0 : Int64)), (.long (0 : Int64)), (.long (0 : Int64)), (.long (0 : Int64)), (.long (0 : Int64)), (.long (0 : Int64)), (.long (0 : Int64))] (.long (0 : Int64)) := (Arv.new A34 (by decide)).pad (pad_rep [] (.long (0 : Int64)) 8)
  have E_b34 := Ex34
  have X34 : Stand p l e room_1 (s.setVm T16.vm) m #[(.long q1), (.long q2), (.long q3), (.long q4), (.long q5), (.int p6)] below meth c T34 lc33 18 83 := X34
  refine own_st (T' := T34) (g' := (mkF m 212 #[.val (.long q1), .second, .val (.long q2), .second, .val (.long q3), .second, .val (.long q4), .second, .val (.long q5), .second, .val (.int p6), .val (.long span0), .second, .val (.long span2), .second, .val (.long r1), .second, .val (.long r2), .second, .val (.int qa), .val (.ref b3), .val (.ref b20), .val (.int u), .val (.ref b25), .unset, .unset, .unset, .unset] [(.ref b34)])) st34 ?_
  obtain ⟨P0, hP0⟩ : ∃ z : Nat → Int64, z = fun _ => 0 := ⟨_, rfl⟩
  have V_b34 : Arv Z h34 b34 k34 .long (8 : Int32) (own_ls 8 P0) (.long (0 : Int64)) := by rw [hP0]; exact V_b34
  refine own_st (T' := T34) (g' := (mkF m 214 #[.val (.long q1), .second, .val (.long q2), .second, .val (.long q3), .second, .val (.long q4), .second, .val (.long q5), .second, .val (.int p6), .val (.long span0), .second, .val (.long span2), .second, .val (.long r1), .second, .val (.long r2), .second, .val (.int qa), .val (.ref b3), .val (.ref b20), .val (.int u), .val (.ref b25), .val (.ref b34), .unset, .unset, .unset] [])) (fun t k => XS.astore X34.here hx rfl (hb hby at_212) rfl rfl (l' := #[.val (.long q1), .second, .val (.long q2), .second, .val (.long q3), .second, .val (.long q4), .second, .val (.long q5), .second, .val (.int p6), .val (.long span0), .second, .val (.long span2), .second, .val (.long r1), .second, .val (.long r2), .second, .val (.int qa), .val (.ref b3), .val (.ref b20), .val (.int u), .val (.ref b25), .val (.ref b34), .unset, .unset, .unset]) rfl k) ?_
  refine own_st (T' := T34) (g' := (mkF m 215 #[.val (.long q1), .second, .val (.long q2), .second, .val (.long q3), .second, .val (.long q4), .second, .val (.long q5), .second, .val (.int p6), .val (.long span0), .second, .val (.long span2), .second, .val (.long r1), .second, .val (.long r2), .second, .val (.int qa), .val (.ref b3), .val (.ref b20), .val (.int u), .val (.ref b25), .val (.ref b34), .unset, .unset, .unset] [(.int (3 : Int32))])) (fun t k => XS.iconst X34.here hx rfl (hb hby at_214) k) ?_
  obtain ⟨T35, h35, k35, X35, e35, E35, A35, Ex35, st35⟩ := newPE X34 hx hZ (aty := .long) (hw _ (List.mem_of_getElem? (i := 120) rfl)) e34 (g := (mkF m 215 #[.val (.long q1), .second, .val (.long q2), .second, .val (.long q3), .second, .val (.long q4), .second, .val (.long q5), .second, .val (.int p6), .val (.long span0), .second, .val (.long span2), .second, .val (.long r1), .second, .val (.long r2), .second, .val (.int qa), .val (.ref b3), .val (.ref b20), .val (.int u), .val (.ref b25), .val (.ref b34), .unset, .unset, .unset] [(.int (3 : Int32))])) rfl (hb hby at_215) rfl (by decide) (cap := 3) (by decide) (by decide) (by decide) (by decide) (ad := "[J") (by decide)
  obtain ⟨b35, gb35⟩ : ∃ z, z = h34.size := ⟨_, rfl⟩
  rw [← gb35] at A35 Ex35 st35
  have ne_b3_b35 : b3 ≠ b35 := by rw [gb35]; exact Nat.ne_of_lt E_b3.lt
  have ne_b5_b35 : b5 ≠ b35 := by rw [gb35]; exact Nat.ne_of_lt E_b5.lt
  have ne_o9_b35 : o9 ≠ b35 := by rw [gb35]; exact Nat.ne_of_lt V_o9.lt
  have ne_b10_b35 : b10 ≠ b35 := by rw [gb35]; exact Nat.ne_of_lt E_b10.lt
  have ne_b15_b35 : b15 ≠ b35 := by rw [gb35]; exact Nat.ne_of_lt E_b15.lt
  have ne_b20_b35 : b20 ≠ b35 := by rw [gb35]; exact Nat.ne_of_lt E_b20.lt
  have ne_aw_b35 : aw ≠ b35 := by rw [gb35]; exact Nat.ne_of_lt V_aw.lt
  have ne_as__b35 : as_ ≠ b35 := by rw [gb35]; exact Nat.ne_of_lt V_as_.lt
  have ne_am_b35 : am ≠ b35 := by rw [gb35]; exact Nat.ne_of_lt V_am.lt
  have ne_al_b35 : al ≠ b35 := by rw [gb35]; exact Nat.ne_of_lt V_al.lt
  have ne_b25_b35 : b25 ≠ b35 := by rw [gb35]; exact Nat.ne_of_lt V_b25.lt
  have ne_b34_b35 : b34 ≠ b35 := by rw [gb35]; exact Nat.ne_of_lt V_b34.lt
  have g_b35 : n0 ≤ b35 := Nat.le_trans Z34 (Nat.le_of_eq gb35.symm)
  have Z35 : n0 ≤ h35.size := Nat.le_trans Z34 E35.1
  have hkS := Nat.le_trans hkS E35.1
  have E_b3 := E_b3.ext E35
  have F_modCount_b3 := F_modCount_b3.ext E35
  have F_elementData_b3 := F_elementData_b3.ext E35
  have F_size_b3 := F_size_b3.ext E35
  have E_b5 := E_b5.ext E35
  have F_bounded_b5 := F_bounded_b5.ext E35
  have F_lower_b5 := F_lower_b5.ext E35
  have F_upper_b5 := F_upper_b5.ext E35
  have V_o9 := V_o9.ext E35
  have O := O.ext E35
  have E_b10 := E_b10.ext E35
  have F_bounded_b10 := F_bounded_b10.ext E35
  have F_lower_b10 := F_lower_b10.ext E35
  have F_upper_b10 := F_upper_b10.ext E35
  have E_b15 := E_b15.ext E35
  have F_bounded_b15 := F_bounded_b15.ext E35
  have F_lower_b15 := F_lower_b15.ext E35
  have F_upper_b15 := F_upper_b15.ext E35
  have E_b20 := E_b20.ext E35
  have F_word_b20 := F_word_b20.ext E35
  have F_shift_b20 := F_shift_b20.ext E35
  have F_mask_b20 := F_mask_b20.ext E35
  have F_lower_b20 := F_lower_b20.ext E35
  have F_words_b20 := F_words_b20.ext E35
  have V_aw := V_aw.ext E35
  have V_as_ := V_as_.ext E35
  have V_am := V_am.ext E35
  have V_al := V_al.ext E35
  have V_b25 := V_b25.ext E35
  have E_b25 := E_b25.ext E35
  have V_b34 := V_b34.ext E35
  have E_b34 := E_b34.ext E35
  have V_b35 : Arv Z h35 b35 k35 .long (3 : Int32) [(.long (0 : Int64)), (.long (0 : Int64)), (.long (0 : Int64))] (.long (0 : Int64)) := (Arv.new A35 (by decide)).pad (pad_rep [] (.long (0 : Int64)) 3)
  have E_b35 := Ex35
  have X35 : Stand p l e room_1 (s.setVm T16.vm) m #[(.long q1), (.long q2), (.long q3), (.long q4), (.long q5), (.int p6)] below meth c T35 lc33 19 86 := X35
  refine own_st (T' := T35) (g' := (mkF m 217 #[.val (.long q1), .second, .val (.long q2), .second, .val (.long q3), .second, .val (.long q4), .second, .val (.long q5), .second, .val (.int p6), .val (.long span0), .second, .val (.long span2), .second, .val (.long r1), .second, .val (.long r2), .second, .val (.int qa), .val (.ref b3), .val (.ref b20), .val (.int u), .val (.ref b25), .val (.ref b34), .unset, .unset, .unset] [(.ref b35)])) st35 ?_
  refine own_st (T' := T35) (g' := (mkF m 219 #[.val (.long q1), .second, .val (.long q2), .second, .val (.long q3), .second, .val (.long q4), .second, .val (.long q5), .second, .val (.int p6), .val (.long span0), .second, .val (.long span2), .second, .val (.long r1), .second, .val (.long r2), .second, .val (.int qa), .val (.ref b3), .val (.ref b20), .val (.int u), .val (.ref b25), .val (.ref b34), .val (.ref b35), .unset, .unset] [])) (fun t k => XS.astore X35.here hx rfl (hb hby at_217) rfl rfl (l' := #[.val (.long q1), .second, .val (.long q2), .second, .val (.long q3), .second, .val (.long q4), .second, .val (.long q5), .second, .val (.int p6), .val (.long span0), .second, .val (.long span2), .second, .val (.long r1), .second, .val (.long r2), .second, .val (.int qa), .val (.ref b3), .val (.ref b20), .val (.int u), .val (.ref b25), .val (.ref b34), .val (.ref b35), .unset, .unset]) rfl k) ?_
  obtain ⟨hj0, hj1, hj2⟩ := own_hjs hlay hqa
  refine own_st (T' := T35) (g' := (mkF m 221 #[.val (.long q1), .second, .val (.long q2), .second, .val (.long q3), .second, .val (.long q4), .second, .val (.long q5), .second, .val (.int p6), .val (.long span0), .second, .val (.long span2), .second, .val (.long r1), .second, .val (.long r2), .second, .val (.int qa), .val (.ref b3), .val (.ref b20), .val (.int u), .val (.ref b25), .val (.ref b34), .val (.ref b35), .unset, .unset] [(.ref b20)])) (fun t k => XS.aload X35.here hx rfl (hb hby at_219) rfl rfl k) ?_
  refine own_st (T' := T35) (g' := (mkF m 223 #[.val (.long q1), .second, .val (.long q2), .second, .val (.long q3), .second, .val (.long q4), .second, .val (.long q5), .second, .val (.int p6), .val (.long span0), .second, .val (.long span2), .second, .val (.long r1), .second, .val (.long r2), .second, .val (.int qa), .val (.ref b3), .val (.ref b20), .val (.int u), .val (.ref b25), .val (.ref b34), .val (.ref b35), .unset, .unset] [(.ref b25), (.ref b20)])) (fun t k => XS.aload X35.here hx rfl (hb hby at_221) rfl rfl k) ?_
  refine own_st (T' := T35) (g' := (mkF m 225 #[.val (.long q1), .second, .val (.long q2), .second, .val (.long q3), .second, .val (.long q4), .second, .val (.long q5), .second, .val (.int p6), .val (.long span0), .second, .val (.long span2), .second, .val (.long r1), .second, .val (.long r2), .second, .val (.int qa), .val (.ref b3), .val (.ref b20), .val (.int u), .val (.ref b25), .val (.ref b34), .val (.ref b35), .unset, .unset] [(.ref b34), (.ref b25), (.ref b20)])) (fun t k => XS.aload X35.here hx rfl (hb hby at_223) rfl rfl k) ?_
  refine own_st (T' := T35) (g' := (mkF m 227 #[.val (.long q1), .second, .val (.long q2), .second, .val (.long q3), .second, .val (.long q4), .second, .val (.long q5), .second, .val (.int p6), .val (.long span0), .second, .val (.long span2), .second, .val (.long r1), .second, .val (.long r2), .second, .val (.int qa), .val (.ref b3), .val (.ref b20), .val (.int u), .val (.ref b25), .val (.ref b34), .val (.ref b35), .unset, .unset] [(.int qa), (.ref b34), (.ref b25), (.ref b20)])) (fun t k => XS.iload X35.here hx rfl (hb hby at_225) rfl k) ?_
  obtain ⟨P36, hP36⟩ : ∃ z, z = (own_pk (own_pk (own_pk P0 (qa + w0) v0 l0 m0 s0) (qa + w1) q2 l1 m1 s1) (qa + w2) v2 l2 m2 s2) := ⟨_, rfl⟩
  obtain ⟨_, T36, L36, hQ36, X36, st36⟩ := own_callV (y := (⟨"com/example/astraea/astraea/explicit/StateLayout", "pack", "([J[JI)V"⟩ : MethodName)) (z := (⟨"com/example/astraea/astraea/explicit/StateLayout", "pack", "([J[JI)V"⟩ : MethodName)) (argsL := [(.ref b25), (.ref b34), (.int qa)]) 0 [] (K := "com/example/astraea/astraea/explicit/StateLayout") (by rw [hP36]; exact own_rm27 l Z a0 hw h35 n0 Z35 b20 b25 b34 qa w0 w1 w2 s0 s1 s2 m0 m1 m2 l0 l1 l2 u aw as_ am al kw ks km kl E_b20 F_words_b20 F_word_b20 F_shift_b20 F_mask_b20 F_lower_b20 V_aw V_as_ V_am V_al v0 q2 v2 k25 k34 P0 V_b25 V_b34 g_b34 hj0 hj1 hj2 ne_b20_b34 ne_b25_b34 ne_aw_b34 ne_as__b34 ne_am_b34 ne_al_b34 : own_C l Z _ _ _ _ [] _ _ _ (own_qp Z b34 k34 P36 h35 n0)) X35 hx hZ hown (hw _ (List.mem_of_getElem? (i := 186) rfl)) (hw _ (List.mem_of_getElem? (i := 187) rfl)) (notFace_of_selects (args := #[]) (mvT hZ (hw _ (List.mem_of_getElem? (i := 189) rfl)))) (hw _ (List.mem_of_getElem? (i := 189) rfl)) (hw _ (List.mem_of_getElem? (i := 188) rfl)) (hw _ (List.mem_of_getElem? (i := 190) rfl)) (hw _ (List.mem_of_getElem? (i := 101) rfl)) (by decide) (by decide) (by decide) (by decide) (by decide) e35 E_b20 (g := (mkF m 227 #[.val (.long q1), .second, .val (.long q2), .second, .val (.long q3), .second, .val (.long q4), .second, .val (.long q5), .second, .val (.int p6), .val (.long span0), .second, .val (.long span2), .second, .val (.long r1), .second, .val (.long r2), .second, .val (.int qa), .val (.ref b3), .val (.ref b20), .val (.int u), .val (.ref b25), .val (.ref b34), .val (.ref b35), .unset, .unset] [(.int qa), (.ref b34), (.ref b25), (.ref b20)])) rfl (by rw [hml]; rfl) (lenOf own_pd17 rfl) rfl (by show 2 * 0 + _ ≤ _; exact Nat.le_of_eq rfl) (hb hby at_227)
  obtain ⟨rfl, N36q, Kq36, V_b34⟩ := hQ36
  have Z36 : n0 ≤ T36.heap.size := Nat.le_trans Z35 Kq36.1
  have hkS := Nat.le_trans hkS Kq36.1
  have E_b3 := E_b3.keep Kq36
  have F_modCount_b3 := F_modCount_b3.keep Kq36 (ninS ne_b3_b34 nin0)
  have F_elementData_b3 := F_elementData_b3.keep Kq36 (ninS ne_b3_b34 nin0)
  have F_size_b3 := F_size_b3.keep Kq36 (ninS ne_b3_b34 nin0)
  have E_b5 := E_b5.keep Kq36
  have F_bounded_b5 := F_bounded_b5.keep Kq36 (ninS ne_b5_b34 nin0)
  have F_lower_b5 := F_lower_b5.keep Kq36 (ninS ne_b5_b34 nin0)
  have F_upper_b5 := F_upper_b5.keep Kq36 (ninS ne_b5_b34 nin0)
  have V_o9 := V_o9.keep Kq36 (ninS ne_o9_b34 nin0)
  have O := O.keep Kq36 (allS g_b34 all0)
  have E_b10 := E_b10.keep Kq36
  have F_bounded_b10 := F_bounded_b10.keep Kq36 (ninS ne_b10_b34 nin0)
  have F_lower_b10 := F_lower_b10.keep Kq36 (ninS ne_b10_b34 nin0)
  have F_upper_b10 := F_upper_b10.keep Kq36 (ninS ne_b10_b34 nin0)
  have E_b15 := E_b15.keep Kq36
  have F_bounded_b15 := F_bounded_b15.keep Kq36 (ninS ne_b15_b34 nin0)
  have F_lower_b15 := F_lower_b15.keep Kq36 (ninS ne_b15_b34 nin0)
  have F_upper_b15 := F_upper_b15.keep Kq36 (ninS ne_b15_b34 nin0)
  have E_b20 := E_b20.keep Kq36
  have F_word_b20 := F_word_b20.keep Kq36 (ninS ne_b20_b34 nin0)
  have F_shift_b20 := F_shift_b20.keep Kq36 (ninS ne_b20_b34 nin0)
  have F_mask_b20 := F_mask_b20.keep Kq36 (ninS ne_b20_b34 nin0)
  have F_lower_b20 := F_lower_b20.keep Kq36 (ninS ne_b20_b34 nin0)
  have F_words_b20 := F_words_b20.keep Kq36 (ninS ne_b20_b34 nin0)
  have V_aw := V_aw.keep Kq36 (ninS ne_aw_b34 nin0)
  have V_as_ := V_as_.keep Kq36 (ninS ne_as__b34 nin0)
  have V_am := V_am.keep Kq36 (ninS ne_am_b34 nin0)
  have V_al := V_al.keep Kq36 (ninS ne_al_b34 nin0)
  have V_b25 := V_b25.keep Kq36 (ninS ne_b25_b34 nin0)
  have E_b25 := E_b25.keep Kq36
  have E_b34 := E_b34.keep Kq36
  have V_b35 := V_b35.keep Kq36 (ninS (Ne.symm ne_b34_b35) nin0)
  have E_b35 := E_b35.keep Kq36
  have N36 := Fr.app N33 N36q
  generalize hlc36 : (lc33 ++ L36 : List Loc) = lc36 at X36 N36
  have X36 : Stand p l e room_1 (s.setVm T16.vm) m #[(.long q1), (.long q2), (.long q3), (.long q4), (.long q5), (.int p6)] below meth c T36 lc36 19 86 := X36
  refine own_st (T' := T36) (g' := (mkF m 230 #[.val (.long q1), .second, .val (.long q2), .second, .val (.long q3), .second, .val (.long q4), .second, .val (.long q5), .second, .val (.int p6), .val (.long span0), .second, .val (.long span2), .second, .val (.long r1), .second, .val (.long r2), .second, .val (.int qa), .val (.ref b3), .val (.ref b20), .val (.int u), .val (.ref b25), .val (.ref b34), .val (.ref b35), .unset, .unset] [])) st36 ?_
  refine own_st (T' := T36) (g' := (mkF m 232 #[.val (.long q1), .second, .val (.long q2), .second, .val (.long q3), .second, .val (.long q4), .second, .val (.long q5), .second, .val (.int p6), .val (.long span0), .second, .val (.long span2), .second, .val (.long r1), .second, .val (.long r2), .second, .val (.int qa), .val (.ref b3), .val (.ref b20), .val (.int u), .val (.ref b25), .val (.ref b34), .val (.ref b35), .unset, .unset] [(.ref b20)])) (fun t k => XS.aload X36.here hx rfl (hb hby at_230) rfl rfl k) ?_
  refine own_st (T' := T36) (g' := (mkF m 234 #[.val (.long q1), .second, .val (.long q2), .second, .val (.long q3), .second, .val (.long q4), .second, .val (.long q5), .second, .val (.int p6), .val (.long span0), .second, .val (.long span2), .second, .val (.long r1), .second, .val (.long r2), .second, .val (.int qa), .val (.ref b3), .val (.ref b20), .val (.int u), .val (.ref b25), .val (.ref b34), .val (.ref b35), .unset, .unset] [(.ref b34), (.ref b20)])) (fun t k => XS.aload X36.here hx rfl (hb hby at_232) rfl rfl k) ?_
  refine own_st (T' := T36) (g' := (mkF m 236 #[.val (.long q1), .second, .val (.long q2), .second, .val (.long q3), .second, .val (.long q4), .second, .val (.long q5), .second, .val (.int p6), .val (.long span0), .second, .val (.long span2), .second, .val (.long r1), .second, .val (.long r2), .second, .val (.int qa), .val (.ref b3), .val (.ref b20), .val (.int u), .val (.ref b25), .val (.ref b34), .val (.ref b35), .unset, .unset] [(.int qa), (.ref b34), (.ref b20)])) (fun t k => XS.iload X36.here hx rfl (hb hby at_234) rfl k) ?_
  refine own_st (T' := T36) (g' := (mkF m 238 #[.val (.long q1), .second, .val (.long q2), .second, .val (.long q3), .second, .val (.long q4), .second, .val (.long q5), .second, .val (.int p6), .val (.long span0), .second, .val (.long span2), .second, .val (.long r1), .second, .val (.long r2), .second, .val (.int qa), .val (.ref b3), .val (.ref b20), .val (.int u), .val (.ref b25), .val (.ref b34), .val (.ref b35), .unset, .unset] [(.ref b35), (.int qa), (.ref b34), (.ref b20)])) (fun t k => XS.aload X36.here hx rfl (hb hby at_236) rfl rfl k) ?_
  obtain ⟨_, T37, L37, hQ37, X37, st37⟩ := own_callV (y := (⟨"com/example/astraea/astraea/explicit/StateLayout", "unpack", "([JI[J)V"⟩ : MethodName)) (z := (⟨"com/example/astraea/astraea/explicit/StateLayout", "unpack", "([JI[J)V"⟩ : MethodName)) (argsL := [(.ref b34), (.int qa), (.ref b35)]) 0 [] (K := "com/example/astraea/astraea/explicit/StateLayout") (own_rm28 l Z a0 hw T36.heap n0 Z36 b20 b34 qa b35 w0 w1 w2 s0 s1 s2 m0 m1 m2 l0 l1 l2 u aw as_ am al kw ks km kl E_b20 F_words_b20 F_word_b20 F_shift_b20 F_mask_b20 F_lower_b20 V_aw V_as_ V_am V_al (0 : Int64) (0 : Int64) (0 : Int64) k35 k34 P36 V_b35 V_b34 g_b35 hj0 hj1 hj2 ne_b20_b35 ne_b34_b35 ne_aw_b35 ne_as__b35 ne_am_b35 ne_al_b35) X36 hx hZ hown (hw _ (List.mem_of_getElem? (i := 191) rfl)) (hw _ (List.mem_of_getElem? (i := 192) rfl)) (notFace_of_selects (args := #[]) (mvT hZ (hw _ (List.mem_of_getElem? (i := 194) rfl)))) (hw _ (List.mem_of_getElem? (i := 194) rfl)) (hw _ (List.mem_of_getElem? (i := 193) rfl)) (hw _ (List.mem_of_getElem? (i := 195) rfl)) (hw _ (List.mem_of_getElem? (i := 101) rfl)) (by decide) (by decide) (by decide) (by decide) (by decide) rfl E_b20 (g := (mkF m 238 #[.val (.long q1), .second, .val (.long q2), .second, .val (.long q3), .second, .val (.long q4), .second, .val (.long q5), .second, .val (.int p6), .val (.long span0), .second, .val (.long span2), .second, .val (.long r1), .second, .val (.long r2), .second, .val (.int qa), .val (.ref b3), .val (.ref b20), .val (.int u), .val (.ref b25), .val (.ref b34), .val (.ref b35), .unset, .unset] [(.ref b35), (.int qa), (.ref b34), (.ref b20)])) rfl (by rw [hml]; rfl) (lenOf own_pd18 rfl) rfl (by show 2 * 0 + _ ≤ _; exact Nat.le_of_eq rfl) (hb hby at_238)
  obtain ⟨rfl, N37q, Kq37, V_b35⟩ := hQ37
  have Z37 : n0 ≤ T37.heap.size := Nat.le_trans Z36 Kq37.1
  have hkS := Nat.le_trans hkS Kq37.1
  have E_b3 := E_b3.keep Kq37
  have F_modCount_b3 := F_modCount_b3.keep Kq37 (ninS ne_b3_b35 nin0)
  have F_elementData_b3 := F_elementData_b3.keep Kq37 (ninS ne_b3_b35 nin0)
  have F_size_b3 := F_size_b3.keep Kq37 (ninS ne_b3_b35 nin0)
  have E_b5 := E_b5.keep Kq37
  have F_bounded_b5 := F_bounded_b5.keep Kq37 (ninS ne_b5_b35 nin0)
  have F_lower_b5 := F_lower_b5.keep Kq37 (ninS ne_b5_b35 nin0)
  have F_upper_b5 := F_upper_b5.keep Kq37 (ninS ne_b5_b35 nin0)
  have V_o9 := V_o9.keep Kq37 (ninS ne_o9_b35 nin0)
  have O := O.keep Kq37 (allS g_b35 all0)
  have E_b10 := E_b10.keep Kq37
  have F_bounded_b10 := F_bounded_b10.keep Kq37 (ninS ne_b10_b35 nin0)
  have F_lower_b10 := F_lower_b10.keep Kq37 (ninS ne_b10_b35 nin0)
  have F_upper_b10 := F_upper_b10.keep Kq37 (ninS ne_b10_b35 nin0)
  have E_b15 := E_b15.keep Kq37
  have F_bounded_b15 := F_bounded_b15.keep Kq37 (ninS ne_b15_b35 nin0)
  have F_lower_b15 := F_lower_b15.keep Kq37 (ninS ne_b15_b35 nin0)
  have F_upper_b15 := F_upper_b15.keep Kq37 (ninS ne_b15_b35 nin0)
  have E_b20 := E_b20.keep Kq37
  have F_word_b20 := F_word_b20.keep Kq37 (ninS ne_b20_b35 nin0)
  have F_shift_b20 := F_shift_b20.keep Kq37 (ninS ne_b20_b35 nin0)
  have F_mask_b20 := F_mask_b20.keep Kq37 (ninS ne_b20_b35 nin0)
  have F_lower_b20 := F_lower_b20.keep Kq37 (ninS ne_b20_b35 nin0)
  have F_words_b20 := F_words_b20.keep Kq37 (ninS ne_b20_b35 nin0)
  have V_aw := V_aw.keep Kq37 (ninS ne_aw_b35 nin0)
  have V_as_ := V_as_.keep Kq37 (ninS ne_as__b35 nin0)
  have V_am := V_am.keep Kq37 (ninS ne_am_b35 nin0)
  have V_al := V_al.keep Kq37 (ninS ne_al_b35 nin0)
  have V_b25 := V_b25.keep Kq37 (ninS ne_b25_b35 nin0)
  have E_b25 := E_b25.keep Kq37
  have V_b34 := V_b34.keep Kq37 (ninS ne_b34_b35 nin0)
  have E_b34 := E_b34.keep Kq37
  have E_b35 := E_b35.keep Kq37
  have N37 := Fr.app N36 N37q
  generalize hlc37 : (lc36 ++ L37 : List Loc) = lc37 at X37 N37
  have X37 : Stand p l e room_1 (s.setVm T16.vm) m #[(.long q1), (.long q2), (.long q3), (.long q4), (.long q5), (.int p6)] below meth c T37 lc37 19 86 := X37
  refine own_st (T' := T37) (g' := (mkF m 241 #[.val (.long q1), .second, .val (.long q2), .second, .val (.long q3), .second, .val (.long q4), .second, .val (.long q5), .second, .val (.int p6), .val (.long span0), .second, .val (.long span2), .second, .val (.long r1), .second, .val (.long r2), .second, .val (.int qa), .val (.ref b3), .val (.ref b20), .val (.int u), .val (.ref b25), .val (.ref b34), .val (.ref b35), .unset, .unset] [])) st37 ?_
  have hback := own_packed hlay hr_0 hr_1 hr_2 hj0.1 hj1.1 hj2.1 hv0 (Or.inl h64_1) hv2 (P := P0) (by rw [hP0]) (by rw [hP0]) (by rw [hP0]) hP36
  refine own_st (T' := T37) (g' := (mkF m 243 #[.val (.long q1), .second, .val (.long q2), .second, .val (.long q3), .second, .val (.long q4), .second, .val (.long q5), .second, .val (.int p6), .val (.long span0), .second, .val (.long span2), .second, .val (.long r1), .second, .val (.long r2), .second, .val (.int qa), .val (.ref b3), .val (.ref b20), .val (.int u), .val (.ref b25), .val (.ref b34), .val (.ref b35), .unset, .unset] [(.ref b35)])) (fun t k => XS.aload X37.here hx rfl (hb hby at_241) rfl rfl k) ?_
  refine own_st (T' := T37) (g' := (mkF m 244 #[.val (.long q1), .second, .val (.long q2), .second, .val (.long q3), .second, .val (.long q4), .second, .val (.long q5), .second, .val (.int p6), .val (.long span0), .second, .val (.long span2), .second, .val (.long r1), .second, .val (.long r2), .second, .val (.int qa), .val (.ref b3), .val (.ref b20), .val (.int u), .val (.ref b25), .val (.ref b34), .val (.ref b35), .unset, .unset] [(.int (0 : Int32)), (.ref b35)])) (fun t k => XS.iconst X37.here hx rfl (hb hby at_243) k) ?_
  obtain ⟨cl38, Ar38, q38, S38, N38n, H38, G38⟩ := V_b35
  have hin38 : ¬ ((0 : Int32) < 0 ∨ cl38.slots.size ≤ ((0 : Int32) : Int32).toNatClampNeg) := inb_of S38 ⟨by decide, by decide⟩
  have hat39 := H38.at hin38 (v := (.long (own_un P36 (qa + w0) l0 m0 s0))) rfl
  have V_b35 : Arv Z T37.heap b35 k35 .long (3 : Int32) [(.long (own_un P36 (qa + w0) l0 m0 s0)), (.long (own_un P36 (qa + w1) l1 m1 s1)), (.long (own_un P36 (qa + w2) l2 m2 s2))] (.long (0 : Int64)) := ⟨cl38, Ar38, q38, S38, N38n, H38, G38⟩
  refine own_st (T' := T37) (g' := (mkF m 245 #[.val (.long q1), .second, .val (.long q2), .second, .val (.long q3), .second, .val (.long q4), .second, .val (.long q5), .second, .val (.int p6), .val (.long span0), .second, .val (.long span2), .second, .val (.long r1), .second, .val (.long r2), .second, .val (.int qa), .val (.ref b3), .val (.ref b20), .val (.int u), .val (.ref b25), .val (.ref b34), .val (.ref b35), .unset, .unset] [(.long (own_un P36 (qa + w0) l0 m0 s0))])) (X37.laload hx (j := (0 : Int32)) (v := (.long (own_un P36 (qa + w0) l0 m0 s0))) Ar38.1 (State.isArrayOf_alike hZ.alike Ar38.2.1) Ar38.2.2 hin38 hat39 (g := (mkF m 244 #[.val (.long q1), .second, .val (.long q2), .second, .val (.long q3), .second, .val (.long q4), .second, .val (.long q5), .second, .val (.int p6), .val (.long span0), .second, .val (.long span2), .second, .val (.long r1), .second, .val (.long r2), .second, .val (.int qa), .val (.ref b3), .val (.ref b20), .val (.int u), .val (.ref b25), .val (.ref b34), .val (.ref b35), .unset, .unset] [(.int (0 : Int32)), (.ref b35)])) rfl rfl (hb hby at_244)) ?_
  refine own_st (T' := T37) (g' := (mkF m 247 #[.val (.long q1), .second, .val (.long q2), .second, .val (.long q3), .second, .val (.long q4), .second, .val (.long q5), .second, .val (.int p6), .val (.long span0), .second, .val (.long span2), .second, .val (.long r1), .second, .val (.long r2), .second, .val (.int qa), .val (.ref b3), .val (.ref b20), .val (.int u), .val (.ref b25), .val (.ref b34), .val (.ref b35), .unset, .unset] [(.ref b25), (.long (own_un P36 (qa + w0) l0 m0 s0))])) (fun t k => XS.aload X37.here hx rfl (hb hby at_245) rfl rfl k) ?_
  refine own_st (T' := T37) (g' := (mkF m 248 #[.val (.long q1), .second, .val (.long q2), .second, .val (.long q3), .second, .val (.long q4), .second, .val (.long q5), .second, .val (.int p6), .val (.long span0), .second, .val (.long span2), .second, .val (.long r1), .second, .val (.long r2), .second, .val (.int qa), .val (.ref b3), .val (.ref b20), .val (.int u), .val (.ref b25), .val (.ref b34), .val (.ref b35), .unset, .unset] [(.int (0 : Int32)), (.ref b25), (.long (own_un P36 (qa + w0) l0 m0 s0))])) (fun t k => XS.iconst X37.here hx rfl (hb hby at_247) k) ?_
  obtain ⟨cl40, Ar40, q40, S40, N40n, H40, G40⟩ := V_b25
  have hin40 : ¬ ((0 : Int32) < 0 ∨ cl40.slots.size ≤ ((0 : Int32) : Int32).toNatClampNeg) := inb_of S40 ⟨by decide, by decide⟩
  have hat41 := H40.at hin40 (v := (.long v0)) rfl
  have V_b25 : Arv Z T37.heap b25 k25 .long (3 : Int32) [(.long v0), (.long q2), (.long v2)] (.long (0 : Int64)) := ⟨cl40, Ar40, q40, S40, N40n, H40, G40⟩
  refine own_st (T' := T37) (g' := (mkF m 249 #[.val (.long q1), .second, .val (.long q2), .second, .val (.long q3), .second, .val (.long q4), .second, .val (.long q5), .second, .val (.int p6), .val (.long span0), .second, .val (.long span2), .second, .val (.long r1), .second, .val (.long r2), .second, .val (.int qa), .val (.ref b3), .val (.ref b20), .val (.int u), .val (.ref b25), .val (.ref b34), .val (.ref b35), .unset, .unset] [(.long v0), (.long (own_un P36 (qa + w0) l0 m0 s0))])) (X37.laload hx (j := (0 : Int32)) (v := (.long v0)) Ar40.1 (State.isArrayOf_alike hZ.alike Ar40.2.1) Ar40.2.2 hin40 hat41 (g := (mkF m 248 #[.val (.long q1), .second, .val (.long q2), .second, .val (.long q3), .second, .val (.long q4), .second, .val (.long q5), .second, .val (.int p6), .val (.long span0), .second, .val (.long span2), .second, .val (.long r1), .second, .val (.long r2), .second, .val (.int qa), .val (.ref b3), .val (.ref b20), .val (.int u), .val (.ref b25), .val (.ref b34), .val (.ref b35), .unset, .unset] [(.int (0 : Int32)), (.ref b25), (.long (own_un P36 (qa + w0) l0 m0 s0))])) rfl rfl (hb hby at_248)) ?_
  refine own_st (T' := T37) (g' := (mkF m 250 #[.val (.long q1), .second, .val (.long q2), .second, .val (.long q3), .second, .val (.long q4), .second, .val (.long q5), .second, .val (.int p6), .val (.long span0), .second, .val (.long span2), .second, .val (.long r1), .second, .val (.long r2), .second, .val (.int qa), .val (.ref b3), .val (.ref b20), .val (.int u), .val (.ref b25), .val (.ref b34), .val (.ref b35), .unset, .unset] [(.int (lcmpW (own_un P36 (qa + w0) l0 m0 s0) v0))])) (fun t k => XS.lcmp X37.here hx rfl (hb hby at_249) rfl k) ?_
  have hk42 : (lcmpW (own_un P36 (qa + w0) l0 m0 s0) v0) = (0 : Int32) := (lw_eq _ _).mpr hback.1
  refine own_st (T' := T37) (g' := (mkF m 253 #[.val (.long q1), .second, .val (.long q2), .second, .val (.long q3), .second, .val (.long q4), .second, .val (.long q5), .second, .val (.int p6), .val (.long span0), .second, .val (.long span2), .second, .val (.long r1), .second, .val (.long r2), .second, .val (.int qa), .val (.ref b3), .val (.ref b20), .val (.int u), .val (.ref b25), .val (.ref b34), .val (.ref b35), .unset, .unset] [])) (fun t k => XS.ifNo X37.here hx rfl (hb hby at_250) rfl ((if0 _ _).trans (teq hk42).2) k) ?_
  refine own_st (T' := T37) (g' := (mkF m 255 #[.val (.long q1), .second, .val (.long q2), .second, .val (.long q3), .second, .val (.long q4), .second, .val (.long q5), .second, .val (.int p6), .val (.long span0), .second, .val (.long span2), .second, .val (.long r1), .second, .val (.long r2), .second, .val (.int qa), .val (.ref b3), .val (.ref b20), .val (.int u), .val (.ref b25), .val (.ref b34), .val (.ref b35), .unset, .unset] [(.ref b35)])) (fun t k => XS.aload X37.here hx rfl (hb hby at_253) rfl rfl k) ?_
  refine own_st (T' := T37) (g' := (mkF m 256 #[.val (.long q1), .second, .val (.long q2), .second, .val (.long q3), .second, .val (.long q4), .second, .val (.long q5), .second, .val (.int p6), .val (.long span0), .second, .val (.long span2), .second, .val (.long r1), .second, .val (.long r2), .second, .val (.int qa), .val (.ref b3), .val (.ref b20), .val (.int u), .val (.ref b25), .val (.ref b34), .val (.ref b35), .unset, .unset] [(.int (1 : Int32)), (.ref b35)])) (fun t k => XS.iconst X37.here hx rfl (hb hby at_255) k) ?_
  obtain ⟨cl43, Ar43, q43, S43, N43n, H43, G43⟩ := V_b35
  have hin43 : ¬ ((1 : Int32) < 0 ∨ cl43.slots.size ≤ ((1 : Int32) : Int32).toNatClampNeg) := inb_of S43 ⟨by decide, by decide⟩
  have hat44 := H43.at hin43 (v := (.long (own_un P36 (qa + w1) l1 m1 s1))) rfl
  have V_b35 : Arv Z T37.heap b35 k35 .long (3 : Int32) [(.long (own_un P36 (qa + w0) l0 m0 s0)), (.long (own_un P36 (qa + w1) l1 m1 s1)), (.long (own_un P36 (qa + w2) l2 m2 s2))] (.long (0 : Int64)) := ⟨cl43, Ar43, q43, S43, N43n, H43, G43⟩
  refine own_st (T' := T37) (g' := (mkF m 257 #[.val (.long q1), .second, .val (.long q2), .second, .val (.long q3), .second, .val (.long q4), .second, .val (.long q5), .second, .val (.int p6), .val (.long span0), .second, .val (.long span2), .second, .val (.long r1), .second, .val (.long r2), .second, .val (.int qa), .val (.ref b3), .val (.ref b20), .val (.int u), .val (.ref b25), .val (.ref b34), .val (.ref b35), .unset, .unset] [(.long (own_un P36 (qa + w1) l1 m1 s1))])) (X37.laload hx (j := (1 : Int32)) (v := (.long (own_un P36 (qa + w1) l1 m1 s1))) Ar43.1 (State.isArrayOf_alike hZ.alike Ar43.2.1) Ar43.2.2 hin43 hat44 (g := (mkF m 256 #[.val (.long q1), .second, .val (.long q2), .second, .val (.long q3), .second, .val (.long q4), .second, .val (.long q5), .second, .val (.int p6), .val (.long span0), .second, .val (.long span2), .second, .val (.long r1), .second, .val (.long r2), .second, .val (.int qa), .val (.ref b3), .val (.ref b20), .val (.int u), .val (.ref b25), .val (.ref b34), .val (.ref b35), .unset, .unset] [(.int (1 : Int32)), (.ref b35)])) rfl rfl (hb hby at_256)) ?_
  refine own_st (T' := T37) (g' := (mkF m 259 #[.val (.long q1), .second, .val (.long q2), .second, .val (.long q3), .second, .val (.long q4), .second, .val (.long q5), .second, .val (.int p6), .val (.long span0), .second, .val (.long span2), .second, .val (.long r1), .second, .val (.long r2), .second, .val (.int qa), .val (.ref b3), .val (.ref b20), .val (.int u), .val (.ref b25), .val (.ref b34), .val (.ref b35), .unset, .unset] [(.ref b25), (.long (own_un P36 (qa + w1) l1 m1 s1))])) (fun t k => XS.aload X37.here hx rfl (hb hby at_257) rfl rfl k) ?_
  refine own_st (T' := T37) (g' := (mkF m 260 #[.val (.long q1), .second, .val (.long q2), .second, .val (.long q3), .second, .val (.long q4), .second, .val (.long q5), .second, .val (.int p6), .val (.long span0), .second, .val (.long span2), .second, .val (.long r1), .second, .val (.long r2), .second, .val (.int qa), .val (.ref b3), .val (.ref b20), .val (.int u), .val (.ref b25), .val (.ref b34), .val (.ref b35), .unset, .unset] [(.int (1 : Int32)), (.ref b25), (.long (own_un P36 (qa + w1) l1 m1 s1))])) (fun t k => XS.iconst X37.here hx rfl (hb hby at_259) k) ?_
  obtain ⟨cl45, Ar45, q45, S45, N45n, H45, G45⟩ := V_b25
  have hin45 : ¬ ((1 : Int32) < 0 ∨ cl45.slots.size ≤ ((1 : Int32) : Int32).toNatClampNeg) := inb_of S45 ⟨by decide, by decide⟩
  have hat46 := H45.at hin45 (v := (.long q2)) rfl
  have V_b25 : Arv Z T37.heap b25 k25 .long (3 : Int32) [(.long v0), (.long q2), (.long v2)] (.long (0 : Int64)) := ⟨cl45, Ar45, q45, S45, N45n, H45, G45⟩
  refine own_st (T' := T37) (g' := (mkF m 261 #[.val (.long q1), .second, .val (.long q2), .second, .val (.long q3), .second, .val (.long q4), .second, .val (.long q5), .second, .val (.int p6), .val (.long span0), .second, .val (.long span2), .second, .val (.long r1), .second, .val (.long r2), .second, .val (.int qa), .val (.ref b3), .val (.ref b20), .val (.int u), .val (.ref b25), .val (.ref b34), .val (.ref b35), .unset, .unset] [(.long q2), (.long (own_un P36 (qa + w1) l1 m1 s1))])) (X37.laload hx (j := (1 : Int32)) (v := (.long q2)) Ar45.1 (State.isArrayOf_alike hZ.alike Ar45.2.1) Ar45.2.2 hin45 hat46 (g := (mkF m 260 #[.val (.long q1), .second, .val (.long q2), .second, .val (.long q3), .second, .val (.long q4), .second, .val (.long q5), .second, .val (.int p6), .val (.long span0), .second, .val (.long span2), .second, .val (.long r1), .second, .val (.long r2), .second, .val (.int qa), .val (.ref b3), .val (.ref b20), .val (.int u), .val (.ref b25), .val (.ref b34), .val (.ref b35), .unset, .unset] [(.int (1 : Int32)), (.ref b25), (.long (own_un P36 (qa + w1) l1 m1 s1))])) rfl rfl (hb hby at_260)) ?_
  refine own_st (T' := T37) (g' := (mkF m 262 #[.val (.long q1), .second, .val (.long q2), .second, .val (.long q3), .second, .val (.long q4), .second, .val (.long q5), .second, .val (.int p6), .val (.long span0), .second, .val (.long span2), .second, .val (.long r1), .second, .val (.long r2), .second, .val (.int qa), .val (.ref b3), .val (.ref b20), .val (.int u), .val (.ref b25), .val (.ref b34), .val (.ref b35), .unset, .unset] [(.int (lcmpW (own_un P36 (qa + w1) l1 m1 s1) q2))])) (fun t k => XS.lcmp X37.here hx rfl (hb hby at_261) rfl k) ?_
  have hk47 : (lcmpW (own_un P36 (qa + w1) l1 m1 s1) q2) = (0 : Int32) := (lw_eq _ _).mpr hback.2.1
  refine own_st (T' := T37) (g' := (mkF m 265 #[.val (.long q1), .second, .val (.long q2), .second, .val (.long q3), .second, .val (.long q4), .second, .val (.long q5), .second, .val (.int p6), .val (.long span0), .second, .val (.long span2), .second, .val (.long r1), .second, .val (.long r2), .second, .val (.int qa), .val (.ref b3), .val (.ref b20), .val (.int u), .val (.ref b25), .val (.ref b34), .val (.ref b35), .unset, .unset] [])) (fun t k => XS.ifNo X37.here hx rfl (hb hby at_262) rfl ((if0 _ _).trans (teq hk47).2) k) ?_
  refine own_st (T' := T37) (g' := (mkF m 267 #[.val (.long q1), .second, .val (.long q2), .second, .val (.long q3), .second, .val (.long q4), .second, .val (.long q5), .second, .val (.int p6), .val (.long span0), .second, .val (.long span2), .second, .val (.long r1), .second, .val (.long r2), .second, .val (.int qa), .val (.ref b3), .val (.ref b20), .val (.int u), .val (.ref b25), .val (.ref b34), .val (.ref b35), .unset, .unset] [(.ref b35)])) (fun t k => XS.aload X37.here hx rfl (hb hby at_265) rfl rfl k) ?_
  refine own_st (T' := T37) (g' := (mkF m 268 #[.val (.long q1), .second, .val (.long q2), .second, .val (.long q3), .second, .val (.long q4), .second, .val (.long q5), .second, .val (.int p6), .val (.long span0), .second, .val (.long span2), .second, .val (.long r1), .second, .val (.long r2), .second, .val (.int qa), .val (.ref b3), .val (.ref b20), .val (.int u), .val (.ref b25), .val (.ref b34), .val (.ref b35), .unset, .unset] [(.int (2 : Int32)), (.ref b35)])) (fun t k => XS.iconst X37.here hx rfl (hb hby at_267) k) ?_
  obtain ⟨cl48, Ar48, q48, S48, N48n, H48, G48⟩ := V_b35
  have hin48 : ¬ ((2 : Int32) < 0 ∨ cl48.slots.size ≤ ((2 : Int32) : Int32).toNatClampNeg) := inb_of S48 ⟨by decide, by decide⟩
  have hat49 := H48.at hin48 (v := (.long (own_un P36 (qa + w2) l2 m2 s2))) rfl
  have V_b35 : Arv Z T37.heap b35 k35 .long (3 : Int32) [(.long (own_un P36 (qa + w0) l0 m0 s0)), (.long (own_un P36 (qa + w1) l1 m1 s1)), (.long (own_un P36 (qa + w2) l2 m2 s2))] (.long (0 : Int64)) := ⟨cl48, Ar48, q48, S48, N48n, H48, G48⟩
  refine own_st (T' := T37) (g' := (mkF m 269 #[.val (.long q1), .second, .val (.long q2), .second, .val (.long q3), .second, .val (.long q4), .second, .val (.long q5), .second, .val (.int p6), .val (.long span0), .second, .val (.long span2), .second, .val (.long r1), .second, .val (.long r2), .second, .val (.int qa), .val (.ref b3), .val (.ref b20), .val (.int u), .val (.ref b25), .val (.ref b34), .val (.ref b35), .unset, .unset] [(.long (own_un P36 (qa + w2) l2 m2 s2))])) (X37.laload hx (j := (2 : Int32)) (v := (.long (own_un P36 (qa + w2) l2 m2 s2))) Ar48.1 (State.isArrayOf_alike hZ.alike Ar48.2.1) Ar48.2.2 hin48 hat49 (g := (mkF m 268 #[.val (.long q1), .second, .val (.long q2), .second, .val (.long q3), .second, .val (.long q4), .second, .val (.long q5), .second, .val (.int p6), .val (.long span0), .second, .val (.long span2), .second, .val (.long r1), .second, .val (.long r2), .second, .val (.int qa), .val (.ref b3), .val (.ref b20), .val (.int u), .val (.ref b25), .val (.ref b34), .val (.ref b35), .unset, .unset] [(.int (2 : Int32)), (.ref b35)])) rfl rfl (hb hby at_268)) ?_
  refine own_st (T' := T37) (g' := (mkF m 271 #[.val (.long q1), .second, .val (.long q2), .second, .val (.long q3), .second, .val (.long q4), .second, .val (.long q5), .second, .val (.int p6), .val (.long span0), .second, .val (.long span2), .second, .val (.long r1), .second, .val (.long r2), .second, .val (.int qa), .val (.ref b3), .val (.ref b20), .val (.int u), .val (.ref b25), .val (.ref b34), .val (.ref b35), .unset, .unset] [(.ref b25), (.long (own_un P36 (qa + w2) l2 m2 s2))])) (fun t k => XS.aload X37.here hx rfl (hb hby at_269) rfl rfl k) ?_
  refine own_st (T' := T37) (g' := (mkF m 272 #[.val (.long q1), .second, .val (.long q2), .second, .val (.long q3), .second, .val (.long q4), .second, .val (.long q5), .second, .val (.int p6), .val (.long span0), .second, .val (.long span2), .second, .val (.long r1), .second, .val (.long r2), .second, .val (.int qa), .val (.ref b3), .val (.ref b20), .val (.int u), .val (.ref b25), .val (.ref b34), .val (.ref b35), .unset, .unset] [(.int (2 : Int32)), (.ref b25), (.long (own_un P36 (qa + w2) l2 m2 s2))])) (fun t k => XS.iconst X37.here hx rfl (hb hby at_271) k) ?_
  obtain ⟨cl50, Ar50, q50, S50, N50n, H50, G50⟩ := V_b25
  have hin50 : ¬ ((2 : Int32) < 0 ∨ cl50.slots.size ≤ ((2 : Int32) : Int32).toNatClampNeg) := inb_of S50 ⟨by decide, by decide⟩
  have hat51 := H50.at hin50 (v := (.long v2)) rfl
  have V_b25 : Arv Z T37.heap b25 k25 .long (3 : Int32) [(.long v0), (.long q2), (.long v2)] (.long (0 : Int64)) := ⟨cl50, Ar50, q50, S50, N50n, H50, G50⟩
  refine own_st (T' := T37) (g' := (mkF m 273 #[.val (.long q1), .second, .val (.long q2), .second, .val (.long q3), .second, .val (.long q4), .second, .val (.long q5), .second, .val (.int p6), .val (.long span0), .second, .val (.long span2), .second, .val (.long r1), .second, .val (.long r2), .second, .val (.int qa), .val (.ref b3), .val (.ref b20), .val (.int u), .val (.ref b25), .val (.ref b34), .val (.ref b35), .unset, .unset] [(.long v2), (.long (own_un P36 (qa + w2) l2 m2 s2))])) (X37.laload hx (j := (2 : Int32)) (v := (.long v2)) Ar50.1 (State.isArrayOf_alike hZ.alike Ar50.2.1) Ar50.2.2 hin50 hat51 (g := (mkF m 272 #[.val (.long q1), .second, .val (.long q2), .second, .val (.long q3), .second, .val (.long q4), .second, .val (.long q5), .second, .val (.int p6), .val (.long span0), .second, .val (.long span2), .second, .val (.long r1), .second, .val (.long r2), .second, .val (.int qa), .val (.ref b3), .val (.ref b20), .val (.int u), .val (.ref b25), .val (.ref b34), .val (.ref b35), .unset, .unset] [(.int (2 : Int32)), (.ref b25), (.long (own_un P36 (qa + w2) l2 m2 s2))])) rfl rfl (hb hby at_272)) ?_
  refine own_st (T' := T37) (g' := (mkF m 274 #[.val (.long q1), .second, .val (.long q2), .second, .val (.long q3), .second, .val (.long q4), .second, .val (.long q5), .second, .val (.int p6), .val (.long span0), .second, .val (.long span2), .second, .val (.long r1), .second, .val (.long r2), .second, .val (.int qa), .val (.ref b3), .val (.ref b20), .val (.int u), .val (.ref b25), .val (.ref b34), .val (.ref b35), .unset, .unset] [(.int (lcmpW (own_un P36 (qa + w2) l2 m2 s2) v2))])) (fun t k => XS.lcmp X37.here hx rfl (hb hby at_273) rfl k) ?_
  have hk52 : (lcmpW (own_un P36 (qa + w2) l2 m2 s2) v2) = (0 : Int32) := (lw_eq _ _).mpr hback.2.2
  refine own_st (T' := T37) (g' := (mkF m 277 #[.val (.long q1), .second, .val (.long q2), .second, .val (.long q3), .second, .val (.long q4), .second, .val (.long q5), .second, .val (.int p6), .val (.long span0), .second, .val (.long span2), .second, .val (.long r1), .second, .val (.long r2), .second, .val (.int qa), .val (.ref b3), .val (.ref b20), .val (.int u), .val (.ref b25), .val (.ref b34), .val (.ref b35), .unset, .unset] [])) (fun t k => XS.ifNo X37.here hx rfl (hb hby at_274) rfl ((if0 _ _).trans (teq hk52).2) k) ?_
  refine own_st (T' := T37) (g' := (mkF m 278 #[.val (.long q1), .second, .val (.long q2), .second, .val (.long q3), .second, .val (.long q4), .second, .val (.long q5), .second, .val (.int p6), .val (.long span0), .second, .val (.long span2), .second, .val (.long r1), .second, .val (.long r2), .second, .val (.int qa), .val (.ref b3), .val (.ref b20), .val (.int u), .val (.ref b25), .val (.ref b34), .val (.ref b35), .unset, .unset] [(.int (1 : Int32))])) (fun t k => XS.iconst X37.here hx rfl (hb hby at_277) k) ?_
  refine own_st (T' := T37) (g' := (mkF m 282 #[.val (.long q1), .second, .val (.long q2), .second, .val (.long q3), .second, .val (.long q4), .second, .val (.long q5), .second, .val (.int p6), .val (.long span0), .second, .val (.long span2), .second, .val (.long r1), .second, .val (.long r2), .second, .val (.int qa), .val (.ref b3), .val (.ref b20), .val (.int u), .val (.ref b25), .val (.ref b34), .val (.ref b35), .unset, .unset] [(.int (1 : Int32))])) (fun t k => XS.goto X37.here hx rfl (pc0 := 278) (pc' := 282) rfl (hb hby at_278) (by decide) (by decide) k) ?_
  refine own_st (T' := T37) (g' := (mkF m 284 #[.val (.long q1), .second, .val (.long q2), .second, .val (.long q3), .second, .val (.long q4), .second, .val (.long q5), .second, .val (.int p6), .val (.long span0), .second, .val (.long span2), .second, .val (.long r1), .second, .val (.long r2), .second, .val (.int qa), .val (.ref b3), .val (.ref b20), .val (.int u), .val (.ref b25), .val (.ref b34), .val (.ref b35), .val (.int (1 : Int32)), .unset] [])) (fun t k => XS.istore X37.here hx rfl (hb hby at_282) rfl (l' := #[.val (.long q1), .second, .val (.long q2), .second, .val (.long q3), .second, .val (.long q4), .second, .val (.long q5), .second, .val (.int p6), .val (.long span0), .second, .val (.long span2), .second, .val (.long r1), .second, .val (.long r2), .second, .val (.int qa), .val (.ref b3), .val (.ref b20), .val (.int u), .val (.ref b25), .val (.ref b34), .val (.ref b35), .val (.int (1 : Int32)), .unset]) rfl k) ?_
  refine own_st (T' := T37) (g' := (mkF m 286 #[.val (.long q1), .second, .val (.long q2), .second, .val (.long q3), .second, .val (.long q4), .second, .val (.long q5), .second, .val (.int p6), .val (.long span0), .second, .val (.long span2), .second, .val (.long r1), .second, .val (.long r2), .second, .val (.int qa), .val (.ref b3), .val (.ref b20), .val (.int u), .val (.ref b25), .val (.ref b34), .val (.ref b35), .val (.int (1 : Int32)), .unset] [(.ref b34)])) (fun t k => XS.aload X37.here hx rfl (hb hby at_284) rfl rfl k) ?_
  refine own_st (T' := T37) (g' := (mkF m 287 #[.val (.long q1), .second, .val (.long q2), .second, .val (.long q3), .second, .val (.long q4), .second, .val (.long q5), .second, .val (.int p6), .val (.long span0), .second, .val (.long span2), .second, .val (.long r1), .second, .val (.long r2), .second, .val (.int qa), .val (.ref b3), .val (.ref b20), .val (.int u), .val (.ref b25), .val (.ref b34), .val (.ref b35), .val (.int (1 : Int32)), .unset] [(.int (0 : Int32)), (.ref b34)])) (fun t k => XS.iconst X37.here hx rfl (hb hby at_286) k) ?_
  refine own_st (T' := T37) (g' := (mkF m 289 #[.val (.long q1), .second, .val (.long q2), .second, .val (.long q3), .second, .val (.long q4), .second, .val (.long q5), .second, .val (.int p6), .val (.long span0), .second, .val (.long span2), .second, .val (.long r1), .second, .val (.long r2), .second, .val (.int qa), .val (.ref b3), .val (.ref b20), .val (.int u), .val (.ref b25), .val (.ref b34), .val (.ref b35), .val (.int (1 : Int32)), .unset] [(.int qa), (.int (0 : Int32)), (.ref b34)])) (fun t k => XS.iload X37.here hx rfl (hb hby at_287) rfl k) ?_
  refine own_st (T' := T37) (g' := (mkF m 291 #[.val (.long q1), .second, .val (.long q2), .second, .val (.long q3), .second, .val (.long q4), .second, .val (.long q5), .second, .val (.int p6), .val (.long span0), .second, .val (.long span2), .second, .val (.long r1), .second, .val (.long r2), .second, .val (.int qa), .val (.ref b3), .val (.ref b20), .val (.int u), .val (.ref b25), .val (.ref b34), .val (.ref b35), .val (.int (1 : Int32)), .unset] [(.int u), (.int qa), (.int (0 : Int32)), (.ref b34)])) (fun t k => XS.iload X37.here hx rfl (hb hby at_289) rfl k) ?_
  obtain ⟨_, T53, L53, hQ53, X53, st53⟩ := own_callS (y := (⟨"com/example/astraea/astraea/explicit/StateLayoutPackPinLaw", "clear", "([JIII)Z"⟩ : MethodName)) (argsL := [(.ref b34), (.int (0 : Int32)), (.int qa), (.int u)]) 0 [] (own_rm29 l Z a0 hw T37.heap n0 Z37 b34 (0 : Int32) qa u k34 P36 V_b34 ⟨by decide, by decide⟩ (own_clear hlay hqa hP0 hP36 (by decide))) X37 hx hZ hown (hw _ (List.mem_of_getElem? (i := 196) rfl)) (hw _ (List.mem_of_getElem? (i := 197) rfl)) (hw _ (List.mem_of_getElem? (i := 2) rfl)) (hw _ (List.mem_of_getElem? (i := 198) rfl)) (by decide) (by decide) (by decide) (by decide) (by decide) rfl (g := (mkF m 291 #[.val (.long q1), .second, .val (.long q2), .second, .val (.long q3), .second, .val (.long q4), .second, .val (.long q5), .second, .val (.int p6), .val (.long span0), .second, .val (.long span2), .second, .val (.long r1), .second, .val (.long r2), .second, .val (.int qa), .val (.ref b3), .val (.ref b20), .val (.int u), .val (.ref b25), .val (.ref b34), .val (.ref b35), .val (.int (1 : Int32)), .unset] [(.int u), (.int qa), (.int (0 : Int32)), (.ref b34)])) rfl (by rw [hml]; rfl) (lenOf own_pd19 rfl) rfl (by show 2 * 0 + _ ≤ _; exact Nat.le_of_eq rfl) (hb hby at_291)
  obtain ⟨rfl, e53, rfl⟩ := hQ53
  have X53 : Stand p l e room_1 (s.setVm T16.vm) m #[(.long q1), (.long q2), (.long q3), (.long q4), (.long q5), (.int p6)] below meth c T53 lc37 19 86 := by have := X53; rwa [List.append_nil] at this
  refine own_st (T' := T53) (g' := (mkF m 294 #[.val (.long q1), .second, .val (.long q2), .second, .val (.long q3), .second, .val (.long q4), .second, .val (.long q5), .second, .val (.int p6), .val (.long span0), .second, .val (.long span2), .second, .val (.long r1), .second, .val (.long r2), .second, .val (.int qa), .val (.ref b3), .val (.ref b20), .val (.int u), .val (.ref b25), .val (.ref b34), .val (.ref b35), .val (.int (1 : Int32)), .unset] [(.int (1 : Int32))])) st53 ?_
  refine own_st (T' := T53) (g' := (mkF m 297 #[.val (.long q1), .second, .val (.long q2), .second, .val (.long q3), .second, .val (.long q4), .second, .val (.long q5), .second, .val (.int p6), .val (.long span0), .second, .val (.long span2), .second, .val (.long r1), .second, .val (.long r2), .second, .val (.int qa), .val (.ref b3), .val (.ref b20), .val (.int u), .val (.ref b25), .val (.ref b34), .val (.ref b35), .val (.int (1 : Int32)), .unset] [])) (fun t k => XS.ifNo X53.here hx rfl (hb hby at_294) rfl ((if0 _ _).trans (feq (by decide)).1) k) ?_
  refine own_st (T' := T53) (g' := (mkF m 299 #[.val (.long q1), .second, .val (.long q2), .second, .val (.long q3), .second, .val (.long q4), .second, .val (.long q5), .second, .val (.int p6), .val (.long span0), .second, .val (.long span2), .second, .val (.long r1), .second, .val (.long r2), .second, .val (.int qa), .val (.ref b3), .val (.ref b20), .val (.int u), .val (.ref b25), .val (.ref b34), .val (.ref b35), .val (.int (1 : Int32)), .unset] [(.ref b34)])) (fun t k => XS.aload X53.here hx rfl (hb hby at_297) rfl rfl k) ?_
  refine own_st (T' := T53) (g' := (mkF m 300 #[.val (.long q1), .second, .val (.long q2), .second, .val (.long q3), .second, .val (.long q4), .second, .val (.long q5), .second, .val (.int p6), .val (.long span0), .second, .val (.long span2), .second, .val (.long r1), .second, .val (.long r2), .second, .val (.int qa), .val (.ref b3), .val (.ref b20), .val (.int u), .val (.ref b25), .val (.ref b34), .val (.ref b35), .val (.int (1 : Int32)), .unset] [(.int (1 : Int32)), (.ref b34)])) (fun t k => XS.iconst X53.here hx rfl (hb hby at_299) k) ?_
  refine own_st (T' := T53) (g' := (mkF m 302 #[.val (.long q1), .second, .val (.long q2), .second, .val (.long q3), .second, .val (.long q4), .second, .val (.long q5), .second, .val (.int p6), .val (.long span0), .second, .val (.long span2), .second, .val (.long r1), .second, .val (.long r2), .second, .val (.int qa), .val (.ref b3), .val (.ref b20), .val (.int u), .val (.ref b25), .val (.ref b34), .val (.ref b35), .val (.int (1 : Int32)), .unset] [(.int qa), (.int (1 : Int32)), (.ref b34)])) (fun t k => XS.iload X53.here hx rfl (hb hby at_300) rfl k) ?_
  refine own_st (T' := T53) (g' := (mkF m 304 #[.val (.long q1), .second, .val (.long q2), .second, .val (.long q3), .second, .val (.long q4), .second, .val (.long q5), .second, .val (.int p6), .val (.long span0), .second, .val (.long span2), .second, .val (.long r1), .second, .val (.long r2), .second, .val (.int qa), .val (.ref b3), .val (.ref b20), .val (.int u), .val (.ref b25), .val (.ref b34), .val (.ref b35), .val (.int (1 : Int32)), .unset] [(.int u), (.int qa), (.int (1 : Int32)), (.ref b34)])) (fun t k => XS.iload X53.here hx rfl (hb hby at_302) rfl k) ?_
  obtain ⟨_, T54, L54, hQ54, X54, st54⟩ := own_callS (y := (⟨"com/example/astraea/astraea/explicit/StateLayoutPackPinLaw", "clear", "([JIII)Z"⟩ : MethodName)) (argsL := [(.ref b34), (.int (1 : Int32)), (.int qa), (.int u)]) 0 [] (own_rm29 l Z a0 hw T37.heap n0 Z37 b34 (1 : Int32) qa u k34 P36 V_b34 ⟨by decide, by decide⟩ (own_clear hlay hqa hP0 hP36 (by decide))) X53 hx hZ hown (hw _ (List.mem_of_getElem? (i := 196) rfl)) (hw _ (List.mem_of_getElem? (i := 197) rfl)) (hw _ (List.mem_of_getElem? (i := 2) rfl)) (hw _ (List.mem_of_getElem? (i := 198) rfl)) (by decide) (by decide) (by decide) (by decide) (by decide) e53 (g := (mkF m 304 #[.val (.long q1), .second, .val (.long q2), .second, .val (.long q3), .second, .val (.long q4), .second, .val (.long q5), .second, .val (.int p6), .val (.long span0), .second, .val (.long span2), .second, .val (.long r1), .second, .val (.long r2), .second, .val (.int qa), .val (.ref b3), .val (.ref b20), .val (.int u), .val (.ref b25), .val (.ref b34), .val (.ref b35), .val (.int (1 : Int32)), .unset] [(.int u), (.int qa), (.int (1 : Int32)), (.ref b34)])) rfl (by rw [hml]; rfl) (lenOf own_pd19 rfl) rfl (by show 2 * 0 + _ ≤ _; exact Nat.le_of_eq rfl) (hb hby at_304)
  obtain ⟨rfl, e54, rfl⟩ := hQ54
  have X54 : Stand p l e room_1 (s.setVm T16.vm) m #[(.long q1), (.long q2), (.long q3), (.long q4), (.long q5), (.int p6)] below meth c T54 lc37 19 86 := by have := X54; rwa [List.append_nil] at this
  refine own_st (T' := T54) (g' := (mkF m 307 #[.val (.long q1), .second, .val (.long q2), .second, .val (.long q3), .second, .val (.long q4), .second, .val (.long q5), .second, .val (.int p6), .val (.long span0), .second, .val (.long span2), .second, .val (.long r1), .second, .val (.long r2), .second, .val (.int qa), .val (.ref b3), .val (.ref b20), .val (.int u), .val (.ref b25), .val (.ref b34), .val (.ref b35), .val (.int (1 : Int32)), .unset] [(.int (1 : Int32))])) st54 ?_
  refine own_st (T' := T54) (g' := (mkF m 310 #[.val (.long q1), .second, .val (.long q2), .second, .val (.long q3), .second, .val (.long q4), .second, .val (.long q5), .second, .val (.int p6), .val (.long span0), .second, .val (.long span2), .second, .val (.long r1), .second, .val (.long r2), .second, .val (.int qa), .val (.ref b3), .val (.ref b20), .val (.int u), .val (.ref b25), .val (.ref b34), .val (.ref b35), .val (.int (1 : Int32)), .unset] [])) (fun t k => XS.ifNo X54.here hx rfl (hb hby at_307) rfl ((if0 _ _).trans (feq (by decide)).1) k) ?_
  refine own_st (T' := T54) (g' := (mkF m 312 #[.val (.long q1), .second, .val (.long q2), .second, .val (.long q3), .second, .val (.long q4), .second, .val (.long q5), .second, .val (.int p6), .val (.long span0), .second, .val (.long span2), .second, .val (.long r1), .second, .val (.long r2), .second, .val (.int qa), .val (.ref b3), .val (.ref b20), .val (.int u), .val (.ref b25), .val (.ref b34), .val (.ref b35), .val (.int (1 : Int32)), .unset] [(.ref b34)])) (fun t k => XS.aload X54.here hx rfl (hb hby at_310) rfl rfl k) ?_
  refine own_st (T' := T54) (g' := (mkF m 313 #[.val (.long q1), .second, .val (.long q2), .second, .val (.long q3), .second, .val (.long q4), .second, .val (.long q5), .second, .val (.int p6), .val (.long span0), .second, .val (.long span2), .second, .val (.long r1), .second, .val (.long r2), .second, .val (.int qa), .val (.ref b3), .val (.ref b20), .val (.int u), .val (.ref b25), .val (.ref b34), .val (.ref b35), .val (.int (1 : Int32)), .unset] [(.int (2 : Int32)), (.ref b34)])) (fun t k => XS.iconst X54.here hx rfl (hb hby at_312) k) ?_
  refine own_st (T' := T54) (g' := (mkF m 315 #[.val (.long q1), .second, .val (.long q2), .second, .val (.long q3), .second, .val (.long q4), .second, .val (.long q5), .second, .val (.int p6), .val (.long span0), .second, .val (.long span2), .second, .val (.long r1), .second, .val (.long r2), .second, .val (.int qa), .val (.ref b3), .val (.ref b20), .val (.int u), .val (.ref b25), .val (.ref b34), .val (.ref b35), .val (.int (1 : Int32)), .unset] [(.int qa), (.int (2 : Int32)), (.ref b34)])) (fun t k => XS.iload X54.here hx rfl (hb hby at_313) rfl k) ?_
  refine own_st (T' := T54) (g' := (mkF m 317 #[.val (.long q1), .second, .val (.long q2), .second, .val (.long q3), .second, .val (.long q4), .second, .val (.long q5), .second, .val (.int p6), .val (.long span0), .second, .val (.long span2), .second, .val (.long r1), .second, .val (.long r2), .second, .val (.int qa), .val (.ref b3), .val (.ref b20), .val (.int u), .val (.ref b25), .val (.ref b34), .val (.ref b35), .val (.int (1 : Int32)), .unset] [(.int u), (.int qa), (.int (2 : Int32)), (.ref b34)])) (fun t k => XS.iload X54.here hx rfl (hb hby at_315) rfl k) ?_
  obtain ⟨_, T55, L55, hQ55, X55, st55⟩ := own_callS (y := (⟨"com/example/astraea/astraea/explicit/StateLayoutPackPinLaw", "clear", "([JIII)Z"⟩ : MethodName)) (argsL := [(.ref b34), (.int (2 : Int32)), (.int qa), (.int u)]) 0 [] (own_rm29 l Z a0 hw T37.heap n0 Z37 b34 (2 : Int32) qa u k34 P36 V_b34 ⟨by decide, by decide⟩ (own_clear hlay hqa hP0 hP36 (by decide))) X54 hx hZ hown (hw _ (List.mem_of_getElem? (i := 196) rfl)) (hw _ (List.mem_of_getElem? (i := 197) rfl)) (hw _ (List.mem_of_getElem? (i := 2) rfl)) (hw _ (List.mem_of_getElem? (i := 198) rfl)) (by decide) (by decide) (by decide) (by decide) (by decide) e54 (g := (mkF m 317 #[.val (.long q1), .second, .val (.long q2), .second, .val (.long q3), .second, .val (.long q4), .second, .val (.long q5), .second, .val (.int p6), .val (.long span0), .second, .val (.long span2), .second, .val (.long r1), .second, .val (.long r2), .second, .val (.int qa), .val (.ref b3), .val (.ref b20), .val (.int u), .val (.ref b25), .val (.ref b34), .val (.ref b35), .val (.int (1 : Int32)), .unset] [(.int u), (.int qa), (.int (2 : Int32)), (.ref b34)])) rfl (by rw [hml]; rfl) (lenOf own_pd19 rfl) rfl (by show 2 * 0 + _ ≤ _; exact Nat.le_of_eq rfl) (hb hby at_317)
  obtain ⟨rfl, e55, rfl⟩ := hQ55
  have X55 : Stand p l e room_1 (s.setVm T16.vm) m #[(.long q1), (.long q2), (.long q3), (.long q4), (.long q5), (.int p6)] below meth c T55 lc37 19 86 := by have := X55; rwa [List.append_nil] at this
  refine own_st (T' := T55) (g' := (mkF m 320 #[.val (.long q1), .second, .val (.long q2), .second, .val (.long q3), .second, .val (.long q4), .second, .val (.long q5), .second, .val (.int p6), .val (.long span0), .second, .val (.long span2), .second, .val (.long r1), .second, .val (.long r2), .second, .val (.int qa), .val (.ref b3), .val (.ref b20), .val (.int u), .val (.ref b25), .val (.ref b34), .val (.ref b35), .val (.int (1 : Int32)), .unset] [(.int (1 : Int32))])) st55 ?_
  refine own_st (T' := T55) (g' := (mkF m 323 #[.val (.long q1), .second, .val (.long q2), .second, .val (.long q3), .second, .val (.long q4), .second, .val (.long q5), .second, .val (.int p6), .val (.long span0), .second, .val (.long span2), .second, .val (.long r1), .second, .val (.long r2), .second, .val (.int qa), .val (.ref b3), .val (.ref b20), .val (.int u), .val (.ref b25), .val (.ref b34), .val (.ref b35), .val (.int (1 : Int32)), .unset] [])) (fun t k => XS.ifNo X55.here hx rfl (hb hby at_320) rfl ((if0 _ _).trans (feq (by decide)).1) k) ?_
  refine own_st (T' := T55) (g' := (mkF m 325 #[.val (.long q1), .second, .val (.long q2), .second, .val (.long q3), .second, .val (.long q4), .second, .val (.long q5), .second, .val (.int p6), .val (.long span0), .second, .val (.long span2), .second, .val (.long r1), .second, .val (.long r2), .second, .val (.int qa), .val (.ref b3), .val (.ref b20), .val (.int u), .val (.ref b25), .val (.ref b34), .val (.ref b35), .val (.int (1 : Int32)), .unset] [(.ref b34)])) (fun t k => XS.aload X55.here hx rfl (hb hby at_323) rfl rfl k) ?_
  refine own_st (T' := T55) (g' := (mkF m 326 #[.val (.long q1), .second, .val (.long q2), .second, .val (.long q3), .second, .val (.long q4), .second, .val (.long q5), .second, .val (.int p6), .val (.long span0), .second, .val (.long span2), .second, .val (.long r1), .second, .val (.long r2), .second, .val (.int qa), .val (.ref b3), .val (.ref b20), .val (.int u), .val (.ref b25), .val (.ref b34), .val (.ref b35), .val (.int (1 : Int32)), .unset] [(.int (3 : Int32)), (.ref b34)])) (fun t k => XS.iconst X55.here hx rfl (hb hby at_325) k) ?_
  refine own_st (T' := T55) (g' := (mkF m 328 #[.val (.long q1), .second, .val (.long q2), .second, .val (.long q3), .second, .val (.long q4), .second, .val (.long q5), .second, .val (.int p6), .val (.long span0), .second, .val (.long span2), .second, .val (.long r1), .second, .val (.long r2), .second, .val (.int qa), .val (.ref b3), .val (.ref b20), .val (.int u), .val (.ref b25), .val (.ref b34), .val (.ref b35), .val (.int (1 : Int32)), .unset] [(.int qa), (.int (3 : Int32)), (.ref b34)])) (fun t k => XS.iload X55.here hx rfl (hb hby at_326) rfl k) ?_
  refine own_st (T' := T55) (g' := (mkF m 330 #[.val (.long q1), .second, .val (.long q2), .second, .val (.long q3), .second, .val (.long q4), .second, .val (.long q5), .second, .val (.int p6), .val (.long span0), .second, .val (.long span2), .second, .val (.long r1), .second, .val (.long r2), .second, .val (.int qa), .val (.ref b3), .val (.ref b20), .val (.int u), .val (.ref b25), .val (.ref b34), .val (.ref b35), .val (.int (1 : Int32)), .unset] [(.int u), (.int qa), (.int (3 : Int32)), (.ref b34)])) (fun t k => XS.iload X55.here hx rfl (hb hby at_328) rfl k) ?_
  obtain ⟨_, T56, L56, hQ56, X56, st56⟩ := own_callS (y := (⟨"com/example/astraea/astraea/explicit/StateLayoutPackPinLaw", "clear", "([JIII)Z"⟩ : MethodName)) (argsL := [(.ref b34), (.int (3 : Int32)), (.int qa), (.int u)]) 0 [] (own_rm29 l Z a0 hw T37.heap n0 Z37 b34 (3 : Int32) qa u k34 P36 V_b34 ⟨by decide, by decide⟩ (own_clear hlay hqa hP0 hP36 (by decide))) X55 hx hZ hown (hw _ (List.mem_of_getElem? (i := 196) rfl)) (hw _ (List.mem_of_getElem? (i := 197) rfl)) (hw _ (List.mem_of_getElem? (i := 2) rfl)) (hw _ (List.mem_of_getElem? (i := 198) rfl)) (by decide) (by decide) (by decide) (by decide) (by decide) e55 (g := (mkF m 330 #[.val (.long q1), .second, .val (.long q2), .second, .val (.long q3), .second, .val (.long q4), .second, .val (.long q5), .second, .val (.int p6), .val (.long span0), .second, .val (.long span2), .second, .val (.long r1), .second, .val (.long r2), .second, .val (.int qa), .val (.ref b3), .val (.ref b20), .val (.int u), .val (.ref b25), .val (.ref b34), .val (.ref b35), .val (.int (1 : Int32)), .unset] [(.int u), (.int qa), (.int (3 : Int32)), (.ref b34)])) rfl (by rw [hml]; rfl) (lenOf own_pd19 rfl) rfl (by show 2 * 0 + _ ≤ _; exact Nat.le_of_eq rfl) (hb hby at_330)
  obtain ⟨rfl, e56, rfl⟩ := hQ56
  have X56 : Stand p l e room_1 (s.setVm T16.vm) m #[(.long q1), (.long q2), (.long q3), (.long q4), (.long q5), (.int p6)] below meth c T56 lc37 19 86 := by have := X56; rwa [List.append_nil] at this
  refine own_st (T' := T56) (g' := (mkF m 333 #[.val (.long q1), .second, .val (.long q2), .second, .val (.long q3), .second, .val (.long q4), .second, .val (.long q5), .second, .val (.int p6), .val (.long span0), .second, .val (.long span2), .second, .val (.long r1), .second, .val (.long r2), .second, .val (.int qa), .val (.ref b3), .val (.ref b20), .val (.int u), .val (.ref b25), .val (.ref b34), .val (.ref b35), .val (.int (1 : Int32)), .unset] [(.int (1 : Int32))])) st56 ?_
  refine own_st (T' := T56) (g' := (mkF m 336 #[.val (.long q1), .second, .val (.long q2), .second, .val (.long q3), .second, .val (.long q4), .second, .val (.long q5), .second, .val (.int p6), .val (.long span0), .second, .val (.long span2), .second, .val (.long r1), .second, .val (.long r2), .second, .val (.int qa), .val (.ref b3), .val (.ref b20), .val (.int u), .val (.ref b25), .val (.ref b34), .val (.ref b35), .val (.int (1 : Int32)), .unset] [])) (fun t k => XS.ifNo X56.here hx rfl (hb hby at_333) rfl ((if0 _ _).trans (feq (by decide)).1) k) ?_
  refine own_st (T' := T56) (g' := (mkF m 338 #[.val (.long q1), .second, .val (.long q2), .second, .val (.long q3), .second, .val (.long q4), .second, .val (.long q5), .second, .val (.int p6), .val (.long span0), .second, .val (.long span2), .second, .val (.long r1), .second, .val (.long r2), .second, .val (.int qa), .val (.ref b3), .val (.ref b20), .val (.int u), .val (.ref b25), .val (.ref b34), .val (.ref b35), .val (.int (1 : Int32)), .unset] [(.ref b34)])) (fun t k => XS.aload X56.here hx rfl (hb hby at_336) rfl rfl k) ?_
  refine own_st (T' := T56) (g' := (mkF m 339 #[.val (.long q1), .second, .val (.long q2), .second, .val (.long q3), .second, .val (.long q4), .second, .val (.long q5), .second, .val (.int p6), .val (.long span0), .second, .val (.long span2), .second, .val (.long r1), .second, .val (.long r2), .second, .val (.int qa), .val (.ref b3), .val (.ref b20), .val (.int u), .val (.ref b25), .val (.ref b34), .val (.ref b35), .val (.int (1 : Int32)), .unset] [(.int (4 : Int32)), (.ref b34)])) (fun t k => XS.iconst X56.here hx rfl (hb hby at_338) k) ?_
  refine own_st (T' := T56) (g' := (mkF m 341 #[.val (.long q1), .second, .val (.long q2), .second, .val (.long q3), .second, .val (.long q4), .second, .val (.long q5), .second, .val (.int p6), .val (.long span0), .second, .val (.long span2), .second, .val (.long r1), .second, .val (.long r2), .second, .val (.int qa), .val (.ref b3), .val (.ref b20), .val (.int u), .val (.ref b25), .val (.ref b34), .val (.ref b35), .val (.int (1 : Int32)), .unset] [(.int qa), (.int (4 : Int32)), (.ref b34)])) (fun t k => XS.iload X56.here hx rfl (hb hby at_339) rfl k) ?_
  refine own_st (T' := T56) (g' := (mkF m 343 #[.val (.long q1), .second, .val (.long q2), .second, .val (.long q3), .second, .val (.long q4), .second, .val (.long q5), .second, .val (.int p6), .val (.long span0), .second, .val (.long span2), .second, .val (.long r1), .second, .val (.long r2), .second, .val (.int qa), .val (.ref b3), .val (.ref b20), .val (.int u), .val (.ref b25), .val (.ref b34), .val (.ref b35), .val (.int (1 : Int32)), .unset] [(.int u), (.int qa), (.int (4 : Int32)), (.ref b34)])) (fun t k => XS.iload X56.here hx rfl (hb hby at_341) rfl k) ?_
  obtain ⟨_, T57, L57, hQ57, X57, st57⟩ := own_callS (y := (⟨"com/example/astraea/astraea/explicit/StateLayoutPackPinLaw", "clear", "([JIII)Z"⟩ : MethodName)) (argsL := [(.ref b34), (.int (4 : Int32)), (.int qa), (.int u)]) 0 [] (own_rm29 l Z a0 hw T37.heap n0 Z37 b34 (4 : Int32) qa u k34 P36 V_b34 ⟨by decide, by decide⟩ (own_clear hlay hqa hP0 hP36 (by decide))) X56 hx hZ hown (hw _ (List.mem_of_getElem? (i := 196) rfl)) (hw _ (List.mem_of_getElem? (i := 197) rfl)) (hw _ (List.mem_of_getElem? (i := 2) rfl)) (hw _ (List.mem_of_getElem? (i := 198) rfl)) (by decide) (by decide) (by decide) (by decide) (by decide) e56 (g := (mkF m 343 #[.val (.long q1), .second, .val (.long q2), .second, .val (.long q3), .second, .val (.long q4), .second, .val (.long q5), .second, .val (.int p6), .val (.long span0), .second, .val (.long span2), .second, .val (.long r1), .second, .val (.long r2), .second, .val (.int qa), .val (.ref b3), .val (.ref b20), .val (.int u), .val (.ref b25), .val (.ref b34), .val (.ref b35), .val (.int (1 : Int32)), .unset] [(.int u), (.int qa), (.int (4 : Int32)), (.ref b34)])) rfl (by rw [hml]; rfl) (lenOf own_pd19 rfl) rfl (by show 2 * 0 + _ ≤ _; exact Nat.le_of_eq rfl) (hb hby at_343)
  obtain ⟨rfl, e57, rfl⟩ := hQ57
  have X57 : Stand p l e room_1 (s.setVm T16.vm) m #[(.long q1), (.long q2), (.long q3), (.long q4), (.long q5), (.int p6)] below meth c T57 lc37 19 86 := by have := X57; rwa [List.append_nil] at this
  refine own_st (T' := T57) (g' := (mkF m 346 #[.val (.long q1), .second, .val (.long q2), .second, .val (.long q3), .second, .val (.long q4), .second, .val (.long q5), .second, .val (.int p6), .val (.long span0), .second, .val (.long span2), .second, .val (.long r1), .second, .val (.long r2), .second, .val (.int qa), .val (.ref b3), .val (.ref b20), .val (.int u), .val (.ref b25), .val (.ref b34), .val (.ref b35), .val (.int (1 : Int32)), .unset] [(.int (1 : Int32))])) st57 ?_
  refine own_st (T' := T57) (g' := (mkF m 349 #[.val (.long q1), .second, .val (.long q2), .second, .val (.long q3), .second, .val (.long q4), .second, .val (.long q5), .second, .val (.int p6), .val (.long span0), .second, .val (.long span2), .second, .val (.long r1), .second, .val (.long r2), .second, .val (.int qa), .val (.ref b3), .val (.ref b20), .val (.int u), .val (.ref b25), .val (.ref b34), .val (.ref b35), .val (.int (1 : Int32)), .unset] [])) (fun t k => XS.ifNo X57.here hx rfl (hb hby at_346) rfl ((if0 _ _).trans (feq (by decide)).1) k) ?_
  refine own_st (T' := T57) (g' := (mkF m 351 #[.val (.long q1), .second, .val (.long q2), .second, .val (.long q3), .second, .val (.long q4), .second, .val (.long q5), .second, .val (.int p6), .val (.long span0), .second, .val (.long span2), .second, .val (.long r1), .second, .val (.long r2), .second, .val (.int qa), .val (.ref b3), .val (.ref b20), .val (.int u), .val (.ref b25), .val (.ref b34), .val (.ref b35), .val (.int (1 : Int32)), .unset] [(.ref b34)])) (fun t k => XS.aload X57.here hx rfl (hb hby at_349) rfl rfl k) ?_
  refine own_st (T' := T57) (g' := (mkF m 352 #[.val (.long q1), .second, .val (.long q2), .second, .val (.long q3), .second, .val (.long q4), .second, .val (.long q5), .second, .val (.int p6), .val (.long span0), .second, .val (.long span2), .second, .val (.long r1), .second, .val (.long r2), .second, .val (.int qa), .val (.ref b3), .val (.ref b20), .val (.int u), .val (.ref b25), .val (.ref b34), .val (.ref b35), .val (.int (1 : Int32)), .unset] [(.int (5 : Int32)), (.ref b34)])) (fun t k => XS.iconst X57.here hx rfl (hb hby at_351) k) ?_
  refine own_st (T' := T57) (g' := (mkF m 354 #[.val (.long q1), .second, .val (.long q2), .second, .val (.long q3), .second, .val (.long q4), .second, .val (.long q5), .second, .val (.int p6), .val (.long span0), .second, .val (.long span2), .second, .val (.long r1), .second, .val (.long r2), .second, .val (.int qa), .val (.ref b3), .val (.ref b20), .val (.int u), .val (.ref b25), .val (.ref b34), .val (.ref b35), .val (.int (1 : Int32)), .unset] [(.int qa), (.int (5 : Int32)), (.ref b34)])) (fun t k => XS.iload X57.here hx rfl (hb hby at_352) rfl k) ?_
  refine own_st (T' := T57) (g' := (mkF m 356 #[.val (.long q1), .second, .val (.long q2), .second, .val (.long q3), .second, .val (.long q4), .second, .val (.long q5), .second, .val (.int p6), .val (.long span0), .second, .val (.long span2), .second, .val (.long r1), .second, .val (.long r2), .second, .val (.int qa), .val (.ref b3), .val (.ref b20), .val (.int u), .val (.ref b25), .val (.ref b34), .val (.ref b35), .val (.int (1 : Int32)), .unset] [(.int u), (.int qa), (.int (5 : Int32)), (.ref b34)])) (fun t k => XS.iload X57.here hx rfl (hb hby at_354) rfl k) ?_
  obtain ⟨_, T58, L58, hQ58, X58, st58⟩ := own_callS (y := (⟨"com/example/astraea/astraea/explicit/StateLayoutPackPinLaw", "clear", "([JIII)Z"⟩ : MethodName)) (argsL := [(.ref b34), (.int (5 : Int32)), (.int qa), (.int u)]) 0 [] (own_rm29 l Z a0 hw T37.heap n0 Z37 b34 (5 : Int32) qa u k34 P36 V_b34 ⟨by decide, by decide⟩ (own_clear hlay hqa hP0 hP36 (by decide))) X57 hx hZ hown (hw _ (List.mem_of_getElem? (i := 196) rfl)) (hw _ (List.mem_of_getElem? (i := 197) rfl)) (hw _ (List.mem_of_getElem? (i := 2) rfl)) (hw _ (List.mem_of_getElem? (i := 198) rfl)) (by decide) (by decide) (by decide) (by decide) (by decide) e57 (g := (mkF m 356 #[.val (.long q1), .second, .val (.long q2), .second, .val (.long q3), .second, .val (.long q4), .second, .val (.long q5), .second, .val (.int p6), .val (.long span0), .second, .val (.long span2), .second, .val (.long r1), .second, .val (.long r2), .second, .val (.int qa), .val (.ref b3), .val (.ref b20), .val (.int u), .val (.ref b25), .val (.ref b34), .val (.ref b35), .val (.int (1 : Int32)), .unset] [(.int u), (.int qa), (.int (5 : Int32)), (.ref b34)])) rfl (by rw [hml]; rfl) (lenOf own_pd19 rfl) rfl (by show 2 * 0 + _ ≤ _; exact Nat.le_of_eq rfl) (hb hby at_356)
  obtain ⟨rfl, e58, rfl⟩ := hQ58
  have X58 : Stand p l e room_1 (s.setVm T16.vm) m #[(.long q1), (.long q2), (.long q3), (.long q4), (.long q5), (.int p6)] below meth c T58 lc37 19 86 := by have := X58; rwa [List.append_nil] at this
  refine own_st (T' := T58) (g' := (mkF m 359 #[.val (.long q1), .second, .val (.long q2), .second, .val (.long q3), .second, .val (.long q4), .second, .val (.long q5), .second, .val (.int p6), .val (.long span0), .second, .val (.long span2), .second, .val (.long r1), .second, .val (.long r2), .second, .val (.int qa), .val (.ref b3), .val (.ref b20), .val (.int u), .val (.ref b25), .val (.ref b34), .val (.ref b35), .val (.int (1 : Int32)), .unset] [(.int (1 : Int32))])) st58 ?_
  refine own_st (T' := T58) (g' := (mkF m 362 #[.val (.long q1), .second, .val (.long q2), .second, .val (.long q3), .second, .val (.long q4), .second, .val (.long q5), .second, .val (.int p6), .val (.long span0), .second, .val (.long span2), .second, .val (.long r1), .second, .val (.long r2), .second, .val (.int qa), .val (.ref b3), .val (.ref b20), .val (.int u), .val (.ref b25), .val (.ref b34), .val (.ref b35), .val (.int (1 : Int32)), .unset] [])) (fun t k => XS.ifNo X58.here hx rfl (hb hby at_359) rfl ((if0 _ _).trans (feq (by decide)).1) k) ?_
  refine own_st (T' := T58) (g' := (mkF m 364 #[.val (.long q1), .second, .val (.long q2), .second, .val (.long q3), .second, .val (.long q4), .second, .val (.long q5), .second, .val (.int p6), .val (.long span0), .second, .val (.long span2), .second, .val (.long r1), .second, .val (.long r2), .second, .val (.int qa), .val (.ref b3), .val (.ref b20), .val (.int u), .val (.ref b25), .val (.ref b34), .val (.ref b35), .val (.int (1 : Int32)), .unset] [(.ref b34)])) (fun t k => XS.aload X58.here hx rfl (hb hby at_362) rfl rfl k) ?_
  refine own_st (T' := T58) (g' := (mkF m 366 #[.val (.long q1), .second, .val (.long q2), .second, .val (.long q3), .second, .val (.long q4), .second, .val (.long q5), .second, .val (.int p6), .val (.long span0), .second, .val (.long span2), .second, .val (.long r1), .second, .val (.long r2), .second, .val (.int qa), .val (.ref b3), .val (.ref b20), .val (.int u), .val (.ref b25), .val (.ref b34), .val (.ref b35), .val (.int (1 : Int32)), .unset] [(.int (6 : Int32)), (.ref b34)])) (fun t k => XS.bipush X58.here hx rfl (hb hby at_364) k) ?_
  refine own_st (T' := T58) (g' := (mkF m 368 #[.val (.long q1), .second, .val (.long q2), .second, .val (.long q3), .second, .val (.long q4), .second, .val (.long q5), .second, .val (.int p6), .val (.long span0), .second, .val (.long span2), .second, .val (.long r1), .second, .val (.long r2), .second, .val (.int qa), .val (.ref b3), .val (.ref b20), .val (.int u), .val (.ref b25), .val (.ref b34), .val (.ref b35), .val (.int (1 : Int32)), .unset] [(.int qa), (.int (6 : Int32)), (.ref b34)])) (fun t k => XS.iload X58.here hx rfl (hb hby at_366) rfl k) ?_
  refine own_st (T' := T58) (g' := (mkF m 370 #[.val (.long q1), .second, .val (.long q2), .second, .val (.long q3), .second, .val (.long q4), .second, .val (.long q5), .second, .val (.int p6), .val (.long span0), .second, .val (.long span2), .second, .val (.long r1), .second, .val (.long r2), .second, .val (.int qa), .val (.ref b3), .val (.ref b20), .val (.int u), .val (.ref b25), .val (.ref b34), .val (.ref b35), .val (.int (1 : Int32)), .unset] [(.int u), (.int qa), (.int (6 : Int32)), (.ref b34)])) (fun t k => XS.iload X58.here hx rfl (hb hby at_368) rfl k) ?_
  obtain ⟨_, T59, L59, hQ59, X59, st59⟩ := own_callS (y := (⟨"com/example/astraea/astraea/explicit/StateLayoutPackPinLaw", "clear", "([JIII)Z"⟩ : MethodName)) (argsL := [(.ref b34), (.int (6 : Int32)), (.int qa), (.int u)]) 0 [] (own_rm29 l Z a0 hw T37.heap n0 Z37 b34 (6 : Int32) qa u k34 P36 V_b34 ⟨by decide, by decide⟩ (own_clear hlay hqa hP0 hP36 (by decide))) X58 hx hZ hown (hw _ (List.mem_of_getElem? (i := 196) rfl)) (hw _ (List.mem_of_getElem? (i := 197) rfl)) (hw _ (List.mem_of_getElem? (i := 2) rfl)) (hw _ (List.mem_of_getElem? (i := 198) rfl)) (by decide) (by decide) (by decide) (by decide) (by decide) e58 (g := (mkF m 370 #[.val (.long q1), .second, .val (.long q2), .second, .val (.long q3), .second, .val (.long q4), .second, .val (.long q5), .second, .val (.int p6), .val (.long span0), .second, .val (.long span2), .second, .val (.long r1), .second, .val (.long r2), .second, .val (.int qa), .val (.ref b3), .val (.ref b20), .val (.int u), .val (.ref b25), .val (.ref b34), .val (.ref b35), .val (.int (1 : Int32)), .unset] [(.int u), (.int qa), (.int (6 : Int32)), (.ref b34)])) rfl (by rw [hml]; rfl) (lenOf own_pd19 rfl) rfl (by show 2 * 0 + _ ≤ _; exact Nat.le_of_eq rfl) (hb hby at_370)
  obtain ⟨rfl, e59, rfl⟩ := hQ59
  have X59 : Stand p l e room_1 (s.setVm T16.vm) m #[(.long q1), (.long q2), (.long q3), (.long q4), (.long q5), (.int p6)] below meth c T59 lc37 19 86 := by have := X59; rwa [List.append_nil] at this
  refine own_st (T' := T59) (g' := (mkF m 373 #[.val (.long q1), .second, .val (.long q2), .second, .val (.long q3), .second, .val (.long q4), .second, .val (.long q5), .second, .val (.int p6), .val (.long span0), .second, .val (.long span2), .second, .val (.long r1), .second, .val (.long r2), .second, .val (.int qa), .val (.ref b3), .val (.ref b20), .val (.int u), .val (.ref b25), .val (.ref b34), .val (.ref b35), .val (.int (1 : Int32)), .unset] [(.int (1 : Int32))])) st59 ?_
  refine own_st (T' := T59) (g' := (mkF m 376 #[.val (.long q1), .second, .val (.long q2), .second, .val (.long q3), .second, .val (.long q4), .second, .val (.long q5), .second, .val (.int p6), .val (.long span0), .second, .val (.long span2), .second, .val (.long r1), .second, .val (.long r2), .second, .val (.int qa), .val (.ref b3), .val (.ref b20), .val (.int u), .val (.ref b25), .val (.ref b34), .val (.ref b35), .val (.int (1 : Int32)), .unset] [])) (fun t k => XS.ifNo X59.here hx rfl (hb hby at_373) rfl ((if0 _ _).trans (feq (by decide)).1) k) ?_
  refine own_st (T' := T59) (g' := (mkF m 378 #[.val (.long q1), .second, .val (.long q2), .second, .val (.long q3), .second, .val (.long q4), .second, .val (.long q5), .second, .val (.int p6), .val (.long span0), .second, .val (.long span2), .second, .val (.long r1), .second, .val (.long r2), .second, .val (.int qa), .val (.ref b3), .val (.ref b20), .val (.int u), .val (.ref b25), .val (.ref b34), .val (.ref b35), .val (.int (1 : Int32)), .unset] [(.ref b34)])) (fun t k => XS.aload X59.here hx rfl (hb hby at_376) rfl rfl k) ?_
  refine own_st (T' := T59) (g' := (mkF m 380 #[.val (.long q1), .second, .val (.long q2), .second, .val (.long q3), .second, .val (.long q4), .second, .val (.long q5), .second, .val (.int p6), .val (.long span0), .second, .val (.long span2), .second, .val (.long r1), .second, .val (.long r2), .second, .val (.int qa), .val (.ref b3), .val (.ref b20), .val (.int u), .val (.ref b25), .val (.ref b34), .val (.ref b35), .val (.int (1 : Int32)), .unset] [(.int (7 : Int32)), (.ref b34)])) (fun t k => XS.bipush X59.here hx rfl (hb hby at_378) k) ?_
  refine own_st (T' := T59) (g' := (mkF m 382 #[.val (.long q1), .second, .val (.long q2), .second, .val (.long q3), .second, .val (.long q4), .second, .val (.long q5), .second, .val (.int p6), .val (.long span0), .second, .val (.long span2), .second, .val (.long r1), .second, .val (.long r2), .second, .val (.int qa), .val (.ref b3), .val (.ref b20), .val (.int u), .val (.ref b25), .val (.ref b34), .val (.ref b35), .val (.int (1 : Int32)), .unset] [(.int qa), (.int (7 : Int32)), (.ref b34)])) (fun t k => XS.iload X59.here hx rfl (hb hby at_380) rfl k) ?_
  refine own_st (T' := T59) (g' := (mkF m 384 #[.val (.long q1), .second, .val (.long q2), .second, .val (.long q3), .second, .val (.long q4), .second, .val (.long q5), .second, .val (.int p6), .val (.long span0), .second, .val (.long span2), .second, .val (.long r1), .second, .val (.long r2), .second, .val (.int qa), .val (.ref b3), .val (.ref b20), .val (.int u), .val (.ref b25), .val (.ref b34), .val (.ref b35), .val (.int (1 : Int32)), .unset] [(.int u), (.int qa), (.int (7 : Int32)), (.ref b34)])) (fun t k => XS.iload X59.here hx rfl (hb hby at_382) rfl k) ?_
  obtain ⟨_, T60, L60, hQ60, X60, st60⟩ := own_callS (y := (⟨"com/example/astraea/astraea/explicit/StateLayoutPackPinLaw", "clear", "([JIII)Z"⟩ : MethodName)) (argsL := [(.ref b34), (.int (7 : Int32)), (.int qa), (.int u)]) 0 [] (own_rm29 l Z a0 hw T37.heap n0 Z37 b34 (7 : Int32) qa u k34 P36 V_b34 ⟨by decide, by decide⟩ (own_clear hlay hqa hP0 hP36 (by decide))) X59 hx hZ hown (hw _ (List.mem_of_getElem? (i := 196) rfl)) (hw _ (List.mem_of_getElem? (i := 197) rfl)) (hw _ (List.mem_of_getElem? (i := 2) rfl)) (hw _ (List.mem_of_getElem? (i := 198) rfl)) (by decide) (by decide) (by decide) (by decide) (by decide) e59 (g := (mkF m 384 #[.val (.long q1), .second, .val (.long q2), .second, .val (.long q3), .second, .val (.long q4), .second, .val (.long q5), .second, .val (.int p6), .val (.long span0), .second, .val (.long span2), .second, .val (.long r1), .second, .val (.long r2), .second, .val (.int qa), .val (.ref b3), .val (.ref b20), .val (.int u), .val (.ref b25), .val (.ref b34), .val (.ref b35), .val (.int (1 : Int32)), .unset] [(.int u), (.int qa), (.int (7 : Int32)), (.ref b34)])) rfl (by rw [hml]; rfl) (lenOf own_pd19 rfl) rfl (by show 2 * 0 + _ ≤ _; exact Nat.le_of_eq rfl) (hb hby at_384)
  obtain ⟨rfl, e60, rfl⟩ := hQ60
  have X60 : Stand p l e room_1 (s.setVm T16.vm) m #[(.long q1), (.long q2), (.long q3), (.long q4), (.long q5), (.int p6)] below meth c T60 lc37 19 86 := by have := X60; rwa [List.append_nil] at this
  refine own_st (T' := T60) (g' := (mkF m 387 #[.val (.long q1), .second, .val (.long q2), .second, .val (.long q3), .second, .val (.long q4), .second, .val (.long q5), .second, .val (.int p6), .val (.long span0), .second, .val (.long span2), .second, .val (.long r1), .second, .val (.long r2), .second, .val (.int qa), .val (.ref b3), .val (.ref b20), .val (.int u), .val (.ref b25), .val (.ref b34), .val (.ref b35), .val (.int (1 : Int32)), .unset] [(.int (1 : Int32))])) st60 ?_
  refine own_st (T' := T60) (g' := (mkF m 390 #[.val (.long q1), .second, .val (.long q2), .second, .val (.long q3), .second, .val (.long q4), .second, .val (.long q5), .second, .val (.int p6), .val (.long span0), .second, .val (.long span2), .second, .val (.long r1), .second, .val (.long r2), .second, .val (.int qa), .val (.ref b3), .val (.ref b20), .val (.int u), .val (.ref b25), .val (.ref b34), .val (.ref b35), .val (.int (1 : Int32)), .unset] [])) (fun t k => XS.ifNo X60.here hx rfl (hb hby at_387) rfl ((if0 _ _).trans (feq (by decide)).1) k) ?_
  refine own_st (T' := T60) (g' := (mkF m 391 #[.val (.long q1), .second, .val (.long q2), .second, .val (.long q3), .second, .val (.long q4), .second, .val (.long q5), .second, .val (.int p6), .val (.long span0), .second, .val (.long span2), .second, .val (.long r1), .second, .val (.long r2), .second, .val (.int qa), .val (.ref b3), .val (.ref b20), .val (.int u), .val (.ref b25), .val (.ref b34), .val (.ref b35), .val (.int (1 : Int32)), .unset] [(.int (1 : Int32))])) (fun t k => XS.iconst X60.here hx rfl (hb hby at_390) k) ?_
  refine own_st (T' := T60) (g' := (mkF m 395 #[.val (.long q1), .second, .val (.long q2), .second, .val (.long q3), .second, .val (.long q4), .second, .val (.long q5), .second, .val (.int p6), .val (.long span0), .second, .val (.long span2), .second, .val (.long r1), .second, .val (.long r2), .second, .val (.int qa), .val (.ref b3), .val (.ref b20), .val (.int u), .val (.ref b25), .val (.ref b34), .val (.ref b35), .val (.int (1 : Int32)), .unset] [(.int (1 : Int32))])) (fun t k => XS.goto X60.here hx rfl (pc0 := 391) (pc' := 395) rfl (hb hby at_391) (by decide) (by decide) k) ?_
  refine own_st (T' := T60) (g' := (mkF m 397 #[.val (.long q1), .second, .val (.long q2), .second, .val (.long q3), .second, .val (.long q4), .second, .val (.long q5), .second, .val (.int p6), .val (.long span0), .second, .val (.long span2), .second, .val (.long r1), .second, .val (.long r2), .second, .val (.int qa), .val (.ref b3), .val (.ref b20), .val (.int u), .val (.ref b25), .val (.ref b34), .val (.ref b35), .val (.int (1 : Int32)), .val (.int (1 : Int32))] [])) (fun t k => XS.istore X60.here hx rfl (hb hby at_395) rfl (l' := #[.val (.long q1), .second, .val (.long q2), .second, .val (.long q3), .second, .val (.long q4), .second, .val (.long q5), .second, .val (.int p6), .val (.long span0), .second, .val (.long span2), .second, .val (.long r1), .second, .val (.long r2), .second, .val (.int qa), .val (.ref b3), .val (.ref b20), .val (.int u), .val (.ref b25), .val (.ref b34), .val (.ref b35), .val (.int (1 : Int32)), .val (.int (1 : Int32))]) rfl k) ?_
  refine own_st (T' := T60) (g' := (mkF m 399 #[.val (.long q1), .second, .val (.long q2), .second, .val (.long q3), .second, .val (.long q4), .second, .val (.long q5), .second, .val (.int p6), .val (.long span0), .second, .val (.long span2), .second, .val (.long r1), .second, .val (.long r2), .second, .val (.int qa), .val (.ref b3), .val (.ref b20), .val (.int u), .val (.ref b25), .val (.ref b34), .val (.ref b35), .val (.int (1 : Int32)), .val (.int (1 : Int32))] [(.int (1 : Int32))])) (fun t k => XS.iload X60.here hx rfl (hb hby at_397) rfl k) ?_
  refine own_st (T' := T60) (g' := (mkF m 402 #[.val (.long q1), .second, .val (.long q2), .second, .val (.long q3), .second, .val (.long q4), .second, .val (.long q5), .second, .val (.int p6), .val (.long span0), .second, .val (.long span2), .second, .val (.long r1), .second, .val (.long r2), .second, .val (.int qa), .val (.ref b3), .val (.ref b20), .val (.int u), .val (.ref b25), .val (.ref b34), .val (.ref b35), .val (.int (1 : Int32)), .val (.int (1 : Int32))] [])) (fun t k => XS.ifNo X60.here hx rfl (hb hby at_399) rfl ((if0 _ _).trans (feq (by decide)).1) k) ?_
  refine own_st (T' := T60) (g' := (mkF m 404 #[.val (.long q1), .second, .val (.long q2), .second, .val (.long q3), .second, .val (.long q4), .second, .val (.long q5), .second, .val (.int p6), .val (.long span0), .second, .val (.long span2), .second, .val (.long r1), .second, .val (.long r2), .second, .val (.int qa), .val (.ref b3), .val (.ref b20), .val (.int u), .val (.ref b25), .val (.ref b34), .val (.ref b35), .val (.int (1 : Int32)), .val (.int (1 : Int32))] [(.int (1 : Int32))])) (fun t k => XS.iload X60.here hx rfl (hb hby at_402) rfl k) ?_
  refine own_st (T' := T60) (g' := (mkF m 407 #[.val (.long q1), .second, .val (.long q2), .second, .val (.long q3), .second, .val (.long q4), .second, .val (.long q5), .second, .val (.int p6), .val (.long span0), .second, .val (.long span2), .second, .val (.long r1), .second, .val (.long r2), .second, .val (.int qa), .val (.ref b3), .val (.ref b20), .val (.int u), .val (.ref b25), .val (.ref b34), .val (.ref b35), .val (.int (1 : Int32)), .val (.int (1 : Int32))] [])) (fun t k => XS.ifNo X60.here hx rfl (hb hby at_404) rfl ((if0 _ _).trans (feq (by decide)).1) k) ?_
  refine own_st (T' := T60) (g' := (mkF m 408 #[.val (.long q1), .second, .val (.long q2), .second, .val (.long q3), .second, .val (.long q4), .second, .val (.long q5), .second, .val (.int p6), .val (.long span0), .second, .val (.long span2), .second, .val (.long r1), .second, .val (.long r2), .second, .val (.int qa), .val (.ref b3), .val (.ref b20), .val (.int u), .val (.ref b25), .val (.ref b34), .val (.ref b35), .val (.int (1 : Int32)), .val (.int (1 : Int32))] [(.int (1 : Int32))])) (fun t k => XS.iconst X60.here hx rfl (hb hby at_407) k) ?_
  refine own_st (T' := T60) (g' := (mkF m 412 #[.val (.long q1), .second, .val (.long q2), .second, .val (.long q3), .second, .val (.long q4), .second, .val (.long q5), .second, .val (.int p6), .val (.long span0), .second, .val (.long span2), .second, .val (.long r1), .second, .val (.long r2), .second, .val (.int qa), .val (.ref b3), .val (.ref b20), .val (.int u), .val (.ref b25), .val (.ref b34), .val (.ref b35), .val (.int (1 : Int32)), .val (.int (1 : Int32))] [(.int (1 : Int32))])) (fun t k => XS.goto X60.here hx rfl (pc0 := 408) (pc' := 412) rfl (hb hby at_408) (by decide) (by decide) k) ?_
  exact own_retBW X60 hS (by rw [e60]; exact hkS) hx hlk hret (hb hby at_412) (by decide) (by decide) rfl ⟨rfl, N37⟩
set_option maxRecDepth 65536 in
set_option maxHeartbeats 40000000 in
theorem own_comes {Post : Tables → Env → Array Value → State → Outcome → State → Prop} (hpost : ∀ tb e args s v u, (limb_1_1.after args s (.returned v) u = true ∧ limb_1_2.after args s (.returned v) u = true ∧ True) → ReturnedEndW s (.returned v) u (Jvm.fieldLocs frame_1_writes args s ++ Jvm.arrayLocs frame_1_arrays args s ++ Jvm.staticLocs frame_1_statics s) 40 3328 → Post tb e args s (.returned v) u) :
    ArmFor flags0 classFile x code maxLocals ret World_1 tables_1 room_1 Calls_1 rest_1 Pre_1 Post := by
  intro l hfl _ _ p e ha hc hk s m args below hf hA hF happ hP
  obtain ⟨hcalls, hrest, hpre⟩ := hP
  obtain ⟨-, -, -, hnamed, -, -, -, hat⟩ := (Spec.applies_iff hf).mp happ
  obtain ⟨hg, hn⟩ := and_e (Cond.before_iff.mp (show (Jvm.Cond.and given_1 narrow_1).before args s = true from hpre))
  obtain ⟨hcount, hg⟩ := and_e hg
  obtain ⟨w0, w1, w2, w3, w4, w5, rfl⟩ : ∃ w0 w1 w2 w3 w4 w5 : Value, args = #[w0, w1, w2, w3, w4, w5] := by
    have hs : args.size = 6 := by simpa [Cond.value, given_1] using hcount
    obtain ⟨L⟩ := args
    match L, hs with
    | [w0, w1, w2, w3, w4, w5], _ => exact ⟨w0, w1, w2, w3, w4, w5, rfl⟩
  have hw := fun d (hd : d ∈ tables_1) => atoms_spec (ws := Jvm.Cond.code x code maxLocals ret :: tables_1) hat d (List.mem_cons_of_mem _ hd)
  have hfit : Fit s := fun {y c} hc i hi => by
    obtain ⟨ha, rfl⟩ := Array.getElem?_eq_some_iff.mp hc
    have q := List.all_eq_true.mp ((Array.all_eq_true_iff_forall_mem.mp hF) _ (Array.getElem_mem ha)) i (List.mem_range.mpr hi)
    simpa [Array.getElem?_eq_getElem hi] using q
  obtain ⟨g0, hg⟩ := and_e hg
  obtain ⟨i0, ei0⟩ := isL_v g0
  obtain rfl : w0 = (.long i0) := Option.some.inj ei0
  obtain ⟨g1, hg⟩ := and_e hg
  obtain ⟨i1, ei1⟩ := isL_v g1
  obtain rfl : w1 = (.long i1) := Option.some.inj ei1
  obtain ⟨g2, hg⟩ := and_e hg
  obtain ⟨i2, ei2⟩ := isL_v g2
  obtain rfl : w2 = (.long i2) := Option.some.inj ei2
  obtain ⟨g3, hg⟩ := and_e hg
  obtain ⟨i3, ei3⟩ := isL_v g3
  obtain rfl : w3 = (.long i3) := Option.some.inj ei3
  obtain ⟨g4, hg⟩ := and_e hg
  obtain ⟨i4, ei4⟩ := isL_v g4
  obtain rfl : w4 = (.long i4) := Option.some.inj ei4
  have g5 := hg
  obtain ⟨i5, ei5⟩ := is_v g5
  obtain rfl : w5 = (.int i5) := Option.some.inj ei5
  have n0 := hn
  have hrs := Cond.before_iff.mp (show rest_1_c.before _ s = true from hrest)
  obtain ⟨j0, hrs⟩ := and_e hrs
  obtain ⟨j1, hrs⟩ := and_e hrs
  obtain ⟨j2, hrs⟩ := and_e hrs
  obtain ⟨j3, hrs⟩ := and_e hrs
  obtain ⟨j4, hrs⟩ := and_e hrs
  obtain ⟨j5, hrs⟩ := and_e hrs
  obtain ⟨j6, hrs⟩ := and_e hrs
  obtain ⟨j7, hrs⟩ := and_e hrs
  obtain ⟨j8, hrs⟩ := and_e hrs
  obtain ⟨s_DC, _, _, _, e_DC, -⟩ := Cond.exactly_spec (Cond.before_iff.mpr j7)
  have S_DC : Sta s s.heap "java/util/ArrayList" "DEFAULTCAPACITY_EMPTY_ELEMENTDATA" "[Ljava/lang/Object;" (.ref s_DC) := Sta.start e_DC (Or.inr ⟨(hw _ (List.mem_of_getElem? (i := 7) rfl)), Cond.before_iff.mpr j2⟩)
  obtain ⟨cc, Ac⟩ := Arr.start e_DC j6
  obtain ⟨q1, q2⟩ := Jvm.Free.IntBox.length_fwd (Cond.before_iff.mpr j8) e_DC Ac.1 Ac.2.1 Ac.2.2
  obtain ⟨k_DC, A_DC⟩ : ∃ k, Arv s s.heap s_DC k (.object "java/lang/Object") 0 [] .null := ⟨_, Arv.start hfit Ac q1 q2 (by decide) rfl trivial⟩
  obtain ⟨s_INT, v_INT, S_INT, E_INT⟩ := own_sta n0 (hw _ (List.mem_of_getElem? (i := 43) rfl)) (hw _ (List.mem_of_getElem? (i := 44) rfl))
  obtain ⟨n, o, h1, h2, h3, _, L, rfl, ⟨rfl, N⟩, hq⟩ := own_rm0 l s _ hw s.heap     s.heap.size (Nat.le_refl _) i0 i1 i2 i3 i4 i5 (Old.start s) s_DC S_DC k_DC A_DC s_INT S_INT p e ha hc hk s m _ below hf ((Spec.applies_iff_loose hf).mp happ).1 ⟨rfl, State.Warmed39.refl s, rfl⟩ trivial
  exact ⟨n, _, h1, h2, h3, hpost _ _ _ _ _ _ ⟨Cond.after_iff.mpr rfl, Cond.after_iff.mpr (eq_i res_at (Term.int_eval (1)) rfl), trivial⟩ ⟨hq.1, hq.2.1, hq.2.2.1, (hq.2.2.2.sift fun y hy => Or.inr (N y hy)).mono (by decide) (by decide)⟩⟩
theorem main_1_1 : Claimed_1_1 := own_comes fun _ _ _ _ _ _ h hF => ⟨h.1, hF⟩
theorem main_1_2 : Claimed_1_2 := own_comes fun _ _ _ _ _ _ h hF => ⟨h.2.1, hF⟩
end Jvm.Pilot.@@N@@
namespace Jvm.Pilot.@@N@@
open Jvm Jvm.ClassFile Sem Op Lib Jvm.Free Jvm.Stand Jvm.Pilot.@@N@@.Jvm.D
/-! MADE BY PROGRAM (witnessworld.py) out of the Statement's table words and the real class files: 35 classes; the members and pool entries that the words name. The judged class is class 1, her method 1. -/
namespace start1
open Jvm.ClassFile
def u (s : String) : CpInfo := .utf8 (stringToUtf16 s)
/-- a pool by its gaps: so many unusable entries, then the entry; so many at the end -/
def gap : Nat → List CpInfo → List CpInfo
  | 0, r => r
  | n + 1, r => .unusable :: gap n r
def poolList (es : List (Nat × CpInfo)) (last : Nat) : List CpInfo := es.foldr (fun e r => gap e.1 (e.2 :: r)) (gap last [])
def pool (es : List (Nat × CpInfo)) (last : Nat) : Array CpInfo := ⟨poolList es last⟩
def fileOf (pool : Array CpInfo) (this : Nat) (attrs : Array Attribute := #[]) (ms : Array MethodInfo := #[]) (fl : Nat := 33) (sup : Nat := 0) (ifs : Array Nat := #[]) (fds : Array FieldInfo := #[]) : ClassFile where
  minorVersion := 0
  majorVersion := 65
  constantPool := pool
  accessFlags := fl
  thisClass := this
  superClass := sup
  interfaces := ifs
  fields := fds
  methods := ms
  attributes := attrs
def plain (name : String) (sup : Option ClassId) : Class where
  name := name
  kind := .ordinary
  loader := none
  accessFlags := 33
  super := sup
  interfaces := #[]
  cf := none
  fields := #[]
  methods := #[]
  instanceTypes := #[]
  staticTypes := #[]
  resolved := #[]
  callSites := []
  init := .initialized
  statics := none
  mirror := none

def pool0 : Array CpInfo := pool [(5, u "<init>"), (0, u "()V"), (1, .class_ 10), (1, u "java/lang/Object")] 113

def k0c0 : Code := { maxStack := 0, maxLocals := 1, code := object_method_1_code, exceptionTable := #[], attributes := #[] }
def k0m0 : Method := { name := "<init>", desc := "()V", sig := { parameters := [], returnType := none }, accessFlags := 1, code := some k0c0 }
/-- java/lang/Object -/
def k0 : Class := { plain "java/lang/Object" none with
  accessFlags := 33
  interfaces := #[]
  cf := some (fileOf pool0 8 #[] #[{ accessFlags := 1, nameIndex := 5, descriptorIndex := 6, attributes := #[] }] 33 0 #[] #[])
  fields := #[]
  methods := #[k0m0]
  instanceTypes := #[]
  staticTypes := #[]
  resolved := Array.replicate 124 none
  statics := none }

def pool1 : Array CpInfo := pool [(2, .class_ 4), (0, .nameAndType 5 6), (0, u "java/lang/Object"), (0, u "<init>"), (0, u "()V"), (0, .methodref 8 9), (0, .class_ 10), (0, .nameAndType 11 12), (0, u "com/example/astraea/astraea/explicit/StateLayoutPackPinLaw"), (0, u "lowFor"), (0, u "(JJ)J"), (0, .class_ 14), (0, u "java/util/ArrayList"), (0, .methodref 13 3), (0, .class_ 17), (0, u "com/example/astraea/astraea/lang/Variable"), (0, .string 19), (0, u "a"), (0, .fieldref 21 22), (0, .class_ 23), (0, .nameAndType 24 25), (0, u "com/example/astraea/astraea/lang/Type"), (0, u "INT"), (0, u "Lcom/example/astraea/astraea/lang/Type;"), (0, .methodref 16 27), (0, .nameAndType 5 28), (0, u "(Ljava/lang/String;Lcom/example/astraea/astraea/lang/Type;ZJJLcom/example/astraea/astraea/lang/Position;)V"), (0, .methodref 13 30), (0, .nameAndType 31 32), (0, u "add"), (0, u "(Ljava/lang/Object;)Z"), (0, .string 34), (0, u "b"), (0, .string 36), (0, u "c"), (0, .class_ 38), (0, u "com/example/astraea/astraea/explicit/StateLayout"), (0, .methodref 37 40), (0, .nameAndType 5 41), (0, u "(Ljava/util/List;)V"), (0, .methodref 37 43), (0, .nameAndType 44 45), (0, u "words"), (0, u "()I"), (0, .methodref 8 47), (0, .nameAndType 48 12), (0, u "off"), (0, .methodref 37 50), (0, .nameAndType 51 52), (0, u "pack"), (0, u "([J[JI)V"), (0, .methodref 37 54), (0, .nameAndType 55 56), (0, u "unpack"), (0, u "([JI[J)V"), (0, .methodref 8 58), (0, .nameAndType 59 60), (0, u "clear"), (0, u "([JIII)Z"), (2, .long 9223372036854775807), (3, u "law"), (0, u "(JJJJJI)Z")] 5

def k1m0 : Method := { name := "<init>", desc := "()V", sig := { parameters := [], returnType := none }, accessFlags := 2, code := none }
def k1c1 : Code := { maxStack := 12, maxLocals := 28, code := code, exceptionTable := #[], attributes := #[] }
def k1m1 : Method := { name := "law", desc := "(JJJJJI)Z", sig := { parameters := [.long, .long, .long, .long, .long, .int], returnType := some .boolean }, accessFlags := 9, code := some k1c1 }
def k1c2 : Code := { maxStack := 6, maxLocals := 4, code := method_3_code, exceptionTable := #[], attributes := #[] }
def k1m2 : Method := { name := "lowFor", desc := "(JJ)J", sig := { parameters := [.long, .long], returnType := some .long }, accessFlags := 10, code := some k1c2 }
def k1c3 : Code := { maxStack := 6, maxLocals := 6, code := method_4_code, exceptionTable := #[], attributes := #[] }
def k1m3 : Method := { name := "off", desc := "(JJ)J", sig := { parameters := [.long, .long], returnType := some .long }, accessFlags := 10, code := some k1c3 }
def k1c4 : Code := { maxStack := 4, maxLocals := 4, code := method_5_code, exceptionTable := #[], attributes := #[] }
def k1m4 : Method := { name := "clear", desc := "([JIII)Z", sig := { parameters := [(.array .long), .int, .int, .int], returnType := some .boolean }, accessFlags := 10, code := some k1c4 }
/-- com/example/astraea/astraea/explicit/StateLayoutPackPinLaw -/
def k1 : Class := { plain "com/example/astraea/astraea/explicit/StateLayoutPackPinLaw" (some 0) with
  accessFlags := 49
  interfaces := #[]
  cf := some (fileOf pool1 8 #[] #[{ accessFlags := 2, nameIndex := 5, descriptorIndex := 6, attributes := #[] }, { accessFlags := 9, nameIndex := 67, descriptorIndex := 68, attributes := #[] }, { accessFlags := 10, nameIndex := 11, descriptorIndex := 12, attributes := #[] }, { accessFlags := 10, nameIndex := 48, descriptorIndex := 12, attributes := #[] }, { accessFlags := 10, nameIndex := 59, descriptorIndex := 60, attributes := #[] }] 49 2 #[] #[])
  fields := #[]
  methods := #[k1m0, k1m1, k1m2, k1m3, k1m4]
  instanceTypes := #[]
  staticTypes := #[]
  resolved := Array.replicate 74 none
  statics := none }

def pool2 : Array CpInfo := pool [(8, .class_ 10), (1, u "java/lang/Iterable"), (24, .class_ 36), (0, u "java/lang/Object")] 25

/-- java/lang/Iterable -/
def k2 : Class := { plain "java/lang/Iterable" (some 0) with
  accessFlags := 1537
  interfaces := #[]
  cf := some (fileOf pool2 8 #[] #[] 1537 35 #[] #[])
  fields := #[]
  methods := #[]
  instanceTypes := #[]
  staticTypes := #[]
  resolved := Array.replicate 62 none
  statics := none }

def pool3 : Array CpInfo := pool [(10, .class_ 12), (1, u "java/util/Collection"), (47, .class_ 61), (0, u "java/lang/Object"), (0, .class_ 63), (0, u "java/lang/Iterable")] 51

/-- java/util/Collection -/
def k3 : Class := { plain "java/util/Collection" (some 0) with
  accessFlags := 1537
  interfaces := #[2]
  cf := some (fileOf pool3 10 #[] #[] 1537 60 #[62] #[])
  fields := #[]
  methods := #[]
  instanceTypes := #[]
  staticTypes := #[]
  resolved := Array.replicate 115 none
  statics := none }

def pool4 : Array CpInfo := pool [(1, .methodref 2 3), (0, .class_ 4), (0, .nameAndType 5 6), (0, u "java/lang/Object"), (0, u "<init>"), (0, u "()V"), (1, .class_ 10), (1, u "java/util/AbstractCollection"), (66, .class_ 78), (0, u "java/util/Collection")] 81

def k4c0 : Code := { maxStack := 1, maxLocals := 1, code := jdk_22_method_1_code, exceptionTable := #[], attributes := #[] }
def k4m0 : Method := { name := "<init>", desc := "()V", sig := { parameters := [], returnType := none }, accessFlags := 4, code := some k4c0 }
/-- java/util/AbstractCollection -/
def k4 : Class := { plain "java/util/AbstractCollection" (some 0) with
  accessFlags := 1057
  interfaces := #[3]
  cf := some (fileOf pool4 8 #[] #[{ accessFlags := 4, nameIndex := 5, descriptorIndex := 6, attributes := #[] }] 1057 2 #[77] #[])
  fields := #[]
  methods := #[k4m0]
  instanceTypes := #[]
  staticTypes := #[]
  resolved := Array.replicate 160 none
  statics := none }

def pool5 : Array CpInfo := pool [(8, .class_ 10), (1, u "java/util/SequencedCollection"), (15, .class_ 27), (0, u "java/lang/Object"), (0, .class_ 29), (0, u "java/util/Collection")] 27

/-- java/util/SequencedCollection -/
def k5 : Class := { plain "java/util/SequencedCollection" (some 0) with
  accessFlags := 1537
  interfaces := #[3]
  cf := some (fileOf pool5 8 #[] #[] 1537 26 #[28] #[])
  fields := #[]
  methods := #[]
  instanceTypes := #[]
  staticTypes := #[]
  resolved := Array.replicate 57 none
  statics := none }

def pool6 : Array CpInfo := pool [(8, .class_ 10), (1, u "java/util/List"), (64, u "get"), (0, u "(I)Ljava/lang/Object;"), (2, u "size"), (0, u "()I"), (22, .class_ 104), (0, u "java/lang/Object"), (15, .class_ 121), (0, u "java/util/SequencedCollection")] 129

def k6m0 : Method := { name := "size", desc := "()I", sig := { parameters := [], returnType := some .int }, accessFlags := 1025, code := none }
def k6m1 : Method := { name := "get", desc := "(I)Ljava/lang/Object;", sig := { parameters := [.int], returnType := some (.object "java/lang/Object") }, accessFlags := 1025, code := none }
/-- java/util/List -/
def k6 : Class := { plain "java/util/List" (some 0) with
  accessFlags := 1537
  interfaces := #[5]
  cf := some (fileOf pool6 8 #[] #[{ accessFlags := 1025, nameIndex := 79, descriptorIndex := 80, attributes := #[] }, { accessFlags := 1025, nameIndex := 75, descriptorIndex := 76, attributes := #[] }] 1537 103 #[120] #[])
  fields := #[]
  methods := #[k6m0, k6m1]
  instanceTypes := #[]
  staticTypes := #[]
  resolved := Array.replicate 251 none
  statics := none }

def pool7 : Array CpInfo := pool [(1, .methodref 2 3), (0, .class_ 4), (0, .nameAndType 5 6), (0, u "java/util/AbstractCollection"), (0, u "<init>"), (0, u "()V"), (0, .fieldref 8 9), (0, .class_ 10), (0, .nameAndType 11 12), (0, u "java/util/AbstractList"), (0, u "modCount"), (0, u "I"), (64, .class_ 78), (0, u "java/util/AbstractList$Itr"), (3, .class_ 83), (0, u "java/util/AbstractList$ListItr"), (9, .class_ 94), (0, u "java/util/AbstractList$RandomAccessSubList"), (3, .class_ 99), (0, u "java/util/AbstractList$SubList"), (33, .class_ 134), (0, u "java/util/List"), (73, .class_ 209), (0, u "java/util/AbstractList$SubList$1"), (0, .class_ 211), (0, u "java/util/AbstractList$RandomAccessSpliterator")] 6

def k7c0 : Code := { maxStack := 2, maxLocals := 1, code := jdk_39_method_1_code, exceptionTable := #[], attributes := #[] }
def k7m0 : Method := { name := "<init>", desc := "()V", sig := { parameters := [], returnType := none }, accessFlags := 4, code := some k7c0 }
/-- java/util/AbstractList -/
def k7 : Class := { plain "java/util/AbstractList" (some 4) with
  accessFlags := 1057
  interfaces := #[6]
  cf := some (fileOf pool7 8 #[.nestMembers #[93, 98, 208, 210, 82, 77]] #[{ accessFlags := 4, nameIndex := 5, descriptorIndex := 6, attributes := #[] }] 1057 2 #[133] #[{ accessFlags := 132, nameIndex := 11, descriptorIndex := 12, attributes := #[] }])
  fields := #[{ name := "modCount", type := .int, accessFlags := 132, slot := 0, constantValue := 0 }]
  methods := #[k7m0]
  instanceTypes := #[.int]
  staticTypes := #[]
  resolved := Array.replicate 218 none
  statics := none }

def pool8 : Array CpInfo := pool [(1, .class_ 2), (0, u "java/util/RandomAccess"), (0, .class_ 4), (0, u "java/lang/Object")] 2

/-- java/util/RandomAccess -/
def k8 : Class := { plain "java/util/RandomAccess" (some 0) with
  accessFlags := 1537
  interfaces := #[]
  cf := some (fileOf pool8 1 #[] #[] 1537 3 #[] #[])
  fields := #[]
  methods := #[]
  instanceTypes := #[]
  staticTypes := #[]
  resolved := Array.replicate 7 none
  statics := none }

def pool9 : Array CpInfo := pool [(1, .class_ 2), (0, u "java/lang/Cloneable"), (0, .class_ 4), (0, u "java/lang/Object")] 2

/-- java/lang/Cloneable -/
def k9 : Class := { plain "java/lang/Cloneable" (some 0) with
  accessFlags := 1537
  interfaces := #[]
  cf := some (fileOf pool9 1 #[] #[] 1537 3 #[] #[])
  fields := #[]
  methods := #[]
  instanceTypes := #[]
  staticTypes := #[]
  resolved := Array.replicate 7 none
  statics := none }

def pool10 : Array CpInfo := pool [(1, .class_ 2), (0, u "java/io/Serializable"), (0, .class_ 4), (0, u "java/lang/Object")] 2

/-- java/io/Serializable -/
def k10 : Class := { plain "java/io/Serializable" (some 0) with
  accessFlags := 1537
  interfaces := #[]
  cf := some (fileOf pool10 1 #[] #[] 1537 3 #[] #[])
  fields := #[]
  methods := #[]
  instanceTypes := #[]
  staticTypes := #[]
  resolved := Array.replicate 7 none
  statics := none }

def pool11 : Array CpInfo := pool [(1, .methodref 2 3), (0, .class_ 4), (0, .nameAndType 5 6), (0, u "java/util/AbstractList"), (0, u "<init>"), (0, u "()V"), (0, .class_ 8), (0, u "java/lang/Object"), (0, .fieldref 10 11), (0, .class_ 12), (0, .nameAndType 13 14), (0, u "java/util/ArrayList"), (0, u "elementData"), (0, u "[Ljava/lang/Object;"), (2, u "EMPTY_ELEMENTDATA"), (21, .fieldref 10 40), (0, .nameAndType 41 14), (0, u "DEFAULTCAPACITY_EMPTY_ELEMENTDATA"), (5, u "()[Ljava/lang/Object;"), (0, .fieldref 10 49), (0, .nameAndType 50 51), (0, u "size"), (0, u "I"), (11, .fieldref 10 64), (0, .nameAndType 65 51), (0, u "modCount"), (3, .methodref 10 70), (0, .nameAndType 71 72), (0, u "grow"), (0, u "(I)[Ljava/lang/Object;"), (6, .methodref 80 81), (0, .class_ 82), (0, .nameAndType 83 84), (0, u "java/lang/Math"), (0, u "max"), (0, u "(II)I"), (11, u "(Ljava/lang/Object;)Z"), (21, .methodref 119 120), (0, .class_ 121), (0, .nameAndType 122 84), (0, u "java/util/Objects"), (0, u "checkIndex"), (0, .methodref 10 124), (0, .nameAndType 13 125), (0, u "(I)Ljava/lang/Object;"), (3, .methodref 10 130), (0, .nameAndType 71 47), (0, .methodref 10 132), (0, .nameAndType 133 134), (0, u "add"), (0, u "(Ljava/lang/Object;[Ljava/lang/Object;I)V"), (13, .class_ 149), (0, u "java/util/List"), (36, u "()I"), (75, .class_ 263), (0, u "java/util/ArrayList$ListItr"), (3, .class_ 268), (0, u "java/util/ArrayList$Itr"), (7, .class_ 277), (0, u "java/util/ArrayList$SubList"), (12, .class_ 291), (0, u "java/util/ArrayList$ArrayListSpliterator"), (37, .class_ 330), (0, u "java/util/RandomAccess"), (0, .class_ 332), (0, u "java/lang/Cloneable"), (0, .class_ 334), (0, u "java/io/Serializable"), (0, u "serialVersionUID"), (0, u "J"), (3, u "DEFAULT_CAPACITY"), (40, u "get"), (118, .class_ 501), (0, u "java/util/ArrayList$SubList$2"), (0, .class_ 503), (0, u "java/util/ArrayList$SubList$1")] 5

def k11c0 : Code := { maxStack := 2, maxLocals := 1, code := jdk_38_method_2_code, exceptionTable := #[], attributes := #[] }
def k11m0 : Method := { name := "<init>", desc := "()V", sig := { parameters := [], returnType := none }, accessFlags := 1, code := some k11c0 }
def k11c1 : Code := { maxStack := 4, maxLocals := 4, code := jdk_38_method_6_code, exceptionTable := #[], attributes := #[] }
def k11m1 : Method := { name := "grow", desc := "(I)[Ljava/lang/Object;", sig := { parameters := [.int], returnType := some (.array (.object "java/lang/Object")) }, accessFlags := 2, code := some k11c1 }
def k11c2 : Code := { maxStack := 3, maxLocals := 1, code := jdk_38_method_7_code, exceptionTable := #[], attributes := #[] }
def k11m2 : Method := { name := "grow", desc := "()[Ljava/lang/Object;", sig := { parameters := [], returnType := some (.array (.object "java/lang/Object")) }, accessFlags := 2, code := some k11c2 }
def k11c3 : Code := { maxStack := 1, maxLocals := 1, code := jdk_38_method_8_code, exceptionTable := #[], attributes := #[] }
def k11m3 : Method := { name := "size", desc := "()I", sig := { parameters := [], returnType := some .int }, accessFlags := 1, code := some k11c3 }
def k11c4 : Code := { maxStack := 2, maxLocals := 2, code := jdk_38_method_18_code, exceptionTable := #[], attributes := #[] }
def k11m4 : Method := { name := "elementData", desc := "(I)Ljava/lang/Object;", sig := { parameters := [.int], returnType := some (.object "java/lang/Object") }, accessFlags := 0, code := some k11c4 }
def k11c5 : Code := { maxStack := 2, maxLocals := 2, code := jdk_38_method_20_code, exceptionTable := #[], attributes := #[] }
def k11m5 : Method := { name := "get", desc := "(I)Ljava/lang/Object;", sig := { parameters := [.int], returnType := some (.object "java/lang/Object") }, accessFlags := 1, code := some k11c5 }
def k11c6 : Code := { maxStack := 3, maxLocals := 4, code := jdk_38_method_24_code, exceptionTable := #[], attributes := #[] }
def k11m6 : Method := { name := "add", desc := "(Ljava/lang/Object;[Ljava/lang/Object;I)V", sig := { parameters := [(.object "java/lang/Object"), (.array (.object "java/lang/Object")), .int], returnType := none }, accessFlags := 2, code := some k11c6 }
def k11c7 : Code := { maxStack := 4, maxLocals := 2, code := jdk_38_method_25_code, exceptionTable := #[], attributes := #[] }
def k11m7 : Method := { name := "add", desc := "(Ljava/lang/Object;)Z", sig := { parameters := [(.object "java/lang/Object")], returnType := some .boolean }, accessFlags := 1, code := some k11c7 }
/-- java/util/ArrayList -/
def k11 : Class := { plain "java/util/ArrayList" (some 7) with
  accessFlags := 33
  interfaces := #[6, 8, 9, 10]
  cf := some (fileOf pool11 10 #[.nestMembers #[290, 276, 500, 502, 262, 267]] #[{ accessFlags := 1, nameIndex := 5, descriptorIndex := 6, attributes := #[] }, { accessFlags := 2, nameIndex := 71, descriptorIndex := 72, attributes := #[] }, { accessFlags := 2, nameIndex := 71, descriptorIndex := 47, attributes := #[] }, { accessFlags := 1, nameIndex := 50, descriptorIndex := 186, attributes := #[] }, { accessFlags := 0, nameIndex := 13, descriptorIndex := 125, attributes := #[] }, { accessFlags := 1, nameIndex := 381, descriptorIndex := 125, attributes := #[] }, { accessFlags := 2, nameIndex := 133, descriptorIndex := 134, attributes := #[] }, { accessFlags := 1, nameIndex := 133, descriptorIndex := 96, attributes := #[] }] 33 2 #[148, 329, 331, 333] #[{ accessFlags := 26, nameIndex := 335, descriptorIndex := 336, attributes := #[] }, { accessFlags := 26, nameIndex := 340, descriptorIndex := 51, attributes := #[] }, { accessFlags := 26, nameIndex := 17, descriptorIndex := 14, attributes := #[] }, { accessFlags := 26, nameIndex := 41, descriptorIndex := 14, attributes := #[] }, { accessFlags := 128, nameIndex := 13, descriptorIndex := 14, attributes := #[] }, { accessFlags := 2, nameIndex := 50, descriptorIndex := 51, attributes := #[] }])
  fields := #[{ name := "serialVersionUID", type := .long, accessFlags := 26, slot := 0, constantValue := 0 }, { name := "DEFAULT_CAPACITY", type := .int, accessFlags := 26, slot := 1, constantValue := 0 }, { name := "EMPTY_ELEMENTDATA", type := (.array (.object "java/lang/Object")), accessFlags := 26, slot := 2, constantValue := 0 }, { name := "DEFAULTCAPACITY_EMPTY_ELEMENTDATA", type := (.array (.object "java/lang/Object")), accessFlags := 26, slot := 3, constantValue := 0 }, { name := "elementData", type := (.array (.object "java/lang/Object")), accessFlags := 128, slot := 1, constantValue := 0 }, { name := "size", type := .int, accessFlags := 2, slot := 2, constantValue := 0 }]
  methods := #[k11m0, k11m1, k11m2, k11m3, k11m4, k11m5, k11m6, k11m7]
  instanceTypes := #[.int, (.array (.object "java/lang/Object")), .int]
  staticTypes := #[.long, .int, (.array (.object "java/lang/Object")), (.array (.object "java/lang/Object"))]
  resolved := Array.replicate 509 none
  statics := some 0 }

def pool12 : Array CpInfo := pool [(1, .methodref 2 3), (0, .class_ 4), (0, .nameAndType 5 6), (0, u "java/lang/Object"), (0, u "<init>"), (0, u "()V"), (0, .class_ 8), (0, u "java/lang/Record")] 13

def k12c0 : Code := { maxStack := 1, maxLocals := 1, code := jdk_30_method_1_code, exceptionTable := #[], attributes := #[] }
def k12m0 : Method := { name := "<init>", desc := "()V", sig := { parameters := [], returnType := none }, accessFlags := 4, code := some k12c0 }
/-- java/lang/Record -/
def k12 : Class := { plain "java/lang/Record" (some 0) with
  accessFlags := 1057
  interfaces := #[]
  cf := some (fileOf pool12 7 #[] #[{ accessFlags := 4, nameIndex := 5, descriptorIndex := 6, attributes := #[] }] 1057 2 #[] #[])
  fields := #[]
  methods := #[k12m0]
  instanceTypes := #[]
  staticTypes := #[]
  resolved := Array.replicate 22 none
  statics := none }

def pool13 : Array CpInfo := pool [(1, .methodref 2 3), (0, .class_ 4), (0, .nameAndType 5 6), (0, u "java/lang/Record"), (0, u "<init>"), (0, u "()V"), (0, .fieldref 8 9), (0, .class_ 10), (0, .nameAndType 11 12), (0, u "com/example/astraea/astraea/lang/Variable"), (0, u "name"), (0, u "Ljava/lang/String;"), (0, .fieldref 8 14), (0, .nameAndType 15 16), (0, u "type"), (0, u "Lcom/example/astraea/astraea/lang/Type;"), (0, .fieldref 8 18), (0, .nameAndType 19 20), (0, u "bounded"), (0, u "Z"), (0, .fieldref 8 22), (0, .nameAndType 23 24), (0, u "lower"), (0, u "J"), (0, .fieldref 8 26), (0, .nameAndType 27 24), (0, u "upper"), (0, .fieldref 8 29), (0, .nameAndType 30 31), (0, u "position"), (0, u "Lcom/example/astraea/astraea/lang/Position;"), (35, u "(Ljava/lang/String;Lcom/example/astraea/astraea/lang/Type;ZJJLcom/example/astraea/astraea/lang/Position;)V"), (14, u "()Z"), (0, u "()J")] 34

def k13c0 : Code := { maxStack := 3, maxLocals := 9, code := prog_83_method_1_code, exceptionTable := #[], attributes := #[] }
def k13m0 : Method := { name := "<init>", desc := "(Ljava/lang/String;Lcom/example/astraea/astraea/lang/Type;ZJJLcom/example/astraea/astraea/lang/Position;)V", sig := { parameters := [(.object "java/lang/String"), (.object "com/example/astraea/astraea/lang/Type"), .boolean, .long, .long, (.object "com/example/astraea/astraea/lang/Position")], returnType := none }, accessFlags := 1, code := some k13c0 }
def k13c1 : Code := { maxStack := 1, maxLocals := 1, code := prog_83_method_10_code, exceptionTable := #[], attributes := #[] }
def k13m1 : Method := { name := "bounded", desc := "()Z", sig := { parameters := [], returnType := some .boolean }, accessFlags := 1, code := some k13c1 }
def k13c2 : Code := { maxStack := 2, maxLocals := 1, code := prog_83_method_11_code, exceptionTable := #[], attributes := #[] }
def k13m2 : Method := { name := "lower", desc := "()J", sig := { parameters := [], returnType := some .long }, accessFlags := 1, code := some k13c2 }
def k13c3 : Code := { maxStack := 2, maxLocals := 1, code := prog_83_method_12_code, exceptionTable := #[], attributes := #[] }
def k13m3 : Method := { name := "upper", desc := "()J", sig := { parameters := [], returnType := some .long }, accessFlags := 1, code := some k13c3 }
/-- com/example/astraea/astraea/lang/Variable -/
def k13 : Class := { plain "com/example/astraea/astraea/lang/Variable" (some 12) with
  accessFlags := 49
  interfaces := #[]
  cf := some (fileOf pool13 8 #[] #[{ accessFlags := 1, nameIndex := 5, descriptorIndex := 67, attributes := #[] }, { accessFlags := 1, nameIndex := 19, descriptorIndex := 82, attributes := #[] }, { accessFlags := 1, nameIndex := 23, descriptorIndex := 83, attributes := #[] }, { accessFlags := 1, nameIndex := 27, descriptorIndex := 83, attributes := #[] }] 49 2 #[] #[{ accessFlags := 18, nameIndex := 11, descriptorIndex := 12, attributes := #[] }, { accessFlags := 18, nameIndex := 15, descriptorIndex := 16, attributes := #[] }, { accessFlags := 18, nameIndex := 19, descriptorIndex := 20, attributes := #[] }, { accessFlags := 18, nameIndex := 23, descriptorIndex := 24, attributes := #[] }, { accessFlags := 18, nameIndex := 27, descriptorIndex := 24, attributes := #[] }, { accessFlags := 18, nameIndex := 30, descriptorIndex := 31, attributes := #[] }])
  fields := #[{ name := "name", type := (.object "java/lang/String"), accessFlags := 18, slot := 0, constantValue := 0 }, { name := "type", type := (.object "com/example/astraea/astraea/lang/Type"), accessFlags := 18, slot := 1, constantValue := 0 }, { name := "bounded", type := .boolean, accessFlags := 18, slot := 2, constantValue := 0 }, { name := "lower", type := .long, accessFlags := 18, slot := 3, constantValue := 0 }, { name := "upper", type := .long, accessFlags := 18, slot := 4, constantValue := 0 }, { name := "position", type := (.object "com/example/astraea/astraea/lang/Position"), accessFlags := 18, slot := 5, constantValue := 0 }]
  methods := #[k13m0, k13m1, k13m2, k13m3]
  instanceTypes := #[(.object "java/lang/String"), (.object "com/example/astraea/astraea/lang/Type"), .boolean, .long, .long, (.object "com/example/astraea/astraea/lang/Position")]
  staticTypes := #[]
  resolved := Array.replicate 118 none
  statics := none }

def pool14 : Array CpInfo := pool [(1, .class_ 2), (0, u "java/lang/Comparable"), (0, .class_ 4), (0, u "java/lang/Object")] 7

/-- java/lang/Comparable -/
def k14 : Class := { plain "java/lang/Comparable" (some 0) with
  accessFlags := 1537
  interfaces := #[]
  cf := some (fileOf pool14 1 #[] #[] 1537 3 #[] #[])
  fields := #[]
  methods := #[]
  instanceTypes := #[]
  staticTypes := #[]
  resolved := Array.replicate 12 none
  statics := none }

def pool15 : Array CpInfo := pool [(2, .class_ 4), (1, u "java/lang/CharSequence"), (42, .class_ 48), (0, u "java/lang/CharSequence$1CodePointIterator"), (10, .class_ 60), (0, u "java/lang/CharSequence$1CharIterator"), (5, .class_ 67), (0, u "java/lang/Object")] 63

/-- java/lang/CharSequence -/
def k15 : Class := { plain "java/lang/CharSequence" (some 0) with
  accessFlags := 1537
  interfaces := #[]
  cf := some (fileOf pool15 2 #[.nestMembers #[47, 59]] #[] 1537 66 #[] #[])
  fields := #[]
  methods := #[]
  instanceTypes := #[]
  staticTypes := #[]
  resolved := Array.replicate 131 none
  statics := none }

def pool16 : Array CpInfo := pool [(1, .class_ 2), (0, u "java/lang/constant/Constable"), (0, .class_ 4), (0, u "java/lang/Object")] 6

/-- java/lang/constant/Constable -/
def k16 : Class := { plain "java/lang/constant/Constable" (some 0) with
  accessFlags := 1537
  interfaces := #[]
  cf := some (fileOf pool16 1 #[] #[] 1537 3 #[] #[])
  fields := #[]
  methods := #[]
  instanceTypes := #[]
  staticTypes := #[]
  resolved := Array.replicate 11 none
  statics := none }

def pool17 : Array CpInfo := pool [(1, .class_ 2), (0, u "java/lang/constant/ConstantDesc"), (0, .class_ 4), (0, u "java/lang/Object")] 32

/-- java/lang/constant/ConstantDesc -/
def k17 : Class := { plain "java/lang/constant/ConstantDesc" (some 0) with
  accessFlags := 1537
  interfaces := #[]
  cf := some (fileOf pool17 1 #[] #[] 1537 3 #[] #[])
  fields := #[]
  methods := #[]
  instanceTypes := #[]
  staticTypes := #[]
  resolved := Array.replicate 37 none
  statics := none }

def pool18 : Array CpInfo := pool [(2, .class_ 4), (1, u "java/lang/Object"), (0, u "<init>"), (0, u "()V"), (3, .class_ 12), (1, u "java/lang/String"), (0, u "value"), (0, u "[B"), (2, u "coder"), (0, u "B"), (2, u "hash"), (0, u "I"), (2, u "hashIsZero"), (0, u "Z"), (13, u "COMPACT_STRINGS"), (534, .class_ 576), (0, u "java/lang/CharSequence"), (22, u "CASE_INSENSITIVE_ORDER"), (0, u "Ljava/util/Comparator;"), (500, u "serialPersistentFields"), (0, u "[Ljava/io/ObjectStreamField;"), (0, .class_ 1104), (0, u "java/lang/String$CaseInsensitiveComparator"), (1, .class_ 1107), (0, u "java/io/Serializable"), (0, .class_ 1109), (0, u "java/lang/Comparable"), (0, .class_ 1111), (0, u "java/lang/constant/Constable"), (0, .class_ 1113), (0, u "java/lang/constant/ConstantDesc"), (2, u "serialVersionUID"), (0, u "J"), (3, u "REPL"), (0, u "C"), (2, u "LATIN1"), (1, u "UTF16")] 323

def k18m0 : Method := { name := "<init>", desc := "()V", sig := { parameters := [], returnType := none }, accessFlags := 1, code := none }
/-- java/lang/String -/
def k18 : Class := { plain "java/lang/String" (some 0) with
  accessFlags := 49
  interfaces := #[10, 14, 15, 16, 17]
  cf := some (fileOf pool18 10 #[.nestMembers #[1103]] #[{ accessFlags := 1, nameIndex := 5, descriptorIndex := 6, attributes := #[] }] 49 2 #[1106, 1108, 575, 1110, 1112] #[{ accessFlags := 18, nameIndex := 13, descriptorIndex := 14, attributes := #[] }, { accessFlags := 18, nameIndex := 17, descriptorIndex := 18, attributes := #[] }, { accessFlags := 2, nameIndex := 21, descriptorIndex := 22, attributes := #[] }, { accessFlags := 2, nameIndex := 25, descriptorIndex := 26, attributes := #[] }, { accessFlags := 26, nameIndex := 1116, descriptorIndex := 1117, attributes := #[] }, { accessFlags := 24, nameIndex := 40, descriptorIndex := 26, attributes := #[] }, { accessFlags := 26, nameIndex := 1101, descriptorIndex := 1102, attributes := #[] }, { accessFlags := 26, nameIndex := 1121, descriptorIndex := 1122, attributes := #[] }, { accessFlags := 25, nameIndex := 599, descriptorIndex := 600, attributes := #[] }, { accessFlags := 24, nameIndex := 1125, descriptorIndex := 18, attributes := #[] }, { accessFlags := 24, nameIndex := 1127, descriptorIndex := 18, attributes := #[] }])
  fields := #[{ name := "value", type := (.array .byte), accessFlags := 18, slot := 0, constantValue := 0 }, { name := "coder", type := .byte, accessFlags := 18, slot := 1, constantValue := 0 }, { name := "hash", type := .int, accessFlags := 2, slot := 2, constantValue := 0 }, { name := "hashIsZero", type := .boolean, accessFlags := 2, slot := 3, constantValue := 0 }, { name := "serialVersionUID", type := .long, accessFlags := 26, slot := 0, constantValue := 0 }, { name := "COMPACT_STRINGS", type := .boolean, accessFlags := 24, slot := 1, constantValue := 0 }, { name := "serialPersistentFields", type := (.array (.object "java/io/ObjectStreamField")), accessFlags := 26, slot := 2, constantValue := 0 }, { name := "REPL", type := .char, accessFlags := 26, slot := 3, constantValue := 0 }, { name := "CASE_INSENSITIVE_ORDER", type := (.object "java/util/Comparator"), accessFlags := 25, slot := 4, constantValue := 0 }, { name := "LATIN1", type := .byte, accessFlags := 24, slot := 5, constantValue := 0 }, { name := "UTF16", type := .byte, accessFlags := 24, slot := 6, constantValue := 0 }]
  methods := #[k18m0]
  instanceTypes := #[(.array .byte), .byte, .int, .boolean]
  staticTypes := #[.long, .boolean, (.array (.object "java/io/ObjectStreamField")), .char, (.object "java/util/Comparator"), .byte, .byte]
  resolved := Array.replicate 1451 none
  statics := none }

def pool19 : Array CpInfo := pool [(2, .class_ 4), (1, u "java/lang/Enum"), (0, u "name"), (0, u "Ljava/lang/String;"), (2, u "ordinal"), (0, u "I"), (1, .class_ 14), (1, u "java/lang/Object"), (4, u "hash"), (86, .class_ 108), (1, u "java/lang/Enum$EnumDesc"), (2, .class_ 112), (0, u "java/lang/constant/Constable"), (0, .class_ 114), (0, u "java/lang/Comparable"), (0, .class_ 116), (0, u "java/io/Serializable")] 87

/-- java/lang/Enum -/
def k19 : Class := { plain "java/lang/Enum" (some 0) with
  accessFlags := 1057
  interfaces := #[16, 14, 10]
  cf := some (fileOf pool19 2 #[.nestMembers #[106]] #[] 1057 12 #[111, 113, 115] #[{ accessFlags := 18, nameIndex := 5, descriptorIndex := 6, attributes := #[] }, { accessFlags := 18, nameIndex := 9, descriptorIndex := 10, attributes := #[] }, { accessFlags := 2, nameIndex := 19, descriptorIndex := 10, attributes := #[] }])
  fields := #[{ name := "name", type := (.object "java/lang/String"), accessFlags := 18, slot := 0, constantValue := 0 }, { name := "ordinal", type := .int, accessFlags := 18, slot := 1, constantValue := 0 }, { name := "hash", type := .int, accessFlags := 2, slot := 2, constantValue := 0 }]
  methods := #[]
  instanceTypes := #[(.object "java/lang/String"), .int, .int]
  staticTypes := #[]
  resolved := Array.replicate 204 none
  statics := none }

def pool20 : Array CpInfo := pool [(1, .class_ 2), (0, u "com/example/astraea/astraea/lang/Type"), (2, u "INT"), (0, u "Lcom/example/astraea/astraea/lang/Type;"), (2, u "REAL"), (2, u "BOOL"), (2, u "$VALUES"), (0, u "[Lcom/example/astraea/astraea/lang/Type;"), (6, .class_ 25), (1, u "java/lang/Enum"), (8, u "keyword"), (0, u "Ljava/lang/String;")] 33

/-- com/example/astraea/astraea/lang/Type -/
def k20 : Class := { plain "com/example/astraea/astraea/lang/Type" (some 19) with
  accessFlags := 16433
  interfaces := #[]
  cf := some (fileOf pool20 1 #[] #[] 16433 23 #[] #[{ accessFlags := 16409, nameIndex := 5, descriptorIndex := 6, attributes := #[] }, { accessFlags := 16409, nameIndex := 9, descriptorIndex := 6, attributes := #[] }, { accessFlags := 16409, nameIndex := 12, descriptorIndex := 6, attributes := #[] }, { accessFlags := 18, nameIndex := 34, descriptorIndex := 35, attributes := #[] }, { accessFlags := 4122, nameIndex := 15, descriptorIndex := 16, attributes := #[] }])
  fields := #[{ name := "INT", type := (.object "com/example/astraea/astraea/lang/Type"), accessFlags := 16409, slot := 0, constantValue := 0 }, { name := "REAL", type := (.object "com/example/astraea/astraea/lang/Type"), accessFlags := 16409, slot := 1, constantValue := 0 }, { name := "BOOL", type := (.object "com/example/astraea/astraea/lang/Type"), accessFlags := 16409, slot := 2, constantValue := 0 }, { name := "keyword", type := (.object "java/lang/String"), accessFlags := 18, slot := 3, constantValue := 0 }, { name := "$VALUES", type := (.array (.object "com/example/astraea/astraea/lang/Type")), accessFlags := 4122, slot := 3, constantValue := 0 }]
  methods := #[]
  instanceTypes := #[(.object "java/lang/String"), .int, .int, (.object "java/lang/String")]
  staticTypes := #[(.object "com/example/astraea/astraea/lang/Type"), (.object "com/example/astraea/astraea/lang/Type"), (.object "com/example/astraea/astraea/lang/Type"), (.array (.object "com/example/astraea/astraea/lang/Type"))]
  resolved := Array.replicate 69 none
  statics := some 1 }

def pool21 : Array CpInfo := pool [(1, .class_ 2), (0, u "java/lang/Math"), (1, .class_ 6), (1, u "java/lang/Object"), (0, u "<init>"), (0, u "()V"), (89, .class_ 100), (1, u "java/lang/Math$RandomNumberGeneratorHolder"), (71, u "negativeZeroFloatBits"), (0, u "J"), (2, u "negativeZeroDoubleBits"), (21, u "max"), (46, u "$assertionsDisabled"), (0, u "Z"), (88, u "(II)I"), (2, u "twoToTheDoubleScaleDown"), (0, u "D"), (4, u "twoToTheDoubleScaleUp"), (9, u "E"), (3, u "PI"), (2, u "TAU"), (2, u "DEGREES_TO_RADIANS"), (0, u "RADIANS_TO_DEGREES")] 94

def k21m0 : Method := { name := "<init>", desc := "()V", sig := { parameters := [], returnType := none }, accessFlags := 2, code := none }
def k21c1 : Code := { maxStack := 2, maxLocals := 2, code := jdk_29_method_65_code, exceptionTable := #[], attributes := #[] }
def k21m1 : Method := { name := "max", desc := "(II)I", sig := { parameters := [.int, .int], returnType := some .int }, accessFlags := 9, code := some k21c1 }
/-- java/lang/Math -/
def k21 : Class := { plain "java/lang/Math" (some 0) with
  accessFlags := 49
  interfaces := #[]
  cf := some (fileOf pool21 1 #[.nestMembers #[98]] #[{ accessFlags := 2, nameIndex := 7, descriptorIndex := 8, attributes := #[] }, { accessFlags := 9, nameIndex := 198, descriptorIndex := 335, attributes := #[] }] 49 4 #[] #[{ accessFlags := 25, nameIndex := 354, descriptorIndex := 339, attributes := #[] }, { accessFlags := 25, nameIndex := 358, descriptorIndex := 339, attributes := #[] }, { accessFlags := 25, nameIndex := 361, descriptorIndex := 339, attributes := #[] }, { accessFlags := 26, nameIndex := 364, descriptorIndex := 339, attributes := #[] }, { accessFlags := 26, nameIndex := 365, descriptorIndex := 339, attributes := #[] }, { accessFlags := 26, nameIndex := 172, descriptorIndex := 173, attributes := #[] }, { accessFlags := 26, nameIndex := 176, descriptorIndex := 173, attributes := #[] }, { accessFlags := 8, nameIndex := 344, descriptorIndex := 339, attributes := #[] }, { accessFlags := 8, nameIndex := 338, descriptorIndex := 339, attributes := #[] }, { accessFlags := 4120, nameIndex := 245, descriptorIndex := 246, attributes := #[] }])
  fields := #[{ name := "E", type := .double, accessFlags := 25, slot := 0, constantValue := 0 }, { name := "PI", type := .double, accessFlags := 25, slot := 1, constantValue := 0 }, { name := "TAU", type := .double, accessFlags := 25, slot := 2, constantValue := 0 }, { name := "DEGREES_TO_RADIANS", type := .double, accessFlags := 26, slot := 3, constantValue := 0 }, { name := "RADIANS_TO_DEGREES", type := .double, accessFlags := 26, slot := 4, constantValue := 0 }, { name := "negativeZeroFloatBits", type := .long, accessFlags := 26, slot := 5, constantValue := 0 }, { name := "negativeZeroDoubleBits", type := .long, accessFlags := 26, slot := 6, constantValue := 0 }, { name := "twoToTheDoubleScaleUp", type := .double, accessFlags := 8, slot := 7, constantValue := 0 }, { name := "twoToTheDoubleScaleDown", type := .double, accessFlags := 8, slot := 8, constantValue := 0 }, { name := "$assertionsDisabled", type := .boolean, accessFlags := 4120, slot := 9, constantValue := 0 }]
  methods := #[k21m0, k21m1]
  instanceTypes := #[]
  staticTypes := #[.double, .double, .double, .double, .double, .long, .long, .double, .double, .boolean]
  resolved := Array.replicate 460 none
  statics := none }

def pool22 : Array CpInfo := pool [(1, .methodref 2 3), (0, .class_ 4), (0, .nameAndType 5 6), (0, u "java/lang/Object"), (0, u "<init>"), (0, u "()V"), (0, .interfaceMethodref 8 9), (0, .class_ 10), (0, .nameAndType 11 12), (0, u "java/util/List"), (0, u "size"), (0, u "()I"), (0, .fieldref 14 15), (0, .class_ 16), (0, .nameAndType 17 18), (0, u "com/example/astraea/astraea/explicit/StateLayout"), (0, u "word"), (0, u "[I"), (0, .fieldref 14 20), (0, .nameAndType 21 18), (0, u "shift"), (0, .fieldref 14 23), (0, .nameAndType 24 25), (0, u "mask"), (0, u "[J"), (0, .fieldref 14 27), (0, .nameAndType 28 25), (0, u "lower"), (0, .interfaceMethodref 8 30), (0, .nameAndType 31 32), (0, u "get"), (0, u "(I)Ljava/lang/Object;"), (0, .class_ 34), (0, u "com/example/astraea/astraea/lang/Variable"), (0, .methodref 14 36), (0, .nameAndType 37 38), (0, u "bitsFor"), (0, u "(Lcom/example/astraea/astraea/lang/Variable;)I"), (0, .long 18446744073709551615), (1, .methodref 33 42), (0, .nameAndType 28 43), (0, u "()J"), (0, .fieldref 14 45), (0, .nameAndType 46 47), (0, u "words"), (0, u "I"), (0, .methodref 33 49), (0, .nameAndType 50 51), (0, u "bounded"), (0, u "()Z"), (0, .methodref 33 53), (0, .nameAndType 54 43), (0, u "upper"), (0, .methodref 56 57), (0, .class_ 58), (0, .nameAndType 59 60), (0, u "java/lang/Long"), (0, u "numberOfLeadingZeros"), (0, u "(J)I"), (0, .methodref 62 63), (0, .class_ 64), (0, .nameAndType 65 66), (0, u "java/lang/Math"), (0, u "max"), (0, u "(II)I"), (0, u "WORD_BITS"), (2, u "(Ljava/util/List;)V"), (5, u "pack"), (0, u "([J[JI)V"), (0, u "unpack"), (0, u "([JI[J)V")] 2

def k22c0 : Code := { maxStack := 6, maxLocals := 9, code := prog_5_method_1_code, exceptionTable := #[], attributes := #[] }
def k22m0 : Method := { name := "<init>", desc := "(Ljava/util/List;)V", sig := { parameters := [(.object "java/util/List")], returnType := none }, accessFlags := 0, code := some k22c0 }
def k22c1 : Code := { maxStack := 1, maxLocals := 1, code := prog_5_method_2_code, exceptionTable := #[], attributes := #[] }
def k22m1 : Method := { name := "words", desc := "()I", sig := { parameters := [], returnType := some .int }, accessFlags := 0, code := some k22c1 }
def k22c2 : Code := { maxStack := 8, maxLocals := 5, code := prog_5_method_3_code, exceptionTable := #[], attributes := #[] }
def k22m2 : Method := { name := "pack", desc := "([J[JI)V", sig := { parameters := [(.array .long), (.array .long), .int], returnType := none }, accessFlags := 0, code := some k22c2 }
def k22c3 : Code := { maxStack := 8, maxLocals := 5, code := prog_5_method_4_code, exceptionTable := #[], attributes := #[] }
def k22m3 : Method := { name := "unpack", desc := "([JI[J)V", sig := { parameters := [(.array .long), .int, (.array .long)], returnType := none }, accessFlags := 0, code := some k22c3 }
def k22c4 : Code := { maxStack := 4, maxLocals := 4, code := prog_5_method_5_code, exceptionTable := #[], attributes := #[] }
def k22m4 : Method := { name := "bitsFor", desc := "(Lcom/example/astraea/astraea/lang/Variable;)I", sig := { parameters := [(.object "com/example/astraea/astraea/lang/Variable")], returnType := some .int }, accessFlags := 10, code := some k22c4 }
/-- com/example/astraea/astraea/explicit/StateLayout -/
def k22 : Class := { plain "com/example/astraea/astraea/explicit/StateLayout" (some 0) with
  accessFlags := 48
  interfaces := #[]
  cf := some (fileOf pool22 14 #[] #[{ accessFlags := 0, nameIndex := 5, descriptorIndex := 70, attributes := #[] }, { accessFlags := 0, nameIndex := 46, descriptorIndex := 12, attributes := #[] }, { accessFlags := 0, nameIndex := 76, descriptorIndex := 77, attributes := #[] }, { accessFlags := 0, nameIndex := 78, descriptorIndex := 79, attributes := #[] }, { accessFlags := 10, nameIndex := 37, descriptorIndex := 38, attributes := #[] }] 48 2 #[] #[{ accessFlags := 26, nameIndex := 67, descriptorIndex := 47, attributes := #[] }, { accessFlags := 18, nameIndex := 46, descriptorIndex := 47, attributes := #[] }, { accessFlags := 18, nameIndex := 17, descriptorIndex := 18, attributes := #[] }, { accessFlags := 18, nameIndex := 21, descriptorIndex := 18, attributes := #[] }, { accessFlags := 18, nameIndex := 24, descriptorIndex := 25, attributes := #[] }, { accessFlags := 18, nameIndex := 28, descriptorIndex := 25, attributes := #[] }])
  fields := #[{ name := "WORD_BITS", type := .int, accessFlags := 26, slot := 0, constantValue := 0 }, { name := "words", type := .int, accessFlags := 18, slot := 0, constantValue := 0 }, { name := "word", type := (.array .int), accessFlags := 18, slot := 1, constantValue := 0 }, { name := "shift", type := (.array .int), accessFlags := 18, slot := 2, constantValue := 0 }, { name := "mask", type := (.array .long), accessFlags := 18, slot := 3, constantValue := 0 }, { name := "lower", type := (.array .long), accessFlags := 18, slot := 4, constantValue := 0 }]
  methods := #[k22m0, k22m1, k22m2, k22m3, k22m4]
  instanceTypes := #[.int, (.array .int), (.array .int), (.array .long), (.array .long)]
  staticTypes := #[.int]
  resolved := Array.replicate 82 none
  statics := none }

def pool23 : Array CpInfo := pool [(2, .class_ 4), (1, u "java/lang/Object"), (0, u "<init>"), (0, u "()V"), (35, .class_ 44), (1, u "java/util/Objects"), (60, .methodref 106 107), (0, .class_ 108), (0, .nameAndType 109 110), (0, u "jdk/internal/util/Preconditions"), (0, u "checkIndex"), (0, u "(IILjava/util/function/BiFunction;)I"), (60, u "(II)I")] 12

def k23m0 : Method := { name := "<init>", desc := "()V", sig := { parameters := [], returnType := none }, accessFlags := 2, code := none }
def k23c1 : Code := { maxStack := 3, maxLocals := 2, code := jdk_31_method_17_code, exceptionTable := #[], attributes := #[] }
def k23m1 : Method := { name := "checkIndex", desc := "(II)I", sig := { parameters := [.int, .int], returnType := some .int }, accessFlags := 9, code := some k23c1 }
/-- java/util/Objects -/
def k23 : Class := { plain "java/util/Objects" (some 0) with
  accessFlags := 49
  interfaces := #[]
  cf := some (fileOf pool23 42 #[] #[{ accessFlags := 2, nameIndex := 5, descriptorIndex := 6, attributes := #[] }, { accessFlags := 9, nameIndex := 109, descriptorIndex := 171, attributes := #[] }] 49 2 #[] #[])
  fields := #[]
  methods := #[k23m0, k23m1]
  instanceTypes := #[]
  staticTypes := #[]
  resolved := Array.replicate 184 none
  statics := none }

def pool24 : Array CpInfo := pool [(2, .class_ 4), (1, u "java/lang/Object"), (0, u "<init>"), (0, u "()V"), (17, .class_ 26), (1, u "jdk/internal/util/Preconditions"), (6, u "checkIndex"), (21, .class_ 56), (0, u "jdk/internal/util/Preconditions$4"), (57, .class_ 115), (0, u "jdk/internal/util/Preconditions$1"), (7, u "SIOOBE_FORMATTER"), (0, u "Ljava/util/function/BiFunction;"), (0, .class_ 126), (0, u "jdk/internal/util/Preconditions$2"), (3, u "AIOOBE_FORMATTER"), (0, .class_ 132), (0, u "jdk/internal/util/Preconditions$3"), (3, u "IOOBE_FORMATTER"), (41, u "(IILjava/util/function/BiFunction;)I")] 15

def k24m0 : Method := { name := "<init>", desc := "()V", sig := { parameters := [], returnType := none }, accessFlags := 1, code := none }
def k24c1 : Code := { maxStack := 3, maxLocals := 3, code := jdk_41_method_11_code, exceptionTable := #[], attributes := #[] }
def k24m1 : Method := { name := "checkIndex", desc := "(IILjava/util/function/BiFunction;)I", sig := { parameters := [.int, .int, (.object "java/util/function/BiFunction")], returnType := some .int }, accessFlags := 9, code := some k24c1 }
/-- jdk/internal/util/Preconditions -/
def k24 : Class := { plain "jdk/internal/util/Preconditions" (some 0) with
  accessFlags := 33
  interfaces := #[]
  cf := some (fileOf pool24 24 #[.nestMembers #[55, 131, 125, 114]] #[{ accessFlags := 1, nameIndex := 5, descriptorIndex := 6, attributes := #[] }, { accessFlags := 9, nameIndex := 33, descriptorIndex := 178, attributes := #[] }] 33 2 #[] #[{ accessFlags := 25, nameIndex := 123, descriptorIndex := 124, attributes := #[] }, { accessFlags := 25, nameIndex := 130, descriptorIndex := 124, attributes := #[] }, { accessFlags := 25, nameIndex := 136, descriptorIndex := 124, attributes := #[] }])
  fields := #[{ name := "SIOOBE_FORMATTER", type := (.object "java/util/function/BiFunction"), accessFlags := 25, slot := 0, constantValue := 0 }, { name := "AIOOBE_FORMATTER", type := (.object "java/util/function/BiFunction"), accessFlags := 25, slot := 1, constantValue := 0 }, { name := "IOOBE_FORMATTER", type := (.object "java/util/function/BiFunction"), accessFlags := 25, slot := 2, constantValue := 0 }]
  methods := #[k24m0, k24m1]
  instanceTypes := #[]
  staticTypes := #[(.object "java/util/function/BiFunction"), (.object "java/util/function/BiFunction"), (.object "java/util/function/BiFunction")]
  resolved := Array.replicate 194 none
  statics := none }

def pool25 : Array CpInfo := pool [(2, .class_ 4), (1, u "java/lang/Object"), (0, u "<init>"), (0, u "()V"), (1, .class_ 10), (1, u "java/lang/Number"), (2, .class_ 14), (0, u "java/io/Serializable"), (0, u "serialVersionUID"), (0, u "J")] 20

def k25m0 : Method := { name := "<init>", desc := "()V", sig := { parameters := [], returnType := none }, accessFlags := 1, code := none }
/-- java/lang/Number -/
def k25 : Class := { plain "java/lang/Number" (some 0) with
  accessFlags := 1057
  interfaces := #[10]
  cf := some (fileOf pool25 8 #[] #[{ accessFlags := 1, nameIndex := 5, descriptorIndex := 6, attributes := #[] }] 1057 2 #[13] #[{ accessFlags := 26, nameIndex := 15, descriptorIndex := 16, attributes := #[] }])
  fields := #[{ name := "serialVersionUID", type := .long, accessFlags := 26, slot := 0, constantValue := 0 }]
  methods := #[k25m0]
  instanceTypes := #[]
  staticTypes := #[.long]
  resolved := Array.replicate 37 none
  statics := none }

def pool26 : Array CpInfo := pool [(1, .class_ 2), (0, u "java/lang/Long"), (15, .class_ 20), (1, u "java/lang/Integer"), (79, u "numberOfLeadingZeros"), (0, u "(J)I"), (133, .class_ 237), (1, u "java/lang/Long$LongCache"), (33, .class_ 272), (0, u "java/lang/Number"), (2, u "value"), (0, u "J"), (31, .methodref 18 309), (0, .nameAndType 100 310), (0, u "(I)I"), (50, u "TYPE"), (0, u "Ljava/lang/Class;"), (0, .class_ 364), (0, u "java/lang/Comparable"), (0, .class_ 366), (0, u "java/lang/constant/Constable"), (0, .class_ 368), (0, u "java/lang/constant/ConstantDesc"), (0, u "MIN_VALUE"), (1, u "MAX_VALUE"), (4, u "SIZE"), (0, u "I"), (1, u "BYTES"), (1, u "serialVersionUID")] 142

def k26c0 : Code := { maxStack := 3, maxLocals := 3, code := jdk_35_method_48_code, exceptionTable := #[], attributes := #[] }
def k26m0 : Method := { name := "numberOfLeadingZeros", desc := "(J)I", sig := { parameters := [.long], returnType := some .int }, accessFlags := 9, code := some k26c0 }
/-- java/lang/Long -/
def k26 : Class := { plain "java/lang/Long" (some 25) with
  accessFlags := 49
  interfaces := #[14, 16, 17]
  cf := some (fileOf pool26 1 #[.nestMembers #[235]] #[{ accessFlags := 9, nameIndex := 100, descriptorIndex := 101, attributes := #[] }] 49 271 #[363, 365, 367] #[{ accessFlags := 25, nameIndex := 369, descriptorIndex := 276, attributes := #[] }, { accessFlags := 25, nameIndex := 371, descriptorIndex := 276, attributes := #[] }, { accessFlags := 25, nameIndex := 361, descriptorIndex := 362, attributes := #[] }, { accessFlags := 18, nameIndex := 275, descriptorIndex := 276, attributes := #[] }, { accessFlags := 25, nameIndex := 376, descriptorIndex := 377, attributes := #[] }, { accessFlags := 25, nameIndex := 379, descriptorIndex := 377, attributes := #[] }, { accessFlags := 26, nameIndex := 381, descriptorIndex := 276, attributes := #[] }])
  fields := #[{ name := "MIN_VALUE", type := .long, accessFlags := 25, slot := 0, constantValue := 0 }, { name := "MAX_VALUE", type := .long, accessFlags := 25, slot := 1, constantValue := 0 }, { name := "TYPE", type := (.object "java/lang/Class"), accessFlags := 25, slot := 2, constantValue := 0 }, { name := "value", type := .long, accessFlags := 18, slot := 0, constantValue := 0 }, { name := "SIZE", type := .int, accessFlags := 25, slot := 3, constantValue := 0 }, { name := "BYTES", type := .int, accessFlags := 25, slot := 4, constantValue := 0 }, { name := "serialVersionUID", type := .long, accessFlags := 26, slot := 5, constantValue := 0 }]
  methods := #[k26m0]
  instanceTypes := #[.long]
  staticTypes := #[.long, .long, (.object "java/lang/Class"), .int, .int, .long]
  resolved := Array.replicate 524 none
  statics := none }

def pool27 : Array CpInfo := pool [(1, .class_ 2), (0, u "java/lang/Integer"), (16, u "digits"), (0, u "[C"), (32, u "numberOfLeadingZeros"), (0, u "(I)I"), (30, u "DigitOnes"), (0, u "[B"), (2, u "DigitTens"), (99, .class_ 190), (0, u "java/lang/Integer$IntegerCache"), (3, u "I"), (8, .class_ 204), (0, u "java/lang/Number"), (2, u "value"), (56, .integer 65536), (37, u "TYPE"), (0, u "Ljava/lang/Class;"), (0, .class_ 305), (0, u "java/lang/Comparable"), (0, .class_ 307), (0, u "java/lang/constant/Constable"), (0, .class_ 309), (0, u "java/lang/constant/ConstantDesc"), (0, u "MIN_VALUE"), (1, u "MAX_VALUE"), (3, u "SIZE"), (1, u "BYTES"), (1, u "serialVersionUID"), (0, u "J")] 131

def k27c0 : Code := { maxStack := 3, maxLocals := 2, code := jdk_33_method_47_code, exceptionTable := #[], attributes := #[] }
def k27m0 : Method := { name := "numberOfLeadingZeros", desc := "(I)I", sig := { parameters := [.int], returnType := some .int }, accessFlags := 9, code := some k27c0 }
/-- java/lang/Integer -/
def k27 : Class := { plain "java/lang/Integer" (some 25) with
  accessFlags := 49
  interfaces := #[14, 16, 17]
  cf := some (fileOf pool27 1 #[.nestMembers #[189]] #[{ accessFlags := 9, nameIndex := 53, descriptorIndex := 54, attributes := #[] }] 49 203 #[304, 306, 308] #[{ accessFlags := 25, nameIndex := 310, descriptorIndex := 194, attributes := #[] }, { accessFlags := 25, nameIndex := 312, descriptorIndex := 194, attributes := #[] }, { accessFlags := 25, nameIndex := 302, descriptorIndex := 303, attributes := #[] }, { accessFlags := 24, nameIndex := 19, descriptorIndex := 20, attributes := #[] }, { accessFlags := 24, nameIndex := 89, descriptorIndex := 86, attributes := #[] }, { accessFlags := 24, nameIndex := 85, descriptorIndex := 86, attributes := #[] }, { accessFlags := 18, nameIndex := 207, descriptorIndex := 194, attributes := #[] }, { accessFlags := 25, nameIndex := 316, descriptorIndex := 194, attributes := #[] }, { accessFlags := 25, nameIndex := 318, descriptorIndex := 194, attributes := #[] }, { accessFlags := 26, nameIndex := 320, descriptorIndex := 321, attributes := #[] }])
  fields := #[{ name := "MIN_VALUE", type := .int, accessFlags := 25, slot := 0, constantValue := 0 }, { name := "MAX_VALUE", type := .int, accessFlags := 25, slot := 1, constantValue := 0 }, { name := "TYPE", type := (.object "java/lang/Class"), accessFlags := 25, slot := 2, constantValue := 0 }, { name := "digits", type := (.array .char), accessFlags := 24, slot := 3, constantValue := 0 }, { name := "DigitTens", type := (.array .byte), accessFlags := 24, slot := 4, constantValue := 0 }, { name := "DigitOnes", type := (.array .byte), accessFlags := 24, slot := 5, constantValue := 0 }, { name := "value", type := .int, accessFlags := 18, slot := 0, constantValue := 0 }, { name := "SIZE", type := .int, accessFlags := 25, slot := 6, constantValue := 0 }, { name := "BYTES", type := .int, accessFlags := 25, slot := 7, constantValue := 0 }, { name := "serialVersionUID", type := .long, accessFlags := 26, slot := 8, constantValue := 0 }]
  methods := #[k27m0]
  instanceTypes := #[.int]
  staticTypes := #[.int, .int, (.object "java/lang/Class"), (.array .char), (.array .byte), (.array .byte), .int, .int, .long]
  resolved := Array.replicate 453 none
  statics := none }

/-- the primitive byte -/
def k28 : Class := { plain "byte" none with kind := .primitive 'B', accessFlags := 0x411 }
/-- [B -/
def k29 : Class := { plain "[B" (some 0) with kind := .array 28 .byte, interfaces := #[9, 10], accessFlags := 1041 }

/-- the primitive int -/
def k30 : Class := { plain "int" none with kind := .primitive 'I', accessFlags := 0x411 }
/-- [I -/
def k31 : Class := { plain "[I" (some 0) with kind := .array 30 .int, interfaces := #[9, 10], accessFlags := 1041 }

/-- the primitive long -/
def k32 : Class := { plain "long" none with kind := .primitive 'J', accessFlags := 0x411 }
/-- [J -/
def k33 : Class := { plain "[J" (some 0) with kind := .array 32 .long, interfaces := #[9, 10], accessFlags := 1041 }

/-- [Ljava/lang/Object; -/
def k34 : Class := { plain "[Ljava/lang/Object;" (some 0) with kind := .array 0 (.object "java/lang/Object"), interfaces := #[9, 10], accessFlags := 1041 }

def heap : Heap := #[{ cls := 11, slots := #[.long 0, .int 0, .ref 4, .ref 3], vm := .statics 11 },
  { cls := 20, slots := #[.ref 2, .null, .null, .null], vm := .statics 20 },
  { cls := 20, slots := #[.null, .int 0, .int 0, .null], vm := .none },
  { cls := 34, slots := #[], vm := .none },
  { cls := 34, slots := #[], vm := .none }]
def classes : Array Class := #[k0, k1, k2, k3, k4, k5, k6, k7, k8, k9, k10, k11, k12, k13, k14, k15, k16, k17, k18, k19, k20, k21, k22, k23, k24, k25, k26, k27, k28, k29, k30, k31, k32, k33, k34]
def interned : List (Array UInt16 × Addr) := []
def slotsUsed : Nat := 12
def theMethod : MethodId := ⟨1, 1⟩
def args0 : Array Value := #[.long 5, .long 6, .long 7, .long 800, .long 9, .int 70]
def aboutOver (below : List Frame) : State where
  vm := { classes := classes, interned := interned.toArray }
  heap := heap
  slotsUsed := slotsUsed
  threads := #[{ frames := .invoking theMethod args0 :: below }]
def below0 : List Frame := [.native { method := ⟨0, 0⟩, args := #[] }]
def about1 : State := aboutOver below0
def p0 : Program := .bare "" "" ""
def e0 : Env := launch0.env 0 0 0
theorem w_frames : about1.frames = Frame.invoking theMethod args0 :: below0 := rfl
set_option maxRecDepth 65536 in
theorem w_args : argsFit about1.vm theMethod args0 = true := by decide +kernel
set_option maxRecDepth 65536 in
theorem w_heap : heapFits about1 = true := by decide +kernel
set_option maxRecDepth 65536 in
theorem w_runnable : about1.curStatus? = some .runnable := by decide +kernel
set_option maxRecDepth 65536 in
theorem w_alone : about1.alone = true := by decide +kernel
set_option maxRecDepth 65536 in
theorem w_named : about1.methodNamed? x = some theMethod := by decide +kernel
set_option maxRecDepth 65536 in
theorem w_hears : about1.hears theMethod below0 = true := by decide +kernel
set_option maxRecDepth 65536 in
theorem w_ripe : about1.ripe theMethod args0 below0 = true := by decide +kernel
theorem w_running : about1.status = .running := rfl
set_option maxRecDepth 65536 in
theorem w_room : about1.hasRoom e0.platform room_1 = true :=
  launch0.hasRoom_least _ room_1 (by decide +kernel) (by decide +kernel) (by decide +kernel) (by decide +kernel) (by decide +kernel) (by decide +kernel)
theorem allAtoms_all (ts : List Jvm.Cond) (a : Array Jvm.Value) (st : Jvm.State) : (allAtoms ts).before a st = ts.all (fun c => c.before a st) := by
  induction ts with
  | nil => rfl
  | cons c t ih =>
    show (Jvm.Cond.and c (allAtoms t)).before a st = _
    rw [Jvm.Cond.before_and, ih, List.all_cons]
def words1 : List Jvm.Cond := Jvm.Cond.code x code maxLocals ret :: tables_1
/-- a 'code' word, met by the world's own term for the bytes: nothing is compared byte by byte -/
theorem code_word {y : MethodName} {bytes : ByteArray} {mx : Nat} {rt : Option FieldType} {a : Array Value} {s : State} {m : MethodId} {meth : Method} {c : Code} (h1 : s.methodNamed? y = some m) (h2 : s.vm.method? m = some meth) (h3 : meth.code = some c) (h4 : c.code = bytes)
    (h5 : (c.maxLocals == mx && c.exceptionTable.isEmpty && decide (c.maxStack ≤ mostOperands) && decide (meth.sig.returnType = rt) && !meth.locks && decide (parseMethodDescriptor y.desc = some meth.sig)) = true) : (Jvm.Cond.code y bytes mx rt).before a s = true := by
  simp only [Bool.and_eq_true, beq_iff_eq, Bool.not_eq_true', decide_eq_true_eq] at h5
  obtain ⟨⟨⟨⟨⟨g1, g2⟩, g3⟩, g4⟩, g5⟩, g6⟩ := h5
  simp [Cond.before, Cond.holds, Cond.value, h1, h2, h3, h4, g1, g2, g3, g4, g5, g6]
def isCode : Jvm.Cond → Bool
  | .code _ _ _ _ => true
  | _ => false
theorem all_split {L : List Jvm.Cond} {P : Jvm.Cond → Bool} (h1 : L.all (fun c => isCode c || P c) = true) (h2 : ∀ c ∈ L.filter isCode, P c = true) : L.all P = true := by
  refine List.all_eq_true.mpr fun c hc => ?_
  have h := List.all_eq_true.mp h1 c hc
  rcases Bool.eq_false_or_eq_true (isCode c) with hi | hi
  · exact h2 c (List.mem_filter.mpr ⟨hc, hi⟩)
  · simpa [hi] using h
set_option maxRecDepth 65536 in
theorem w_c0 : (Jvm.Cond.code x code maxLocals ret).before args0 about1 = true := code_word (m := ⟨1, 1⟩) (meth := k1m1) (c := k1c1) (by decide +kernel) rfl rfl rfl (by decide +kernel)
set_option maxRecDepth 65536 in
theorem w_c1 : (Jvm.Cond.code ({ cls := "com/example/astraea/astraea/explicit/StateLayoutPackPinLaw", name := "lowFor", desc := "(JJ)J" } : Jvm.MethodName) method_3_code (4 : Nat) (Option.some Jvm.ClassFile.FieldType.long)).before args0 about1 = true := code_word (m := ⟨1, 2⟩) (meth := k1m2) (c := k1c2) (by decide +kernel) rfl rfl rfl (by decide +kernel)
set_option maxRecDepth 65536 in
theorem w_c2 : (Jvm.Cond.code ({ cls := "java/util/ArrayList", name := "<init>", desc := "()V" } : Jvm.MethodName) jdk_38_method_2_code (1 : Nat) (Option.none : Option Jvm.ClassFile.FieldType)).before args0 about1 = true := code_word (m := ⟨11, 0⟩) (meth := k11m0) (c := k11c0) (by decide +kernel) rfl rfl rfl (by decide +kernel)
set_option maxRecDepth 65536 in
theorem w_c3 : (Jvm.Cond.code ({ cls := "java/util/AbstractList", name := "<init>", desc := "()V" } : Jvm.MethodName) jdk_39_method_1_code (1 : Nat) (Option.none : Option Jvm.ClassFile.FieldType)).before args0 about1 = true := code_word (m := ⟨7, 0⟩) (meth := k7m0) (c := k7c0) (by decide +kernel) rfl rfl rfl (by decide +kernel)
set_option maxRecDepth 65536 in
theorem w_c4 : (Jvm.Cond.code ({ cls := "java/util/AbstractCollection", name := "<init>", desc := "()V" } : Jvm.MethodName) jdk_22_method_1_code (1 : Nat) (Option.none : Option Jvm.ClassFile.FieldType)).before args0 about1 = true := code_word (m := ⟨4, 0⟩) (meth := k4m0) (c := k4c0) (by decide +kernel) rfl rfl rfl (by decide +kernel)
set_option maxRecDepth 65536 in
theorem w_c5 : (Jvm.Cond.code ({ cls := "java/lang/Object", name := "<init>", desc := "()V" } : Jvm.MethodName) object_method_1_code (1 : Nat) (Option.none : Option Jvm.ClassFile.FieldType)).before args0 about1 = true := code_word (m := ⟨0, 0⟩) (meth := k0m0) (c := k0c0) (by decide +kernel) rfl rfl rfl (by decide +kernel)
set_option maxRecDepth 65536 in
theorem w_c6 : (Jvm.Cond.code ({ cls := "com/example/astraea/astraea/lang/Variable", name := "<init>", desc := "(Ljava/lang/String;Lcom/example/astraea/astraea/lang/Type;ZJJLcom/example/astraea/astraea/lang/Position;)V" } : Jvm.MethodName) prog_83_method_1_code (9 : Nat) (Option.none : Option Jvm.ClassFile.FieldType)).before args0 about1 = true := code_word (m := ⟨13, 0⟩) (meth := k13m0) (c := k13c0) (by decide +kernel) rfl rfl rfl (by decide +kernel)
set_option maxRecDepth 65536 in
theorem w_c7 : (Jvm.Cond.code ({ cls := "java/lang/Record", name := "<init>", desc := "()V" } : Jvm.MethodName) jdk_30_method_1_code (1 : Nat) (Option.none : Option Jvm.ClassFile.FieldType)).before args0 about1 = true := code_word (m := ⟨12, 0⟩) (meth := k12m0) (c := k12c0) (by decide +kernel) rfl rfl rfl (by decide +kernel)
set_option maxRecDepth 65536 in
theorem w_c8 : (Jvm.Cond.code ({ cls := "java/util/ArrayList", name := "add", desc := "(Ljava/lang/Object;)Z" } : Jvm.MethodName) jdk_38_method_25_code (2 : Nat) (Option.some Jvm.ClassFile.FieldType.boolean)).before args0 about1 = true := code_word (m := ⟨11, 7⟩) (meth := k11m7) (c := k11c7) (by decide +kernel) rfl rfl rfl (by decide +kernel)
set_option maxRecDepth 65536 in
theorem w_c9 : (Jvm.Cond.code ({ cls := "java/util/ArrayList", name := "add", desc := "(Ljava/lang/Object;[Ljava/lang/Object;I)V" } : Jvm.MethodName) jdk_38_method_24_code (4 : Nat) (Option.none : Option Jvm.ClassFile.FieldType)).before args0 about1 = true := code_word (m := ⟨11, 6⟩) (meth := k11m6) (c := k11c6) (by decide +kernel) rfl rfl rfl (by decide +kernel)
set_option maxRecDepth 65536 in
theorem w_c10 : (Jvm.Cond.code ({ cls := "java/util/ArrayList", name := "grow", desc := "()[Ljava/lang/Object;" } : Jvm.MethodName) jdk_38_method_7_code (1 : Nat) (Option.some (Jvm.ClassFile.FieldType.array (Jvm.ClassFile.FieldType.object "java/lang/Object")))).before args0 about1 = true := code_word (m := ⟨11, 2⟩) (meth := k11m2) (c := k11c2) (by decide +kernel) rfl rfl rfl (by decide +kernel)
set_option maxRecDepth 65536 in
theorem w_c11 : (Jvm.Cond.code ({ cls := "java/util/ArrayList", name := "grow", desc := "(I)[Ljava/lang/Object;" } : Jvm.MethodName) jdk_38_method_6_code (4 : Nat) (Option.some (Jvm.ClassFile.FieldType.array (Jvm.ClassFile.FieldType.object "java/lang/Object")))).before args0 about1 = true := code_word (m := ⟨11, 1⟩) (meth := k11m1) (c := k11c1) (by decide +kernel) rfl rfl rfl (by decide +kernel)
set_option maxRecDepth 65536 in
theorem w_c12 : (Jvm.Cond.code ({ cls := "java/lang/Math", name := "max", desc := "(II)I" } : Jvm.MethodName) jdk_29_method_65_code (2 : Nat) (Option.some Jvm.ClassFile.FieldType.int)).before args0 about1 = true := code_word (m := ⟨21, 1⟩) (meth := k21m1) (c := k21c1) (by decide +kernel) rfl rfl rfl (by decide +kernel)
set_option maxRecDepth 65536 in
theorem w_c13 : (Jvm.Cond.code ({ cls := "com/example/astraea/astraea/explicit/StateLayout", name := "<init>", desc := "(Ljava/util/List;)V" } : Jvm.MethodName) prog_5_method_1_code (9 : Nat) (Option.none : Option Jvm.ClassFile.FieldType)).before args0 about1 = true := code_word (m := ⟨22, 0⟩) (meth := k22m0) (c := k22c0) (by decide +kernel) rfl rfl rfl (by decide +kernel)
set_option maxRecDepth 65536 in
theorem w_c14 : (Jvm.Cond.code ({ cls := "java/util/ArrayList", name := "size", desc := "()I" } : Jvm.MethodName) jdk_38_method_8_code (1 : Nat) (Option.some Jvm.ClassFile.FieldType.int)).before args0 about1 = true := code_word (m := ⟨11, 3⟩) (meth := k11m3) (c := k11c3) (by decide +kernel) rfl rfl rfl (by decide +kernel)
set_option maxRecDepth 65536 in
theorem w_c15 : (Jvm.Cond.code ({ cls := "java/util/ArrayList", name := "get", desc := "(I)Ljava/lang/Object;" } : Jvm.MethodName) jdk_38_method_20_code (2 : Nat) (Option.some (Jvm.ClassFile.FieldType.object "java/lang/Object"))).before args0 about1 = true := code_word (m := ⟨11, 5⟩) (meth := k11m5) (c := k11c5) (by decide +kernel) rfl rfl rfl (by decide +kernel)
set_option maxRecDepth 65536 in
theorem w_c16 : (Jvm.Cond.code ({ cls := "java/util/Objects", name := "checkIndex", desc := "(II)I" } : Jvm.MethodName) jdk_31_method_17_code (2 : Nat) (Option.some Jvm.ClassFile.FieldType.int)).before args0 about1 = true := code_word (m := ⟨23, 1⟩) (meth := k23m1) (c := k23c1) (by decide +kernel) rfl rfl rfl (by decide +kernel)
set_option maxRecDepth 65536 in
theorem w_c17 : (Jvm.Cond.code ({ cls := "jdk/internal/util/Preconditions", name := "checkIndex", desc := "(IILjava/util/function/BiFunction;)I" } : Jvm.MethodName) jdk_41_method_11_code (3 : Nat) (Option.some Jvm.ClassFile.FieldType.int)).before args0 about1 = true := code_word (m := ⟨24, 1⟩) (meth := k24m1) (c := k24c1) (by decide +kernel) rfl rfl rfl (by decide +kernel)
set_option maxRecDepth 65536 in
theorem w_c18 : (Jvm.Cond.code ({ cls := "java/util/ArrayList", name := "elementData", desc := "(I)Ljava/lang/Object;" } : Jvm.MethodName) jdk_38_method_18_code (2 : Nat) (Option.some (Jvm.ClassFile.FieldType.object "java/lang/Object"))).before args0 about1 = true := code_word (m := ⟨11, 4⟩) (meth := k11m4) (c := k11c4) (by decide +kernel) rfl rfl rfl (by decide +kernel)
set_option maxRecDepth 65536 in
theorem w_c19 : (Jvm.Cond.code ({ cls := "com/example/astraea/astraea/explicit/StateLayout", name := "bitsFor", desc := "(Lcom/example/astraea/astraea/lang/Variable;)I" } : Jvm.MethodName) prog_5_method_5_code (4 : Nat) (Option.some Jvm.ClassFile.FieldType.int)).before args0 about1 = true := code_word (m := ⟨22, 4⟩) (meth := k22m4) (c := k22c4) (by decide +kernel) rfl rfl rfl (by decide +kernel)
set_option maxRecDepth 65536 in
theorem w_c20 : (Jvm.Cond.code ({ cls := "com/example/astraea/astraea/lang/Variable", name := "bounded", desc := "()Z" } : Jvm.MethodName) prog_83_method_10_code (1 : Nat) (Option.some Jvm.ClassFile.FieldType.boolean)).before args0 about1 = true := code_word (m := ⟨13, 1⟩) (meth := k13m1) (c := k13c1) (by decide +kernel) rfl rfl rfl (by decide +kernel)
set_option maxRecDepth 65536 in
theorem w_c21 : (Jvm.Cond.code ({ cls := "com/example/astraea/astraea/lang/Variable", name := "upper", desc := "()J" } : Jvm.MethodName) prog_83_method_12_code (1 : Nat) (Option.some Jvm.ClassFile.FieldType.long)).before args0 about1 = true := code_word (m := ⟨13, 3⟩) (meth := k13m3) (c := k13c3) (by decide +kernel) rfl rfl rfl (by decide +kernel)
set_option maxRecDepth 65536 in
theorem w_c22 : (Jvm.Cond.code ({ cls := "com/example/astraea/astraea/lang/Variable", name := "lower", desc := "()J" } : Jvm.MethodName) prog_83_method_11_code (1 : Nat) (Option.some Jvm.ClassFile.FieldType.long)).before args0 about1 = true := code_word (m := ⟨13, 2⟩) (meth := k13m2) (c := k13c2) (by decide +kernel) rfl rfl rfl (by decide +kernel)
set_option maxRecDepth 65536 in
theorem w_c23 : (Jvm.Cond.code ({ cls := "java/lang/Long", name := "numberOfLeadingZeros", desc := "(J)I" } : Jvm.MethodName) jdk_35_method_48_code (3 : Nat) (Option.some Jvm.ClassFile.FieldType.int)).before args0 about1 = true := code_word (m := ⟨26, 0⟩) (meth := k26m0) (c := k26c0) (by decide +kernel) rfl rfl rfl (by decide +kernel)
set_option maxRecDepth 65536 in
theorem w_c24 : (Jvm.Cond.code ({ cls := "java/lang/Integer", name := "numberOfLeadingZeros", desc := "(I)I" } : Jvm.MethodName) jdk_33_method_47_code (2 : Nat) (Option.some Jvm.ClassFile.FieldType.int)).before args0 about1 = true := code_word (m := ⟨27, 0⟩) (meth := k27m0) (c := k27c0) (by decide +kernel) rfl rfl rfl (by decide +kernel)
set_option maxRecDepth 65536 in
theorem w_c25 : (Jvm.Cond.code ({ cls := "com/example/astraea/astraea/explicit/StateLayout", name := "words", desc := "()I" } : Jvm.MethodName) prog_5_method_2_code (1 : Nat) (Option.some Jvm.ClassFile.FieldType.int)).before args0 about1 = true := code_word (m := ⟨22, 1⟩) (meth := k22m1) (c := k22c1) (by decide +kernel) rfl rfl rfl (by decide +kernel)
set_option maxRecDepth 65536 in
theorem w_c26 : (Jvm.Cond.code ({ cls := "com/example/astraea/astraea/explicit/StateLayoutPackPinLaw", name := "off", desc := "(JJ)J" } : Jvm.MethodName) method_4_code (6 : Nat) (Option.some Jvm.ClassFile.FieldType.long)).before args0 about1 = true := code_word (m := ⟨1, 3⟩) (meth := k1m3) (c := k1c3) (by decide +kernel) rfl rfl rfl (by decide +kernel)
set_option maxRecDepth 65536 in
theorem w_c27 : (Jvm.Cond.code ({ cls := "com/example/astraea/astraea/explicit/StateLayout", name := "pack", desc := "([J[JI)V" } : Jvm.MethodName) prog_5_method_3_code (5 : Nat) (Option.none : Option Jvm.ClassFile.FieldType)).before args0 about1 = true := code_word (m := ⟨22, 2⟩) (meth := k22m2) (c := k22c2) (by decide +kernel) rfl rfl rfl (by decide +kernel)
set_option maxRecDepth 65536 in
theorem w_c28 : (Jvm.Cond.code ({ cls := "com/example/astraea/astraea/explicit/StateLayout", name := "unpack", desc := "([JI[J)V" } : Jvm.MethodName) prog_5_method_4_code (5 : Nat) (Option.none : Option Jvm.ClassFile.FieldType)).before args0 about1 = true := code_word (m := ⟨22, 3⟩) (meth := k22m3) (c := k22c3) (by decide +kernel) rfl rfl rfl (by decide +kernel)
set_option maxRecDepth 65536 in
theorem w_c29 : (Jvm.Cond.code ({ cls := "com/example/astraea/astraea/explicit/StateLayoutPackPinLaw", name := "clear", desc := "([JIII)Z" } : Jvm.MethodName) method_5_code (4 : Nat) (Option.some Jvm.ClassFile.FieldType.boolean)).before args0 about1 = true := code_word (m := ⟨1, 4⟩) (meth := k1m4) (c := k1c4) (by decide +kernel) rfl rfl rfl (by decide +kernel)
def codes1 : List Jvm.Cond := [Jvm.Cond.code x code maxLocals ret, Jvm.Cond.code ({ cls := "com/example/astraea/astraea/explicit/StateLayoutPackPinLaw", name := "lowFor", desc := "(JJ)J" } : Jvm.MethodName) method_3_code (4 : Nat) (Option.some Jvm.ClassFile.FieldType.long), Jvm.Cond.code ({ cls := "java/util/ArrayList", name := "<init>", desc := "()V" } : Jvm.MethodName) jdk_38_method_2_code (1 : Nat) (Option.none : Option Jvm.ClassFile.FieldType), Jvm.Cond.code ({ cls := "java/util/AbstractList", name := "<init>", desc := "()V" } : Jvm.MethodName) jdk_39_method_1_code (1 : Nat) (Option.none : Option Jvm.ClassFile.FieldType), Jvm.Cond.code ({ cls := "java/util/AbstractCollection", name := "<init>", desc := "()V" } : Jvm.MethodName) jdk_22_method_1_code (1 : Nat) (Option.none : Option Jvm.ClassFile.FieldType), Jvm.Cond.code ({ cls := "java/lang/Object", name := "<init>", desc := "()V" } : Jvm.MethodName) object_method_1_code (1 : Nat) (Option.none : Option Jvm.ClassFile.FieldType), Jvm.Cond.code ({ cls := "com/example/astraea/astraea/lang/Variable", name := "<init>", desc := "(Ljava/lang/String;Lcom/example/astraea/astraea/lang/Type;ZJJLcom/example/astraea/astraea/lang/Position;)V" } : Jvm.MethodName) prog_83_method_1_code (9 : Nat) (Option.none : Option Jvm.ClassFile.FieldType), Jvm.Cond.code ({ cls := "java/lang/Record", name := "<init>", desc := "()V" } : Jvm.MethodName) jdk_30_method_1_code (1 : Nat) (Option.none : Option Jvm.ClassFile.FieldType), Jvm.Cond.code ({ cls := "java/util/ArrayList", name := "add", desc := "(Ljava/lang/Object;)Z" } : Jvm.MethodName) jdk_38_method_25_code (2 : Nat) (Option.some Jvm.ClassFile.FieldType.boolean), Jvm.Cond.code ({ cls := "java/util/ArrayList", name := "add", desc := "(Ljava/lang/Object;[Ljava/lang/Object;I)V" } : Jvm.MethodName) jdk_38_method_24_code (4 : Nat) (Option.none : Option Jvm.ClassFile.FieldType), Jvm.Cond.code ({ cls := "java/util/ArrayList", name := "grow", desc := "()[Ljava/lang/Object;" } : Jvm.MethodName) jdk_38_method_7_code (1 : Nat) (Option.some (Jvm.ClassFile.FieldType.array (Jvm.ClassFile.FieldType.object "java/lang/Object"))), Jvm.Cond.code ({ cls := "java/util/ArrayList", name := "grow", desc := "(I)[Ljava/lang/Object;" } : Jvm.MethodName) jdk_38_method_6_code (4 : Nat) (Option.some (Jvm.ClassFile.FieldType.array (Jvm.ClassFile.FieldType.object "java/lang/Object"))), Jvm.Cond.code ({ cls := "java/lang/Math", name := "max", desc := "(II)I" } : Jvm.MethodName) jdk_29_method_65_code (2 : Nat) (Option.some Jvm.ClassFile.FieldType.int), Jvm.Cond.code ({ cls := "com/example/astraea/astraea/explicit/StateLayout", name := "<init>", desc := "(Ljava/util/List;)V" } : Jvm.MethodName) prog_5_method_1_code (9 : Nat) (Option.none : Option Jvm.ClassFile.FieldType), Jvm.Cond.code ({ cls := "java/util/ArrayList", name := "size", desc := "()I" } : Jvm.MethodName) jdk_38_method_8_code (1 : Nat) (Option.some Jvm.ClassFile.FieldType.int), Jvm.Cond.code ({ cls := "java/util/ArrayList", name := "get", desc := "(I)Ljava/lang/Object;" } : Jvm.MethodName) jdk_38_method_20_code (2 : Nat) (Option.some (Jvm.ClassFile.FieldType.object "java/lang/Object")), Jvm.Cond.code ({ cls := "java/util/Objects", name := "checkIndex", desc := "(II)I" } : Jvm.MethodName) jdk_31_method_17_code (2 : Nat) (Option.some Jvm.ClassFile.FieldType.int), Jvm.Cond.code ({ cls := "jdk/internal/util/Preconditions", name := "checkIndex", desc := "(IILjava/util/function/BiFunction;)I" } : Jvm.MethodName) jdk_41_method_11_code (3 : Nat) (Option.some Jvm.ClassFile.FieldType.int), Jvm.Cond.code ({ cls := "java/util/ArrayList", name := "elementData", desc := "(I)Ljava/lang/Object;" } : Jvm.MethodName) jdk_38_method_18_code (2 : Nat) (Option.some (Jvm.ClassFile.FieldType.object "java/lang/Object")), Jvm.Cond.code ({ cls := "com/example/astraea/astraea/explicit/StateLayout", name := "bitsFor", desc := "(Lcom/example/astraea/astraea/lang/Variable;)I" } : Jvm.MethodName) prog_5_method_5_code (4 : Nat) (Option.some Jvm.ClassFile.FieldType.int), Jvm.Cond.code ({ cls := "com/example/astraea/astraea/lang/Variable", name := "bounded", desc := "()Z" } : Jvm.MethodName) prog_83_method_10_code (1 : Nat) (Option.some Jvm.ClassFile.FieldType.boolean), Jvm.Cond.code ({ cls := "com/example/astraea/astraea/lang/Variable", name := "upper", desc := "()J" } : Jvm.MethodName) prog_83_method_12_code (1 : Nat) (Option.some Jvm.ClassFile.FieldType.long), Jvm.Cond.code ({ cls := "com/example/astraea/astraea/lang/Variable", name := "lower", desc := "()J" } : Jvm.MethodName) prog_83_method_11_code (1 : Nat) (Option.some Jvm.ClassFile.FieldType.long), Jvm.Cond.code ({ cls := "java/lang/Long", name := "numberOfLeadingZeros", desc := "(J)I" } : Jvm.MethodName) jdk_35_method_48_code (3 : Nat) (Option.some Jvm.ClassFile.FieldType.int), Jvm.Cond.code ({ cls := "java/lang/Integer", name := "numberOfLeadingZeros", desc := "(I)I" } : Jvm.MethodName) jdk_33_method_47_code (2 : Nat) (Option.some Jvm.ClassFile.FieldType.int), Jvm.Cond.code ({ cls := "com/example/astraea/astraea/explicit/StateLayout", name := "words", desc := "()I" } : Jvm.MethodName) prog_5_method_2_code (1 : Nat) (Option.some Jvm.ClassFile.FieldType.int), Jvm.Cond.code ({ cls := "com/example/astraea/astraea/explicit/StateLayoutPackPinLaw", name := "off", desc := "(JJ)J" } : Jvm.MethodName) method_4_code (6 : Nat) (Option.some Jvm.ClassFile.FieldType.long), Jvm.Cond.code ({ cls := "com/example/astraea/astraea/explicit/StateLayout", name := "pack", desc := "([J[JI)V" } : Jvm.MethodName) prog_5_method_3_code (5 : Nat) (Option.none : Option Jvm.ClassFile.FieldType), Jvm.Cond.code ({ cls := "com/example/astraea/astraea/explicit/StateLayout", name := "unpack", desc := "([JI[J)V" } : Jvm.MethodName) prog_5_method_4_code (5 : Nat) (Option.none : Option Jvm.ClassFile.FieldType), Jvm.Cond.code ({ cls := "com/example/astraea/astraea/explicit/StateLayoutPackPinLaw", name := "clear", desc := "([JIII)Z" } : Jvm.MethodName) method_5_code (4 : Nat) (Option.some Jvm.ClassFile.FieldType.boolean)]
set_option maxRecDepth 65536 in
theorem codes_eq : words1.filter isCode = codes1 := rfl
theorem w_codes : ∀ c ∈ words1.filter isCode, c.before args0 about1 = true := by
  rw [codes_eq]
  intro c hc
  simp only [codes1, List.mem_cons, List.not_mem_nil, or_false] at hc
  rcases hc with rfl | rfl | rfl | rfl | rfl | rfl | rfl | rfl | rfl | rfl | rfl | rfl | rfl | rfl | rfl | rfl | rfl | rfl | rfl | rfl | rfl | rfl | rfl | rfl | rfl | rfl | rfl | rfl | rfl | rfl
  · exact w_c0
  · exact w_c1
  · exact w_c2
  · exact w_c3
  · exact w_c4
  · exact w_c5
  · exact w_c6
  · exact w_c7
  · exact w_c8
  · exact w_c9
  · exact w_c10
  · exact w_c11
  · exact w_c12
  · exact w_c13
  · exact w_c14
  · exact w_c15
  · exact w_c16
  · exact w_c17
  · exact w_c18
  · exact w_c19
  · exact w_c20
  · exact w_c21
  · exact w_c22
  · exact w_c23
  · exact w_c24
  · exact w_c25
  · exact w_c26
  · exact w_c27
  · exact w_c28
  · exact w_c29
set_option maxRecDepth 65536 in
theorem w_t1 : (words1.take 24).all (fun c => isCode c || c.before args0 about1) = true := by decide +kernel
set_option maxRecDepth 65536 in
theorem w_t2 : ((words1.drop 24).take 24).all (fun c => isCode c || c.before args0 about1) = true := by decide +kernel
set_option maxRecDepth 65536 in
theorem w_t3 : (((words1.drop 24).drop 24).take 24).all (fun c => isCode c || c.before args0 about1) = true := by decide +kernel
set_option maxRecDepth 65536 in
theorem w_t4 : ((((words1.drop 24).drop 24).drop 24).take 24).all (fun c => isCode c || c.before args0 about1) = true := by decide +kernel
set_option maxRecDepth 65536 in
theorem w_t5 : (((((words1.drop 24).drop 24).drop 24).drop 24).take 24).all (fun c => isCode c || c.before args0 about1) = true := by decide +kernel
set_option maxRecDepth 65536 in
theorem w_t6 : ((((((words1.drop 24).drop 24).drop 24).drop 24).drop 24).take 24).all (fun c => isCode c || c.before args0 about1) = true := by decide +kernel
set_option maxRecDepth 65536 in
theorem w_t7 : (((((((words1.drop 24).drop 24).drop 24).drop 24).drop 24).drop 24).take 24).all (fun c => isCode c || c.before args0 about1) = true := by decide +kernel
set_option maxRecDepth 65536 in
theorem w_t8 : ((((((((words1.drop 24).drop 24).drop 24).drop 24).drop 24).drop 24).drop 24).take 24).all (fun c => isCode c || c.before args0 about1) = true := by decide +kernel
set_option maxRecDepth 65536 in
theorem w_t9 : ((((((((words1.drop 24).drop 24).drop 24).drop 24).drop 24).drop 24).drop 24).drop 24).all (fun c => isCode c || c.before args0 about1) = true := by decide +kernel
theorem w_tables : (allAtoms (Jvm.Cond.code x code maxLocals ret :: tables_1)).before args0 about1 = true := by
  rw [allAtoms_all]
  show words1.all (fun c => c.before args0 about1) = true
  refine all_split ?_ w_codes
  rw [← List.take_append_drop 24 words1, List.all_append, w_t1, ← List.take_append_drop 24 (words1.drop 24), List.all_append, w_t2, ← List.take_append_drop 24 ((words1.drop 24).drop 24), List.all_append, w_t3, ← List.take_append_drop 24 (((words1.drop 24).drop 24).drop 24), List.all_append, w_t4, ← List.take_append_drop 24 ((((words1.drop 24).drop 24).drop 24).drop 24), List.all_append, w_t5, ← List.take_append_drop 24 (((((words1.drop 24).drop 24).drop 24).drop 24).drop 24), List.all_append, w_t6, ← List.take_append_drop 24 ((((((words1.drop 24).drop 24).drop 24).drop 24).drop 24).drop 24), List.all_append, w_t7, ← List.take_append_drop 24 (((((((words1.drop 24).drop 24).drop 24).drop 24).drop 24).drop 24).drop 24), List.all_append, w_t8, w_t9]
  rfl
set_option maxRecDepth 65536 in
theorem w_rest : rest_1_c.before args0 about1 = true := by decide +kernel
set_option maxRecDepth 65536 in
theorem w_case : (Jvm.Cond.and given_1 narrow_1).before args0 about1 = true := by decide +kernel
theorem w_applies : (headSpec (Jvm.Cond.code x code maxLocals ret :: tables_1) room_1).applies x e0.platform about1 = true :=
  (Spec.applies_iff w_frames).mpr ⟨w_running, w_runnable, w_alone, w_named, w_hears, w_ripe, w_room, w_tables⟩
theorem atStart : AtStart classFile x code maxLocals ret World_1 tables_1 room_1 Calls_1 rest_1 Pre_1 launch0 p0 e0 about1 theMethod args0 below0 :=
  ⟨lists_1, trivial, launch0.admits_env _ _ _, launch0.least_env, fairChoices_fair.cas, fairChoices_fair.clock, w_frames, w_args, w_heap, w_applies, trivial, w_rest, w_case⟩
end start1
theorem witness_1 : WitnessClaimed_1 := ⟨start1.p0, start1.e0, start1.about1, start1.theMethod, start1.args0, start1.below0, start1.atStart⟩
end Jvm.Pilot.@@N@@
