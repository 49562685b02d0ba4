import JvmDerived
import JvmDerived.Pilot.@@N@@Statement
import JvmDerived.Pilot.@@N@@Code
set_option linter.unusedVariables false
set_option linter.unusedSimpArgs false
namespace Jvm.Pilot.@@N@@
open Jvm Jvm.ClassFile Sem Op Lib Jvm.Free Jvm.Stand Jvm.LawKit Jvm.RoadKit Bundle Jvm.Pilot.@@N@@.Jvm.D
section Own
variable {p : Program} {l : Launch} {e : Env} {R : Room} {s : State} {m : MethodId} {args : Array Value} {below : List Frame} {meth : Method} {c : Code} {T T' : State} {locs : List Loc} {cells slots : Nat} {F : State → Outcome → Prop} {g g' : JFrame} {Z : State} {a0 : Array Value} {h h0 : Heap}
/-- the run from T with g on top ends, and F holds of its end -/
def own_G (p : Program) (e : Env) (below : List Frame) (F : State → Outcome → Prop) (T : State) (g : JFrame) : Prop := ∃ t o, Steps p.tables e below (T.setTop g) t ∧ t.status = .running ∧ Ended t below o ∧ F t o
theorem own_st (h : ∀ t, Steps p.tables e below (T'.setTop g') t → Steps p.tables e below (T.setTop g) t) (k : own_G p e below F T' g') : own_G p e below F T g := by
  obtain ⟨t, o, h1, h2⟩ := k
  exact ⟨t, o, h t h1, h2⟩
theorem own_tr (h : Steps p.tables e below (T.setTop g) (T'.setTop g')) (k : own_G p e below F T' g') : own_G p e below F T g := own_st (fun _ q => h.trans q) k
def own_F (Q : Option Value → Heap → List Loc → Prop) (s : State) (k n : Nat) (t : State) (o : Outcome) : Prop := ∃ v L, o = .returned v ∧ Q v t.heap L ∧ FrameEnd s o t L k n
theorem own_ret {Q : Option Value → Heap → List Loc → Prop} {k n : Nat} {v : Option Value} (X : Stand p l e R s m args below meth c T locs cells slots) (hlk : meth.locks = false) (hv : meth.sig.returnType = none → v = none) (hq : Q v T.heap locs) (h1 : cells ≤ k) (h2 : slots ≤ n)
    (hs : ∀ fs, (∀ (f : JFrame) (acts : List Action), f.method = m → f.locked = none → f.entered = [] → (doReturn e (T.setTop f) acts v).1 = T.setFrames fs) → Steps p.tables e below (T.setTop g) (T.setFrames fs)) : own_G p e below (own_F Q s k n) T g := by
  obtain ⟨fs, hr, hrun, hended, hW, hsame⟩ := X.leave (v := v) hv hlk
  exact ⟨_, _, hs fs hr, hrun, hended, v, locs, rfl, hq, ⟨_, rfl⟩, hW, hsame.mono h1 h2⟩
theorem own_retI {Q : Option Value → Heap → List Loc → Prop} {k n pc : Nat} {Ls : Array Slot} {z : Int32} {rest : List Value} (X : Stand p l e R s m args below meth c T locs cells slots) (hx : p.tables.exec = Jvm.exec) (hlk : meth.locks = false) (hret : meth.sig.returnType = some .int) (hd : decode c.code pc = .ok (.ireturn, 1)) (h1 : cells ≤ k) (h2 : slots ≤ n) (hq : Q (some (.int z)) T.heap locs) :
    own_G p e below (own_F Q s k n) T (mkF m pc Ls (.int z :: rest)) :=
  own_ret X hlk (fun q => by rw [hret] at q; cases q) hq h1 h2 fun fs hr => retOut X hx hret rfl (Or.inl ⟨rfl, Or.inl rfl, _, rfl⟩) hd hr
theorem own_retB {Q : Option Value → Heap → List Loc → Prop} {k n pc : Nat} {Ls : Array Slot} {z w : Int32} {rest : List Value} (X : Stand p l e R s m args below meth c T locs cells slots) (hx : p.tables.exec = Jvm.exec) (hlk : meth.locks = false) (hret : meth.sig.returnType = some .boolean) (hd : decode c.code pc = .ok (.ireturn, 1)) (h1 : cells ≤ k) (h2 : slots ≤ n) (hz : nar .boolean z = w) (hq : Q (some (.int w)) T.heap locs) :
    own_G p e below (own_F Q s k n) T (mkF m pc Ls (.int z :: rest)) := by
  subst hz
  exact own_ret X hlk (fun q => by rw [hret] at q; cases q) hq h1 h2 fun fs hr => retN X hx (t := .boolean) hret (by simp) hd hr
theorem own_retR {Q : Option Value → Heap → List Loc → Prop} {k n pc : Nat} {Ls : Array Slot} {w : Value} {C : String} {rest : List Value} (X : Stand p l e R s m args below meth c T locs cells slots) (hx : p.tables.exec = Jvm.exec) (hlk : meth.locks = false) (hret : meth.sig.returnType = some (.object C)) (hd : decode c.code pc = .ok (.areturn, 1)) (h1 : cells ≤ k) (h2 : slots ≤ n) (hw : w.isRef = true) (hq : Q (some w) T.heap locs) :
    own_G p e below (own_F Q s k n) T (mkF m pc Ls (w :: rest)) :=
  own_ret X hlk (fun q => by rw [hret] at q; cases q) hq h1 h2 fun fs hr => retOut X hx hret rfl (Or.inr (Or.inr (Or.inr (Or.inr ⟨rfl, rfl, hw⟩)))) hd hr
theorem own_retA {Q : Option Value → Heap → List Loc → Prop} {k n pc : Nat} {Ls : Array Slot} {w : Value} {ty : FieldType} {rest : List Value} (X : Stand p l e R s m args below meth c T locs cells slots) (hx : p.tables.exec = Jvm.exec) (hlk : meth.locks = false) (hret : meth.sig.returnType = some (.array ty)) (hd : decode c.code pc = .ok (.areturn, 1)) (h1 : cells ≤ k) (h2 : slots ≤ n) (hw : w.isRef = true) (hq : Q (some w) T.heap locs) :
    own_G p e below (own_F Q s k n) T (mkF m pc Ls (w :: rest)) :=
  own_ret X hlk (fun q => by rw [hret] at q; cases q) hq h1 h2 fun fs hr => retOut X hx hret rfl (Or.inr (Or.inr (Or.inr (Or.inr ⟨rfl, rfl, hw⟩)))) hd hr
theorem own_retJ {Q : Option Value → Heap → List Loc → Prop} {k n pc : Nat} {Ls : Array Slot} {z : Int64} {rest : List Value} (X : Stand p l e R s m args below meth c T locs cells slots) (hx : p.tables.exec = Jvm.exec) (hlk : meth.locks = false) (hret : meth.sig.returnType = some .long) (hd : decode c.code pc = .ok (.lreturn, 1)) (h1 : cells ≤ k) (h2 : slots ≤ n) (hq : Q (some (.long z)) T.heap locs) :
    own_G p e below (own_F Q s k n) T (mkF m pc Ls (.long z :: rest)) :=
  own_ret X hlk (fun q => by rw [hret] at q; cases q) hq h1 h2 fun fs hr => retOut X hx hret rfl (Or.inr (Or.inl ⟨rfl, rfl, _, rfl⟩)) hd hr
theorem own_retV {Q : Option Value → Heap → List Loc → Prop} {k n pc : Nat} {Ls : Array Slot} (X : Stand p l e R s m args below meth c T locs cells slots) (hx : p.tables.exec = Jvm.exec) (hlk : meth.locks = false) (hret : meth.sig.returnType = none) (hd : decode c.code pc = .ok (.return_, 1)) (h1 : cells ≤ k) (h2 : slots ≤ n) (hq : Q none T.heap locs) :
    own_G p e below (own_F Q s k n) T (mkF m pc Ls []) :=
  own_ret X hlk (fun _ => rfl) hq h1 h2 fun fs hr => X.returnOut hx hret hd hr
/-- what a body promises at the heap h0 -/
abbrev own_C (l : Launch) (Z : State) (y : MethodName) (bytes : ByteArray) (ml : Nat) (rt : Option FieldType) (ws : List Jvm.Cond) (rm : Room) (as' : Array Value) (h0 : Heap) (Q : Option Value → Heap → List Loc → Prop) : Prop :=
  MetFree l y (head1 (Jvm.Cond.code y bytes ml rt :: ws) rm) (fun a U => a = as' ∧ Z.Warmed39 U.vm ∧ U.heap = h0) (fun _ _ _ _ _ => True) (fun _ U o U' => ∃ v L, o = .returned v ∧ Q v U'.heap L ∧ FrameEnd U o U' L rm.cells rm.slots)
theorem own_body {y : MethodName} {bytes : ByteArray} {ml : Nat} {rt : Option FieldType} {ws : List Jvm.Cond} {rm : Room} {as' : Array Value} {Q : Option Value → Heap → List Loc → Prop} (pn : plainFor y = true) {f0 : MethodId → JFrame} (hef : ∀ m, entryFrame m as' ml = f0 m)
    (body : ∀ (p : Program) (e : Env) (s : State) (m : MethodId) (below : List Frame) (meth : Method) (c : Code) (s₁ : State), p.tables.exec = Jvm.exec → c.code = bytes → c.maxLocals = ml → s.vm.findClass y.cls = some m.cls → meth.name = y.name → meth.sig.returnType = rt → meth.locks = false → Z.Warmed39 s.vm → Stand p l e rm s m as' below meth c s₁ [] 0 0 → s₁.heap = h0 →
      own_G p e below (own_F Q s rm.cells rm.slots) s₁ (f0 m)) : own_C l Z y bytes ml rt ws rm as' h0 Q := by
  refine MetFree.of_bodySF pn hisR ?_
  intro p e s m args below meth c s₁ Bd hml0 hP hK
  obtain ⟨rfl, hZ, hh⟩ := hP
  have e0 : s₁.heap = h0 := by rw [← hh, Bd.state]; rfl
  have hnm := (name_of_methodNamed Bd.named Bd.method).1
  have q := body p e s m below meth c s₁ Bd.exec Bd.bytes hml0 (findClass_of_methodNamed Bd.named) hnm Bd.returns Bd.notSynchronized hZ (Stand.of_body Bd) e0
  rw [← hef m] at q
  exact q
theorem own_callS {own : String} {index : Nat} {y : MethodName} {bytes : ByteArray} {ml : Nat} {rt : Option FieldType} {rm : Room} {Q : Option Value → Heap → List Loc → Prop} {argsL : List Value} (W : Nat) (rest : List Value)
    (C : own_C l Z y bytes ml rt [] rm argsL.toArray h Q) (X : Stand p l e R s m args below meth c T locs cells slots) (hx : p.tables.exec = Jvm.exec) (hZ : Z.Warmed39 s.vm) (hown : s.vm.findClass own = some m.cls)
    (w1 : (Jvm.Cond.methodLink own index y).before a0 Z = true) (w2 : (Jvm.Cond.static y).before a0 Z = true) (w3 : (Jvm.Cond.initialized y.cls).before a0 Z = true) (w4 : (Jvm.Cond.code y bytes ml rt).before a0 Z = true) (hy : y.cls ≠ "java/lang/invoke/MethodHandle" ∧ y.cls ≠ "java/lang/invoke/VarHandle")
    (hf : rm.frames + 1 ≤ R.frames) (hlo : W + (ml + 11) + rm.locals ≤ R.locals) (hc : cells + rm.cells ≤ R.cells) (hsl : slots + rm.slots ≤ R.slots) (eT : T.heap = h)
    (hg : g.method = m) (hsize : g.locals.size = c.maxLocals) (hlen : ∀ sig, parseMethodDescriptor y.desc = some sig → argsL.length = sig.parameters.length) (hstack : g.stack = argsL.reverse ++ rest) (hW : 2 * g.monitorRoom + (rest.map fun v => v.category).sum ≤ W)
    (hd : decode c.code g.pc = .ok (.invokestatic index, 3)) :
    ∃ v T' L, Q v T'.heap L ∧ Stand p l e R s m args below meth c T' (locs ++ L) (cells + rm.cells) (slots + rm.slots) ∧ ∀ t, Steps p.tables e below (T'.setTop { g with pc := g.pc + 3, stack := v.toList ++ rest }) t → Steps p.tables e below (T.setTop g) t := by
  obtain ⟨v, _, ⟨T4, L4, k4, n4⟩, -, X4, ⟨Lc4, hQ4, l4, y4, z4⟩, st4⟩ := Jvm.LawKit.callS X hx (y := y) hown (mvT hZ w1) (mvT hZ w2) (mvT hZ w3) (mvT hZ w4) hy (backOf (W := W) C hZ w4 w3 hf hlo) hg hsize hlen hstack hW hd (fun _ _ => ⟨rfl, eT, hc, hsl⟩)
  dsimp only [Pt.U, Pt.locs, Pt.cells, Pt.slots] at X4 l4 y4 z4 st4 hQ4
  subst l4 y4 z4
  exact ⟨v, T4, Lc4, hQ4, X4, st4⟩
theorem own_callV {own : String} {index : Nat} {y z : MethodName} {bytes : ByteArray} {ml : Nat} {rt : Option FieldType} {rm : Room} {Q : Option Value → Heap → List Loc → Prop} {b : Addr} {argsL : List Value} (W : Nat) (rest : List Value) {K : String}
    (C : own_C l Z z bytes ml rt [] rm (.ref b :: argsL).toArray h Q) (X : Stand p l e R s m args below meth c T locs cells slots) (hx : p.tables.exec = Jvm.exec) (hZ : Z.Warmed39 s.vm) (hown : s.vm.findClass own = some m.cls)
    (w1 : (Jvm.Cond.methodLink own index y).before a0 Z = true) (w2 : (Jvm.Cond.declares y).before a0 Z = true) (hnf : NotFace s y) (w3 : (Jvm.Cond.selects K y z).before a0 Z = true) (w5 : (Jvm.Cond.instanceMethod z).before a0 Z = true) (w4 : (Jvm.Cond.code z bytes ml rt).before a0 Z = true) (w6 : (Jvm.Cond.initialized z.cls).before a0 Z = true) (hy : y.cls ≠ "java/lang/invoke/MethodHandle" ∧ y.cls ≠ "java/lang/invoke/VarHandle")
    (hf : rm.frames + 1 ≤ R.frames) (hlo : W + (ml + 11) + rm.locals ≤ R.locals) (hc : cells + rm.cells ≤ R.cells) (hsl : slots + rm.slots ≤ R.slots) (eT : T.heap = h) (E : Exa Z h b K)
    (hg : g.method = m) (hsize : g.locals.size = c.maxLocals) (hlen : ∀ sig, parseMethodDescriptor y.desc = some sig → argsL.length = sig.parameters.length) (hstack : g.stack = argsL.reverse ++ .ref b :: rest) (hW : 2 * g.monitorRoom + (rest.map fun v => v.category).sum ≤ W)
    (hd : decode c.code g.pc = .ok (.invokevirtual index, 3)) :
    ∃ v T' L, Q v T'.heap L ∧ Stand p l e R s m args below meth c T' (locs ++ L) (cells + rm.cells) (slots + rm.slots) ∧ ∀ t, Steps p.tables e below (T'.setTop { g with pc := g.pc + 3, stack := v.toList ++ rest }) t → Steps p.tables e below (T.setTop g) t := by
  obtain ⟨cq4, kq4, q4a, q4b, q4c⟩ := isOf hZ eT E
  obtain ⟨v, _, ⟨T4, L4, k4, n4⟩, -, X4, ⟨Lc4, hQ4, l4, y4, z4⟩, st4⟩ := X.virtualBack hx (y := y) (z := z) hown (mvT hZ w1) (mvT hZ w2) hnf (mvT hZ w3) (mvT hZ w5) hy (backOf (W := W) C hZ w4 w6 hf hlo) q4a q4c hg hsize (Steps.refl _) hlen hstack hW hd (fun _ _ => ⟨rfl, eT, hc, hsl⟩)
  dsimp only [Pt.U, Pt.locs, Pt.cells, Pt.slots] at X4 l4 y4 z4 st4 hQ4
  subst l4 y4 z4
  exact ⟨v, T4, Lc4, hQ4, X4, fun t k => st4.trans k⟩
theorem own_callI {own : String} {index : Nat} {y : MethodName} {bytes : ByteArray} {ml : Nat} {rm : Room} {Q : Option Value → Heap → List Loc → Prop} {b : Addr} {argsL : List Value} (W : Nat) (rest : List Value)
    (C : own_C l Z y bytes ml none [] rm (.ref b :: argsL).toArray h Q) (X : Stand p l e R s m args below meth c T locs cells slots) (hx : p.tables.exec = Jvm.exec) (hZ : Z.Warmed39 s.vm) (hown : s.vm.findClass own = some m.cls) (hy1 : y.name = "<init>")
    (w1 : (Jvm.Cond.methodLink own index y).before a0 Z = true) (w5 : (Jvm.Cond.instanceMethod y).before a0 Z = true) (w4 : (Jvm.Cond.code y bytes ml none).before a0 Z = true) (w6 : (Jvm.Cond.initialized y.cls).before a0 Z = true) (hy : y.cls ≠ "java/lang/invoke/MethodHandle" ∧ y.cls ≠ "java/lang/invoke/VarHandle")
    (hf : rm.frames + 1 ≤ R.frames) (hlo : W + (ml + 11) + rm.locals ≤ R.locals) (hc : cells + rm.cells ≤ R.cells) (hsl : slots + rm.slots ≤ R.slots) (eT : T.heap = h)
    (hg : g.method = m) (hsize : g.locals.size = c.maxLocals) (hlen : ∀ sig, parseMethodDescriptor y.desc = some sig → argsL.length = sig.parameters.length) (hstack : g.stack = argsL.reverse ++ .ref b :: rest) (hW : 2 * g.monitorRoom + (rest.map fun v => v.category).sum ≤ W)
    (hd : decode c.code g.pc = .ok (.invokespecial index, 3)) :
    ∃ v T' L, Q v T'.heap L ∧ Stand p l e R s m args below meth c T' (locs ++ L) (cells + rm.cells) (slots + rm.slots) ∧ ∀ t, Steps p.tables e below (T'.setTop { g with pc := g.pc + 3, stack := v.toList ++ rest }) t → Steps p.tables e below (T.setTop g) t := by
  obtain ⟨v, _, ⟨T4, L4, k4, n4⟩, -, X4, ⟨Lc4, hQ4, l4, y4, z4⟩, st4⟩ := X.specialBack hx (y := y) hy1 hown (mvT hZ w1) (mvT hZ w5) (mvT hZ w4) hy (backOf (W := W) C hZ w4 w6 hf hlo) hg hsize (Steps.refl _) (a := b) hlen hstack hW hd (fun _ _ => ⟨rfl, eT, hc, hsl⟩)
  dsimp only [Pt.U, Pt.locs, Pt.cells, Pt.slots] at X4 l4 y4 z4 st4 hQ4
  subst l4 y4 z4
  exact ⟨v, T4, Lc4, hQ4, X4, fun t k => st4.trans k⟩
theorem own_sta {C n d K : String} {args : Array Value} (hx : (Jvm.Cond.exactly (Term.static C n d) K).value args Z none Z [] = some true) (hi : (Jvm.Cond.initialized C).before args Z = true) (hl : (Jvm.Cond.laysStatic C n d).before args Z = true) :
    ∃ a, (Term.static C n d).eval args Z none [] Z = some (.ref a) ∧ Sta Z Z.heap C n d (.ref a) ∧ Exa Z Z.heap a K := by
  obtain ⟨a', c', cell, k, e1, -⟩ := Cond.exactly_spec (Cond.before_iff.mpr hx)
  exact ⟨a', e1, Sta.start e1 (Or.inr ⟨hi, hl⟩), Exa.start e1 hx⟩
theorem own_fld {args : Array Value} {t : Term} {a : Addr} {C n d : String} {z : Int32} (ev : t.eval args Z none [] Z = some (.ref a)) (hx : (Jvm.Cond.eq (Term.field t C n d) (Term.int z)).value args Z none Z [] = some true) : Fld Z Z.heap a C n d (.int z) := by
  apply Fld.start
  cases hf : Z.fieldOf? a C n d with
  | none => simp [Cond.value, Term.eval, ev, hf] at hx
  | some v => cases v <;> simp [Cond.value, Term.eval, ev, hf] at hx ⊢; exact hx
/-- a body that writes nothing: it returns r -/
def own_P (r : Value) (h0 : Heap) (v : Option Value) (h : Heap) (L : List Loc) : Prop := v = some r ∧ h = h0 ∧ L = []
theorem own_ite {q : Prop} [Decidable q] {x y : Addr} {K : String} (h1 : Exa Z h x K) (h2 : Exa Z h y K) : Exa Z h (if q then x else y) K := by split <;> assumption
theorem own_or {q : Prop} [Decidable q] {r x y : α} (h : r = if q then x else y) : r = x ∨ r = y := by rw [h]; split <;> simp
theorem own_bit (x : Int32) : x &&& 1 = 0 ∨ x &&& 1 = 1 := by
  have h1 : (x &&& 1).toBitVec = x.toBitVec &&& 1#32 := rfl
  have h2 : (x.toBitVec &&& 1#32).toNat = x.toBitVec.toNat % 2 := by rw [BitVec.toNat_and]; exact Nat.and_two_pow_sub_one_eq_mod _ 1
  rcases Nat.mod_two_eq_zero_or_one x.toBitVec.toNat with h | h
  · left; apply Int32.toBitVec_inj.mp; apply BitVec.eq_of_toNat_eq; rw [h1, h2, h]; rfl
  · right; apply Int32.toBitVec_inj.mp; apply BitVec.eq_of_toNat_eq; rw [h1, h2, h]; rfl
theorem own_plain {a : Addr} {C : String} (E : Exa Z h a C) : ∀ cell : Cell, h[a]? = some cell → cell.vm.isStatics = false := fun cell hc => by
  obtain ⟨c1, _, h1, -, -, h4, -⟩ := E
  cases h1.symm.trans hc; exact h4
theorem own_sta_keep {h' : Heap} {ws : List Addr} {C n d : String} {v : Value} (F : Sta Z h C n d v) (K : Keep h h' ws) (q : ∀ x ∈ ws, ∀ cell : Cell, h'[x]? = some cell → cell.vm.isStatics = false) : Sta Z h' C n d v := by
  obtain ⟨cf, i, k, f, st, cell, h1, h2, h3, h4, h5, h6, h7⟩ := F
  refine ⟨cf, i, k, f, st, cell, h1, h2, h3, h4, K.2.1 st cell h5 (fun m => ?_), h6, h7⟩
  obtain ⟨c', e1, -, e3, -⟩ := K.2.2 st cell h5
  have := q st m c' e1
  rw [e3, h6] at this; cases this
theorem own_ext {h' : Heap} (K : Keep h h' []) : Ext h h' := ⟨K.1, fun a c q => K.2.1 a c q nin0⟩
theorem own_keep {h' : Heap} (E : Ext h h') : Keep h h' [] := (Keep.refl h []).ext E
/-- a body that returns nothing and writes nothing -/
def own_V (h0 : Heap) (v : Option Value) (h : Heap) (L : List Loc) : Prop := v = none ∧ h = h0 ∧ L = []
theorem own_nar {z : Int32} (h : z = 0 ∨ z = 1) : nar .boolean z = z := by rcases h with rfl | rfl <;> rfl
theorem own_01 {q : Prop} [Decidable q] {x y : Int32} (h1 : x = 0 ∨ x = 1) (h2 : y = 0 ∨ y = 1) : (if q then x else y) = 0 ∨ (if q then x else y) = 1 := by split <;> assumption
end Own
section OwnLA
variable {p : Program} {l : Launch} {e : Env} {R : Room} {s : State} {m : MethodId} {args : Array Value} {below : List Frame} {meth : Method} {c : Code} {T : State} {locs : List Loc} {cells slots : Nat} {Z : State} {a0 : Array Value} {h h' : Heap} {g : JFrame}
def own_LA (Z : State) (h : Heap) (a : Addr) (z : Int32) : Prop := ∃ k vs dv, Arv Z h a k .long z vs dv ∧ z.toNatClampNeg ≤ vs.length
theorem own_LA.lt {a : Addr} {z : Int32} (A : own_LA Z h a z) : a < h.size := by obtain ⟨k, vs, dv, q, -⟩ := A; exact q.lt
theorem own_LA.nn {a : Addr} {z : Int32} (A : own_LA Z h a z) : ¬ z < 0 := by obtain ⟨k, vs, dv, ⟨_, _, _, _, q, _⟩, -⟩ := A; exact q
theorem own_LA.ext {a : Addr} {z : Int32} (A : own_LA Z h a z) (E : Ext h h') : own_LA Z h' a z := by obtain ⟨k, vs, dv, q, r⟩ := A; exact ⟨k, vs, dv, q.ext E, r⟩
theorem own_LA.other {a b : Addr} {z : Int32} {sl : Nat} {v : Value} (A : own_LA Z h b z) (W : Wr h h' a sl v) (n : b ≠ a) : own_LA Z h' b z := by obtain ⟨k, vs, dv, q, r⟩ := A; exact ⟨k, vs, dv, q.other W n, r⟩
theorem own_LA.keep {a : Addr} {z : Int32} {ws : List Addr} (A : own_LA Z h a z) (K : Keep h h' ws) (n : a ∉ ws) : own_LA Z h' a z := by obtain ⟨k, vs, dv, q, r⟩ := A; exact ⟨k, vs, dv, q.keep K n, r⟩
theorem own_LA.new {a : Addr} {k : ClassId} {z : Int32} (A : Arr Z h a (newA k .long z) .long) (q : ¬ z < 0) : own_LA Z h a z :=
  ⟨k, [] ++ List.replicate z.toNatClampNeg (.long 0), .long 0, (Arv.new A q).pad (pad_rep [] (.long 0) _), by simp⟩
theorem own_LA.len {a : Addr} {z : Int32} (A : own_LA Z h a z) (X : Stand p l e R s m args below meth c T locs cells slots) (hx : p.tables.exec = Jvm.exec) (hZ : Z.Warmed39 s.vm) (eT : T.heap = h) (hg : g.method = m) {rest : List Value} (hs : g.stack = .ref a :: rest) (hd : decode c.code g.pc = .ok (.arraylength, 1)) :
    ∀ t, Steps p.tables e below (T.setTop { g with pc := g.pc + 1, stack := .int z :: rest }) t → Steps p.tables e below (T.setTop g) t := by
  obtain ⟨k, vs, dv, ⟨cl, Ar, -, S, N, -, -⟩, -⟩ := A
  intro t k
  refine X.arraylength hx (by rw [eT]; exact Ar.1) (State.isArrayOf_alike hZ.alike Ar.2.1) hg hs hd t ?_
  rw [len_of S N]; exact k
theorem own_LA.st {a : Addr} {z j : Int32} {x : Int64} (A : own_LA Z h a z) (X : Stand p l e R s m args below meth c T locs cells slots) (hx : p.tables.exec = Jvm.exec) (hZ : Z.Warmed39 s.vm) (eT : T.heap = h) (hj : ¬ j < 0 ∧ j < z) (hg : g.method = m) {rest : List Value} (hs : g.stack = .long x :: .int j :: .ref a :: rest) (hd : decode c.code g.pc = .ok (.lastore, 1)) :
    ∃ T' h', Stand p l e R s m args below meth c T' (locs ++ [⟨a, j.toNatClampNeg⟩]) cells slots ∧ T'.heap = h' ∧ Wr h h' a j.toNatClampNeg (.long x) ∧ own_LA Z h' a z ∧ ∀ t, Steps p.tables e below (T'.setTop { g with pc := g.pc + 1, stack := rest }) t → Steps p.tables e below (T.setTop g) t := by
  obtain ⟨k, vs, dv, ⟨cl, Ar, q, S, N, H, G⟩, hl⟩ := A
  have hin := inb_of S hj
  obtain ⟨T', h', X', e', W', st⟩ := stJ X hx hZ eT Ar hin hg hs hd
  have hlt : j.toNatClampNeg < vs.length := by
    have h1 : j.toNatClampNeg < cl.slots.size := Nat.lt_of_not_le fun y => hin (Or.inr y)
    rw [S] at h1; exact Nat.lt_of_lt_of_le h1 hl
  exact ⟨T', h', X', e', W', ⟨k, _, dv, Arv.set Ar q S N H G rfl W' _ rfl hlt, by simpa using hl⟩, st⟩
theorem own_LA.cp {own : String} {index : Nat} {a b : Addr} {z : Int32} {n0 : Nat} (A : own_LA Z h a z) (B : own_LA Z h b 16) (X : Stand p l e R s m args below meth c T locs cells slots) (hx : p.tables.exec = Jvm.exec) (hZ : Z.Warmed39 s.vm) (hown : s.vm.findClass own = some m.cls)
    (w1 : (Jvm.Cond.methodLink own index Jvm.Stand.acN).before a0 Z = true) (w2 : (Jvm.Cond.native Jvm.Stand.acN).before a0 Z = true) (w3 : (Jvm.Cond.static Jvm.Stand.acN).before a0 Z = true) (w4 : (Jvm.Cond.initialized "java/lang/System").before a0 Z = true) (eT : T.heap = h) (hz : z.toNatClampNeg ≤ 16) (N : Fr n0 locs) (ge : n0 ≤ b)
    (hg : g.method = m) (hsize : g.locals.size = c.maxLocals) (hs : g.stack = .int z :: .int 0 :: .ref b :: .int 0 :: .ref a :: []) (hd : decode c.code g.pc = .ok (.invokestatic index, 3)) (hf : 1 ≤ R.frames) (hm : 2 * g.monitorRoom ≤ 0) (hlo : 0 + (nativeFrameWords "java/lang/System" "arraycopy" 5 + 11) ≤ R.locals) :
    ∃ T' h' L, Stand p l e R s m args below meth c T' L cells slots ∧ T'.heap = h' ∧ Fr n0 L ∧ Keep h h' [b] ∧ own_LA Z h' b 16 ∧ ∀ t, Steps p.tables e below (T'.setTop { g with pc := g.pc + 3, stack := [] }) t → Steps p.tables e below (T.setTop g) t := by
  have nz := A.nn
  obtain ⟨k, vs, dv, q, hl⟩ := A
  obtain ⟨k', vd, dd, q', hl'⟩ := B
  have z0 : (0 : Int32).toNatClampNeg = 0 := rfl
  have e16 : (16 : Int32).toNatClampNeg = 16 := rfl
  obtain ⟨T', h', L, X', e', N', K', A', st⟩ := cpA X hx hZ hown w1 w2 w3 w4 eT q q' (Or.inl ⟨rfl, rfl⟩) (by decide) (by decide) nz (by rw [z0]; omega) (by rw [z0, e16]; omega) rfl (by rw [z0]; rw [e16] at hl'; omega) N ge hg hsize (rest := []) hs hd hf (W := 0) (by simpa using hm) hlo
  refine ⟨T', h', L, X', e', N', K', ⟨k', _, dd, A', ?_⟩, st⟩
  simp only [List.length_append, List.length_take, List.length_drop, List.length_map, List.length_range, z0]
  omega
end OwnLA
/-- the list at a holds n values and has room for z; its array is old only where it is empty -/
def own_LL (Z : State) (n0 : Nat) (h : Heap) (a : Addr) (n z : Int32) : Prop := ∃ va, Exa Z h a "com/example/seriate/seriate/LongList" ∧ Fld Z h a "com/example/seriate/seriate/LongList" "size" "I" (.int n) ∧ Fld Z h a "com/example/seriate/seriate/LongList" "values" "[J" (.ref va) ∧ own_LA Z h va z ∧ va ≠ a ∧ (z = 0 ∨ n0 ≤ va)
theorem own_LL.exa {Z : State} {n0 : Nat} {h : Heap} {a : Addr} {n z : Int32} (L : own_LL Z n0 h a n z) : Exa Z h a "com/example/seriate/seriate/LongList" := by obtain ⟨_, E, _⟩ := L; exact E
theorem own_LL.nn {Z : State} {n0 : Nat} {h : Heap} {a : Addr} {n z : Int32} (L : own_LL Z n0 h a n z) : ¬ z < 0 := by obtain ⟨_, _, _, _, A, _⟩ := L; exact A.nn
def own_ql (Z : State) (n0 : Nat) (a : Addr) (n z : Int32) (v : Option Value) (h : Heap) (L : List Loc) : Prop := v = none ∧ Fr n0 L ∧ Old Z n0 h ∧ own_LL Z n0 h a n z
def own_qc (Z : State) (h0 : Heap) (n0 : Nat) (v : Option Value) (h : Heap) (L : List Loc) : Prop := ∃ b, v = some (.ref b) ∧ Fr n0 L ∧ Ext h0 h ∧ h0.size ≤ b ∧ own_LA Z h b 16
def own_max (a b : Int32) : Int32 := if a < b then b else a
def own_min (a b : Int32) : Int32 := if b < a then b else a
def own_cl (z r : Int32) : Int32 := if z < r then r else z
def own_ad (n z : Int32) : Int32 := if n = z then 16 else z
def own_qr (r : Value) (n0 : Nat) (v : Option Value) (h : Heap) (L : List Loc) : Prop := v = some r ∧ Fr n0 L
theorem own_i0 : (0 : Int32).toInt = 0 := rfl
theorem own_i1 : (1 : Int32).toInt = 1 := rfl
theorem own_i2 : (2 : Int32).toInt = 2 := rfl
theorem own_i3 : (3 : Int32).toInt = 3 := rfl
theorem own_i16 : (16 : Int32).toInt = 16 := rfl
theorem own_i39 : (39 : Int32).toInt = 39 := rfl
theorem own_small {n : Int32} (h1 : ¬ n < 0) (h2 : n < 3) : n = 0 ∨ n = 1 ∨ n = 2 := by
  rw [Int32.lt_iff_toInt_lt] at h1 h2; have := own_i0; have := own_i3
  have e : n.toInt = 0 ∨ n.toInt = 1 ∨ n.toInt = 2 := by omega
  rcases e with e | e | e
  · left; exact Int32.toInt_inj.mp e
  · right; left; exact Int32.toInt_inj.mp e
  · right; right; exact Int32.toInt_inj.mp e
theorem own_rem (a : Int32) : (a % 40) < 40 := by
  rw [Int32.lt_iff_toInt_lt]
  have e : (40 : Int32).toInt = 40 := rfl
  obtain ⟨h1, h2⟩ := c_irem a 40 40 (by decide)
  by_cases h : 0 ≤ a.toInt
  · rw [h1 h]; omega
  · rw [h2 (by omega)]; omega
theorem own_cap {z p : Int32} (h : ¬ z < 0) (h2 : z < p) (h3 : p < 40) : ¬ p < 0 ∧ p.toNatClampNeg ≤ 39 := by
  rw [Int32.lt_iff_toInt_lt] at *; have := own_i0; have e : (40 : Int32).toInt = 40 := rfl
  refine ⟨by omega, ?_⟩
  simp only [Int32.toNatClampNeg]; omega
theorem own_m16 {n : Int32} (h : n = 0 ∨ n = 1 ∨ n = 2) : (16 : Int32) = own_max 16 (n * 2) := by rcases h with rfl | rfl | rfl <;> decide
theorem own_n16 {z : Int32} (h : z = 0 ∨ z = 1 ∨ z = 2) : z = own_min z 16 := by rcases h with rfl | rfl | rfl <;> decide
theorem own_ne16 {z : Int32} (h : z = 0 ∨ z = 1 ∨ z = 2) : ¬ (16 : Int32) = z := by rcases h with rfl | rfl | rfl <;> decide
theorem own_le16 {z : Int32} (h : z = 0 ∨ z = 1 ∨ z = 2) : z.toNatClampNeg ≤ 16 := by rcases h with rfl | rfl | rfl <;> decide
theorem own_in16 {z : Int32} (h : z = 0 ∨ z = 1 ∨ z = 2) : ¬ z < 0 ∧ z < 16 := by rcases h with rfl | rfl | rfl <;> decide
theorem own_lt {n z : Int32} (h1 : ¬ n < 0) (h2 : ¬ z < n) (h3 : ¬ n = z) : n < z := by
  rw [Int32.lt_iff_toInt_lt] at *; have : ¬ n.toInt = z.toInt := fun q => h3 (Int32.toInt_inj.mp q); omega
theorem own_pos {n z : Int32} (h1 : ¬ n < 0) (h2 : n < z) : ¬ z = 0 := fun q => by subst q; exact h1 h2
theorem own_ad_ge {n z : Int32} (h : ¬ z < n) (h3 : n = 0 ∨ n = 1 ∨ n = 2) : ¬ own_ad n z < n + 1 := by
  unfold own_ad
  by_cases q : n = z
  · rw [if_pos q]; rcases h3 with rfl | rfl | rfl <;> decide
  · rw [if_neg q]
    have hn : (n + 1).toInt = n.toInt + 1 := by rcases h3 with rfl | rfl | rfl <;> decide
    rw [Int32.lt_iff_toInt_lt] at *; have : ¬ n.toInt = z.toInt := fun u => q (Int32.toInt_inj.mp u); omega
theorem own_l12 {k : Int32} (h : k < 1) : k < 2 := by rw [Int32.lt_iff_toInt_lt] at *; have := own_i1; have := own_i2; omega
theorem own_l13 {k : Int32} (h : k < 1) : k < 3 := by rw [Int32.lt_iff_toInt_lt] at *; have := own_i1; have := own_i3; omega
theorem own_l23 {k : Int32} (h : k < 2) : k < 3 := by rw [Int32.lt_iff_toInt_lt] at *; have := own_i3; have := own_i2; omega
theorem own_pd0 : parseMethodDescriptor "(II)I" = some ⟨[.int, .int], some .int⟩ := by decide +kernel
theorem own_pd1 : parseMethodDescriptor "([JI)[J" = some ⟨[(.array .long), .int], some (.array .long)⟩ := by decide +kernel
theorem own_pd2 : parseMethodDescriptor "()V" = some ⟨[], none⟩ := by decide +kernel
theorem own_pd3 : parseMethodDescriptor "(I)V" = some ⟨[.int], none⟩ := by decide +kernel
theorem own_pd4 : parseMethodDescriptor "()I" = some ⟨[], some .int⟩ := by decide +kernel
theorem own_pd5 : parseMethodDescriptor "(J)V" = some ⟨[.long], none⟩ := by decide +kernel
theorem own_d5_0 : decode jdk_29_method_65_code 0 = .ok (.iload_n 0, 1) := by decide +kernel
theorem own_d5_1 : decode jdk_29_method_65_code 1 = .ok (.iload_n 1, 1) := by decide +kernel
theorem own_d5_2 : decode jdk_29_method_65_code 2 = .ok (.if_icmp .lt 7, 3) := by decide +kernel
theorem own_d5_5 : decode jdk_29_method_65_code 5 = .ok (.iload_n 0, 1) := by decide +kernel
theorem own_d5_6 : decode jdk_29_method_65_code 6 = .ok (.goto 4, 3) := by decide +kernel
theorem own_d5_9 : decode jdk_29_method_65_code 9 = .ok (.iload_n 1, 1) := by decide +kernel
theorem own_d5_10 : decode jdk_29_method_65_code 10 = .ok (.ireturn, 1) := by decide +kernel
theorem own_pn5 : plainFor (⟨"java/lang/Math", "max", "(II)I"⟩ : MethodName) = true := by decide +kernel
theorem own_ef5 (m : MethodId) (p1 : Int32) (p2 : Int32) : entryFrame m #[(.int p1), (.int p2)] 2 = (mkF m 0 #[.val (.int p1), .val (.int p2)] []) := by first | (simp [entryFrame, mkF, argsToLocals, Value.category]; done) | rfl
set_option maxRecDepth 65536 in
set_option maxHeartbeats 40000000 in
theorem own_rm5 (l : Launch) (Z : State) (a0 : Array Value) (hw : ∀ d ∈ tables_1, d.before a0 Z = true) (h0 : Heap) (n0 : Nat) (Z0 : n0 ≤ h0.size) (p1 : Int32) (p2 : Int32) (r : Int32) (hr : r = own_max p1 p2) :
    own_C l Z (⟨"java/lang/Math", "max", "(II)I"⟩ : MethodName) jdk_29_method_65_code 2 (some .int) [] ({ frames := 0, cells := 0, slots := 0, locals := 0 } : Room) #[(.int p1), (.int p2)] h0 (own_P (.int r) h0) := by
  refine own_body own_pn5 (f0 := fun m => (mkF m 0 #[.val (.int p1), .val (.int p2)] [])) (fun m => own_ef5 m p1 p2) ?_
  intro p e s m below meth c s₁ hx hby hml hown hnm hret hlk hZ X0 e0
  change own_G p e below (own_F (own_P (.int r) h0) s 0 0) s₁ (mkF m 0 #[.val (.int p1), .val (.int p2)] [])
  have N0 := Fr.nil n0
  refine own_st (T' := s₁) (g' := (mkF m 1 #[.val (.int p1), .val (.int p2)] [(.int p1)])) (fun t k => XS.iloadN X0.here hx rfl (hb hby own_d5_0) rfl k) ?_
  refine own_st (T' := s₁) (g' := (mkF m 2 #[.val (.int p1), .val (.int p2)] [(.int p2), (.int p1)])) (fun t k => XS.iloadN X0.here hx rfl (hb hby own_d5_1) rfl k) ?_
  have K2 : ∀ (v3 : Int32) (hv3 : v3 = (if p1 < p2 then p2 else p1)), own_G p e below (own_F (own_P (.int r) h0) s 0 0) s₁ (mkF m 10 #[.val (.int p1), .val (.int p2)] [(.int v3)]) := by
    intro v3 hv3
    exact own_retI X0 hx hlk hret (hb hby own_d5_10) (by decide) (by decide) ⟨by rw [hr]; simp [own_max, hv3], e0, rfl⟩
  by_cases hc2_1 : p1 < p2
  ·
    refine own_st (T' := s₁) (g' := (mkF m 9 #[.val (.int p1), .val (.int p2)] [])) (fun t k => XS.icmpYes X0.here hx rfl (pc0 := 2) (pc' := 9) rfl (hb hby own_d5_2) rfl (tlt hc2_1).1 (by decide) (by decide) k) ?_
    refine own_st (T' := s₁) (g' := (mkF m 10 #[.val (.int p1), .val (.int p2)] [(.int p2)])) (fun t k => XS.iloadN X0.here hx rfl (hb hby own_d5_9) rfl k) ?_
    exact K2 _ (if_pos hc2_1).symm
  ·
    refine own_st (T' := s₁) (g' := (mkF m 5 #[.val (.int p1), .val (.int p2)] [])) (fun t k => XS.icmpNo X0.here hx rfl (hb hby own_d5_2) rfl (flt hc2_1).1 k) ?_
    refine own_st (T' := s₁) (g' := (mkF m 6 #[.val (.int p1), .val (.int p2)] [(.int p1)])) (fun t k => XS.iloadN X0.here hx rfl (hb hby own_d5_5) rfl k) ?_
    refine own_st (T' := s₁) (g' := (mkF m 10 #[.val (.int p1), .val (.int p2)] [(.int p1)])) (fun t k => XS.goto X0.here hx rfl (pc0 := 6) (pc' := 10) rfl (hb hby own_d5_6) (by decide) (by decide) k) ?_
    exact K2 _ (if_neg hc2_1).symm
theorem own_d8_0 : decode jdk_29_method_69_code 0 = .ok (.iload_n 0, 1) := by decide +kernel
theorem own_d8_1 : decode jdk_29_method_69_code 1 = .ok (.iload_n 1, 1) := by decide +kernel
theorem own_d8_2 : decode jdk_29_method_69_code 2 = .ok (.if_icmp .gt 7, 3) := by decide +kernel
theorem own_d8_5 : decode jdk_29_method_69_code 5 = .ok (.iload_n 0, 1) := by decide +kernel
theorem own_d8_6 : decode jdk_29_method_69_code 6 = .ok (.goto 4, 3) := by decide +kernel
theorem own_d8_9 : decode jdk_29_method_69_code 9 = .ok (.iload_n 1, 1) := by decide +kernel
theorem own_d8_10 : decode jdk_29_method_69_code 10 = .ok (.ireturn, 1) := by decide +kernel
theorem own_pn8 : plainFor (⟨"java/lang/Math", "min", "(II)I"⟩ : MethodName) = true := by decide +kernel
theorem own_ef8 (m : MethodId) (p1 : Int32) (p2 : Int32) : entryFrame m #[(.int p1), (.int p2)] 2 = (mkF m 0 #[.val (.int p1), .val (.int p2)] []) := by first | (simp [entryFrame, mkF, argsToLocals, Value.category]; done) | rfl
set_option maxRecDepth 65536 in
set_option maxHeartbeats 40000000 in
theorem own_rm8 (l : Launch) (Z : State) (a0 : Array Value) (hw : ∀ d ∈ tables_1, d.before a0 Z = true) (h0 : Heap) (n0 : Nat) (Z0 : n0 ≤ h0.size) (p1 : Int32) (p2 : Int32) (r : Int32) (hr : r = own_min p1 p2) :
    own_C l Z (⟨"java/lang/Math", "min", "(II)I"⟩ : MethodName) jdk_29_method_69_code 2 (some .int) [] ({ frames := 0, cells := 0, slots := 0, locals := 0 } : Room) #[(.int p1), (.int p2)] h0 (own_P (.int r) h0) := by
  refine own_body own_pn8 (f0 := fun m => (mkF m 0 #[.val (.int p1), .val (.int p2)] [])) (fun m => own_ef8 m p1 p2) ?_
  intro p e s m below meth c s₁ hx hby hml hown hnm hret hlk hZ X0 e0
  change own_G p e below (own_F (own_P (.int r) h0) s 0 0) s₁ (mkF m 0 #[.val (.int p1), .val (.int p2)] [])
  have N0 := Fr.nil n0
  refine own_st (T' := s₁) (g' := (mkF m 1 #[.val (.int p1), .val (.int p2)] [(.int p1)])) (fun t k => XS.iloadN X0.here hx rfl (hb hby own_d8_0) rfl k) ?_
  refine own_st (T' := s₁) (g' := (mkF m 2 #[.val (.int p1), .val (.int p2)] [(.int p2), (.int p1)])) (fun t k => XS.iloadN X0.here hx rfl (hb hby own_d8_1) rfl k) ?_
  have K2 : ∀ (v3 : Int32) (hv3 : v3 = (if p2 < p1 then p2 else p1)), own_G p e below (own_F (own_P (.int r) h0) s 0 0) s₁ (mkF m 10 #[.val (.int p1), .val (.int p2)] [(.int v3)]) := by
    intro v3 hv3
    exact own_retI X0 hx hlk hret (hb hby own_d8_10) (by decide) (by decide) ⟨by rw [hr]; simp [own_min, hv3], e0, rfl⟩
  by_cases hc2_1 : p2 < p1
  ·
    refine own_st (T' := s₁) (g' := (mkF m 9 #[.val (.int p1), .val (.int p2)] [])) (fun t k => XS.icmpYes X0.here hx rfl (pc0 := 2) (pc' := 9) rfl (hb hby own_d8_2) rfl (tlt hc2_1).2.2.1 (by decide) (by decide) k) ?_
    refine own_st (T' := s₁) (g' := (mkF m 10 #[.val (.int p1), .val (.int p2)] [(.int p2)])) (fun t k => XS.iloadN X0.here hx rfl (hb hby own_d8_9) rfl k) ?_
    exact K2 _ (if_pos hc2_1).symm
  ·
    refine own_st (T' := s₁) (g' := (mkF m 5 #[.val (.int p1), .val (.int p2)] [])) (fun t k => XS.icmpNo X0.here hx rfl (hb hby own_d8_2) rfl (flt hc2_1).2.2.1 k) ?_
    refine own_st (T' := s₁) (g' := (mkF m 6 #[.val (.int p1), .val (.int p2)] [(.int p1)])) (fun t k => XS.iloadN X0.here hx rfl (hb hby own_d8_5) rfl k) ?_
    refine own_st (T' := s₁) (g' := (mkF m 10 #[.val (.int p1), .val (.int p2)] [(.int p1)])) (fun t k => XS.goto X0.here hx rfl (pc0 := 6) (pc' := 10) rfl (hb hby own_d8_6) (by decide) (by decide) k) ?_
    exact K2 _ (if_neg hc2_1).symm
theorem own_d7_0 : decode jdk_65_method_124_code 0 = .ok (.iload_n 1, 1) := by decide +kernel
theorem own_d7_1 : decode jdk_65_method_124_code 1 = .ok (.aload_n 0, 1) := by decide +kernel
theorem own_d7_2 : decode jdk_65_method_124_code 2 = .ok (.arraylength, 1) := by decide +kernel
theorem own_d7_3 : decode jdk_65_method_124_code 3 = .ok (.if_icmp .ne 11, 3) := by decide +kernel
theorem own_d7_14 : decode jdk_65_method_124_code 14 = .ok (.iload_n 1, 1) := by decide +kernel
theorem own_d7_15 : decode jdk_65_method_124_code 15 = .ok (.newarray .long, 2) := by decide +kernel
theorem own_d7_17 : decode jdk_65_method_124_code 17 = .ok (.astore_n 2, 1) := by decide +kernel
theorem own_d7_18 : decode jdk_65_method_124_code 18 = .ok (.aload_n 0, 1) := by decide +kernel
theorem own_d7_19 : decode jdk_65_method_124_code 19 = .ok (.iconst 0, 1) := by decide +kernel
theorem own_d7_20 : decode jdk_65_method_124_code 20 = .ok (.aload_n 2, 1) := by decide +kernel
theorem own_d7_21 : decode jdk_65_method_124_code 21 = .ok (.iconst 0, 1) := by decide +kernel
theorem own_d7_22 : decode jdk_65_method_124_code 22 = .ok (.aload_n 0, 1) := by decide +kernel
theorem own_d7_23 : decode jdk_65_method_124_code 23 = .ok (.arraylength, 1) := by decide +kernel
theorem own_d7_24 : decode jdk_65_method_124_code 24 = .ok (.iload_n 1, 1) := by decide +kernel
theorem own_d7_25 : decode jdk_65_method_124_code 25 = .ok (.invokestatic 304, 3) := by decide +kernel
theorem own_d7_28 : decode jdk_65_method_124_code 28 = .ok (.invokestatic 150, 3) := by decide +kernel
theorem own_d7_31 : decode jdk_65_method_124_code 31 = .ok (.aload_n 2, 1) := by decide +kernel
theorem own_d7_32 : decode jdk_65_method_124_code 32 = .ok (.areturn, 1) := by decide +kernel
theorem own_pn7 : plainFor (⟨"java/util/Arrays", "copyOf", "([JI)[J"⟩ : MethodName) = true := plainFor_of_name (show plainName "java/util/Arrays" = true by first | (simp [plainName, overriddenIn]; done) | decide +kernel)
theorem own_ef7 (m : MethodId) (a1 : Addr) : entryFrame m #[(.ref a1), (.int (16 : Int32))] 3 = (mkF m 0 #[.val (.ref a1), .val (.int (16 : Int32)), .unset] []) := by first | (simp [entryFrame, mkF, argsToLocals, Value.category]; done) | rfl
set_option maxRecDepth 65536 in
set_option maxHeartbeats 40000000 in
theorem own_rm7 (l : Launch) (Z : State) (a0 : Array Value) (hw : ∀ d ∈ tables_1, d.before a0 Z = true) (h0 : Heap) (n0 : Nat) (Z0 : n0 ≤ h0.size) (a1 : Addr) (z : Int32) (A_a1 : own_LA Z h0 a1 z) (hz : z = 0 ∨ z = 1 ∨ z = 2) :
    own_C l Z (⟨"java/util/Arrays", "copyOf", "([JI)[J"⟩ : MethodName) jdk_65_method_124_code 3 (some (.array .long)) [] ({ frames := 1, cells := 1, slots := 16, locals := 40 } : Room) #[(.ref a1), (.int (16 : Int32))] h0 (own_qc Z h0 n0) := by
  refine own_body own_pn7 (f0 := fun m => (mkF m 0 #[.val (.ref a1), .val (.int (16 : Int32)), .unset] [])) (fun m => own_ef7 m a1) ?_
  intro p e s m below meth c s₁ hx hby hml hown hnm hret hlk hZ X0 e0
  change own_G p e below (own_F (own_qc Z h0 n0) s 1 16) s₁ (mkF m 0 #[.val (.ref a1), .val (.int (16 : Int32)), .unset] [])
  have N0 := Fr.nil n0
  refine own_st (T' := s₁) (g' := (mkF m 1 #[.val (.ref a1), .val (.int (16 : Int32)), .unset] [(.int (16 : Int32))])) (fun t k => XS.iloadN X0.here hx rfl (hb hby own_d7_0) rfl k) ?_
  refine own_st (T' := s₁) (g' := (mkF m 2 #[.val (.ref a1), .val (.int (16 : Int32)), .unset] [(.ref a1), (.int (16 : Int32))])) (fun t k => XS.aloadN X0.here hx rfl (hb hby own_d7_1) rfl rfl k) ?_
  refine own_st (T' := s₁) (g' := (mkF m 3 #[.val (.ref a1), .val (.int (16 : Int32)), .unset] [(.int z), (.int (16 : Int32))])) (A_a1.len X0 hx hZ e0 (g := (mkF m 2 #[.val (.ref a1), .val (.int (16 : Int32)), .unset] [(.ref a1), (.int (16 : Int32))])) rfl rfl (hb hby own_d7_2)) ?_
  have hk1 : ¬ ((16 : Int32) = z) := own_ne16 hz
  refine own_st (T' := s₁) (g' := (mkF m 14 #[.val (.ref a1), .val (.int (16 : Int32)), .unset] [])) (fun t k => XS.icmpYes X0.here hx rfl (pc0 := 3) (pc' := 14) rfl (hb hby own_d7_3) rfl (feq hk1).2 (by decide) (by decide) k) ?_
  refine own_st (T' := s₁) (g' := (mkF m 15 #[.val (.ref a1), .val (.int (16 : Int32)), .unset] [(.int (16 : Int32))])) (fun t k => XS.iloadN X0.here hx rfl (hb hby own_d7_14) rfl k) ?_
  obtain ⟨T2, h2, k2, X2, e2, E2, A2, st2⟩ := newP X0 hx hZ (aty := .long) (hw _ (List.mem_of_getElem? (i := 39) rfl)) e0 (g := (mkF m 15 #[.val (.ref a1), .val (.int (16 : Int32)), .unset] [(.int (16 : Int32))])) rfl (hb hby own_d7_15) rfl (by decide) (cap := 16) (by decide) (by decide) (by decide) (by decide)
  obtain ⟨b2, gb2⟩ : ∃ z, z = h0.size := ⟨_, rfl⟩
  rw [← gb2] at A2 st2
  have ne_a1_b2 : a1 ≠ b2 := by rw [gb2]; exact Nat.ne_of_lt A_a1.lt
  have g_b2 : n0 ≤ b2 := Nat.le_trans Z0 (Nat.le_of_eq gb2.symm)
  have Z2 : n0 ≤ h2.size := Nat.le_trans Z0 E2.1
  have sz_b2 : h0.size ≤ b2 := Nat.le_trans (Keep.refl h0 []).1 (Nat.le_of_eq gb2.symm)
  have K0_2 := (Keep.refl h0 []).ext E2
  have A_a1 := A_a1.ext E2
  have A_b2 := own_LA.new A2 (by decide)
  have X2 : Stand p l e ({ frames := 1, cells := 1, slots := 16, locals := 40 } : Room) s m #[(.ref a1), (.int (16 : Int32))] below meth c T2 [] 1 16 := X2
  refine own_st (T' := T2) (g' := (mkF m 17 #[.val (.ref a1), .val (.int (16 : Int32)), .unset] [(.ref b2)])) st2 ?_
  refine own_st (T' := T2) (g' := (mkF m 18 #[.val (.ref a1), .val (.int (16 : Int32)), .val (.ref b2)] [])) (fun t k => XS.astoreN X2.here hx rfl (hb hby own_d7_17) rfl rfl (l' := #[.val (.ref a1), .val (.int (16 : Int32)), .val (.ref b2)]) rfl k) ?_
  refine own_st (T' := T2) (g' := (mkF m 19 #[.val (.ref a1), .val (.int (16 : Int32)), .val (.ref b2)] [(.ref a1)])) (fun t k => XS.aloadN X2.here hx rfl (hb hby own_d7_18) rfl rfl k) ?_
  refine own_st (T' := T2) (g' := (mkF m 20 #[.val (.ref a1), .val (.int (16 : Int32)), .val (.ref b2)] [(.int (0 : Int32)), (.ref a1)])) (fun t k => XS.iconst X2.here hx rfl (hb hby own_d7_19) k) ?_
  refine own_st (T' := T2) (g' := (mkF m 21 #[.val (.ref a1), .val (.int (16 : Int32)), .val (.ref b2)] [(.ref b2), (.int (0 : Int32)), (.ref a1)])) (fun t k => XS.aloadN X2.here hx rfl (hb hby own_d7_20) rfl rfl k) ?_
  refine own_st (T' := T2) (g' := (mkF m 22 #[.val (.ref a1), .val (.int (16 : Int32)), .val (.ref b2)] [(.int (0 : Int32)), (.ref b2), (.int (0 : Int32)), (.ref a1)])) (fun t k => XS.iconst X2.here hx rfl (hb hby own_d7_21) k) ?_
  refine own_st (T' := T2) (g' := (mkF m 23 #[.val (.ref a1), .val (.int (16 : Int32)), .val (.ref b2)] [(.ref a1), (.int (0 : Int32)), (.ref b2), (.int (0 : Int32)), (.ref a1)])) (fun t k => XS.aloadN X2.here hx rfl (hb hby own_d7_22) rfl rfl k) ?_
  refine own_st (T' := T2) (g' := (mkF m 24 #[.val (.ref a1), .val (.int (16 : Int32)), .val (.ref b2)] [(.int z), (.int (0 : Int32)), (.ref b2), (.int (0 : Int32)), (.ref a1)])) (A_a1.len X2 hx hZ e2 (g := (mkF m 23 #[.val (.ref a1), .val (.int (16 : Int32)), .val (.ref b2)] [(.ref a1), (.int (0 : Int32)), (.ref b2), (.int (0 : Int32)), (.ref a1)])) rfl rfl (hb hby own_d7_23)) ?_
  refine own_st (T' := T2) (g' := (mkF m 25 #[.val (.ref a1), .val (.int (16 : Int32)), .val (.ref b2)] [(.int (16 : Int32)), (.int z), (.int (0 : Int32)), (.ref b2), (.int (0 : Int32)), (.ref a1)])) (fun t k => XS.iloadN X2.here hx rfl (hb hby own_d7_24) rfl k) ?_
  obtain ⟨_, T3, L3, hQ3, X3, st3⟩ := own_callS (y := (⟨"java/lang/Math", "min", "(II)I"⟩ : MethodName)) (argsL := [(.int z), (.int (16 : Int32))]) 4 [(.int (0 : Int32)), (.ref b2), (.int (0 : Int32)), (.ref a1)] (own_rm8 l Z a0 hw h2 n0 Z2 z (16 : Int32) z (own_n16 hz)) X2 hx hZ hown (hw _ (List.mem_of_getElem? (i := 40) rfl)) (hw _ (List.mem_of_getElem? (i := 41) rfl)) (hw _ (List.mem_of_getElem? (i := 27) rfl)) (hw _ (List.mem_of_getElem? (i := 42) rfl)) (by decide) (by decide) (by decide) (by decide) (by decide) e2 (g := (mkF m 25 #[.val (.ref a1), .val (.int (16 : Int32)), .val (.ref b2)] [(.int (16 : Int32)), (.int z), (.int (0 : Int32)), (.ref b2), (.int (0 : Int32)), (.ref a1)])) rfl (by rw [hml]; rfl) (lenOf own_pd0 rfl) rfl (by show 2 * 0 + _ ≤ _; exact Nat.le_of_eq rfl) (hb hby own_d7_25)
  obtain ⟨rfl, e3, rfl⟩ := hQ3
  have X3 : Stand p l e ({ frames := 1, cells := 1, slots := 16, locals := 40 } : Room) s m #[(.ref a1), (.int (16 : Int32))] below meth c T3 [] 1 16 := X3
  refine own_st (T' := T3) (g' := (mkF m 28 #[.val (.ref a1), .val (.int (16 : Int32)), .val (.ref b2)] [(.int z), (.int (0 : Int32)), (.ref b2), (.int (0 : Int32)), (.ref a1)])) st3 ?_
  obtain ⟨T4, h4, lc4, X4, e4, N4, Kc4, An4, st4⟩ := A_a1.cp A_b2 X3 hx hZ hown (hw _ (List.mem_of_getElem? (i := 43) rfl)) (hw _ (List.mem_of_getElem? (i := 46) rfl)) (hw _ (List.mem_of_getElem? (i := 44) rfl)) (hw _ (List.mem_of_getElem? (i := 45) rfl)) e3 (own_le16 hz) N0 g_b2 (g := (mkF m 28 #[.val (.ref a1), .val (.int (16 : Int32)), .val (.ref b2)] [(.int z), (.int (0 : Int32)), (.ref b2), (.int (0 : Int32)), (.ref a1)])) rfl (by rw [hml]; rfl) rfl (hb hby own_d7_28) (by decide) (Nat.le_of_eq rfl) (by decide)
  have K0_4 := K0_2.trans Kc4 (allS (Or.inr sz_b2) all0)
  have A_a1 := A_a1.keep Kc4 (ninS ne_a1_b2 nin0)
  have A_b2 := An4
  have Z4 : n0 ≤ h4.size := Nat.le_trans Z2 Kc4.1
  refine own_st (T' := T4) (g' := (mkF m 31 #[.val (.ref a1), .val (.int (16 : Int32)), .val (.ref b2)] [])) st4 ?_
  refine own_st (T' := T4) (g' := (mkF m 32 #[.val (.ref a1), .val (.int (16 : Int32)), .val (.ref b2)] [(.ref b2)])) (fun t k => XS.aloadN X4.here hx rfl (hb hby own_d7_31) rfl rfl k) ?_
  exact own_retA X4 hx hlk hret (hb hby own_d7_32) (by decide) (by decide) rfl (by rw [e4]; exact ⟨b2, rfl, N4, own_ext K0_4, sz_b2, A_b2⟩)
theorem own_d1_0 : decode prog_26_method_1_code 0 = .ok (.aload_n 0, 1) := by decide +kernel
theorem own_d1_1 : decode prog_26_method_1_code 1 = .ok (.invokespecial 1, 3) := by decide +kernel
theorem own_d1_4 : decode prog_26_method_1_code 4 = .ok (.aload_n 0, 1) := by decide +kernel
theorem own_d1_5 : decode prog_26_method_1_code 5 = .ok (.getstatic 7, 3) := by decide +kernel
theorem own_d1_8 : decode prog_26_method_1_code 8 = .ok (.putfield 13, 3) := by decide +kernel
theorem own_d1_11 : decode prog_26_method_1_code 11 = .ok (.return_, 1) := by decide +kernel
theorem own_pn1 : plainFor (⟨"com/example/seriate/seriate/LongList", "<init>", "()V"⟩ : MethodName) = true := plainFor_of_name (show plainName "com/example/seriate/seriate/LongList" = true by first | (simp [plainName, overriddenIn]; done) | decide +kernel)
theorem own_ef1 (m : MethodId) (a1 : Addr) : entryFrame m #[(.ref a1)] 1 = (mkF m 0 #[.val (.ref a1)] []) := by first | (simp [entryFrame, mkF, argsToLocals, Value.category]; done) | rfl
set_option maxRecDepth 65536 in
set_option maxHeartbeats 40000000 in
theorem own_rm1 (l : Launch) (Z : State) (a0 : Array Value) (hw : ∀ d ∈ tables_1, d.before a0 Z = true) (h0 : Heap) (n0 : Nat) (Z0 : n0 ≤ h0.size) (a1 : Addr) (O : Old Z n0 h0) (s_NO : Addr) (S_NO : Sta Z Z.heap "com/example/seriate/seriate/LongList" "NO_VALUES" "[J" (.ref s_NO)) (A_NO : own_LA Z Z.heap s_NO 0) (g_a1 : n0 ≤ a1) (E_a1 : Exa Z h0 a1 "com/example/seriate/seriate/LongList") (u : Value) (F_values_a1 : Fld Z h0 a1 "com/example/seriate/seriate/LongList" "values" "[J" u) (F_size_a1 : Fld Z h0 a1 "com/example/seriate/seriate/LongList" "size" "I" (.int 0)) :
    own_C l Z (⟨"com/example/seriate/seriate/LongList", "<init>", "()V"⟩ : MethodName) prog_26_method_1_code 1 none [] ({ frames := 1, cells := 0, slots := 0, locals := 12 } : Room) #[(.ref a1)] h0 (own_ql Z n0 a1 0 0) := by
  refine own_body own_pn1 (f0 := fun m => (mkF m 0 #[.val (.ref a1)] [])) (fun m => own_ef1 m a1) ?_
  intro p e s m below meth c s₁ hx hby hml hown hnm hret hlk hZ X0 e0
  change own_G p e below (own_F (own_ql Z n0 a1 0 0) s 0 0) s₁ (mkF m 0 #[.val (.ref a1)] [])
  have N0 := Fr.nil n0
  refine own_st (T' := s₁) (g' := (mkF m 1 #[.val (.ref a1)] [(.ref a1)])) (fun t k => XS.aloadN X0.here hx rfl (hb hby own_d1_0) rfl rfl k) ?_
  obtain ⟨T1, X1, e1, st1⟩ := initO X0 hx hZ hown (hw _ (List.mem_of_getElem? (i := 6) rfl)) (hw _ (List.mem_of_getElem? (i := 7) rfl)) (hw _ (List.mem_of_getElem? (i := 8) rfl)) e0 (g := (mkF m 1 #[.val (.ref a1)] [(.ref a1)])) rfl (by rw [hml]; rfl) rfl (hb hby own_d1_1) (by decide) (W := 0) (by show 2 * 0 + _ ≤ _; exact Nat.le_of_eq rfl) (by decide)
  refine own_st (T' := T1) (g' := (mkF m 4 #[.val (.ref a1)] [])) st1 ?_
  refine own_st (T' := T1) (g' := (mkF m 5 #[.val (.ref a1)] [(.ref a1)])) (fun t k => XS.aloadN X1.here hx rfl (hb hby own_d1_4) rfl rfl k) ?_
  obtain ⟨T2, X2, e2, st2⟩ := getS2 X1 hx hZ hown (host := "") (Or.inl (hw _ (List.mem_of_getElem? (i := 9) rfl))) Via.refl e1 (S_NO.ext O.2) (g := (mkF m 5 #[.val (.ref a1)] [(.ref a1)])) rfl (hb hby own_d1_5)
  refine own_st (T' := T2) (g' := (mkF m 8 #[.val (.ref a1)] [(.ref s_NO), (.ref a1)])) st2 ?_
  obtain ⟨T3, h3, X3, e3, W3, st3⟩ := putF X2 hx hZ hown (host := "") (Or.inl (hw _ (List.mem_of_getElem? (i := 11) rfl))) Via.refl e2 F_values_a1 E_a1 (Or.inl (hw _ (List.mem_of_getElem? (i := 12) rfl))) (hw _ (List.mem_of_getElem? (i := 1) rfl)) (ty := (.array .long)) (by decide) rfl rfl (g := (mkF m 8 #[.val (.ref a1)] [(.ref s_NO), (.ref a1)])) rfl rfl (hb hby own_d1_8)
  have O := O.wr W3 g_a1
  have E_a1 := E_a1.wr W3
  have F_values_a1 := F_values_a1.same W3
  have F_size_a1 := F_size_a1.other W3 (Or.inr (slot_ne (Or.inl (hw _ (List.mem_of_getElem? (i := 19) rfl))) (Or.inl (hw _ (List.mem_of_getElem? (i := 12) rfl))) (by decide) (t := .int) (t' := (.array .long)) (by decide) (by decide)))
  have N3 := Fr.snoc X3 N0 g_a1
  generalize hlc3 : ([] ++ [(⟨a1, Jvm.RoadKit.slotOf Z "com/example/seriate/seriate/LongList" "values" "[J"⟩ : Loc)] : List Loc) = lc3 at X3 N3
  have Z3 : n0 ≤ h3.size := Nat.le_trans Z0 (Keep.of_wr W3).1
  refine own_st (T' := T3) (g' := (mkF m 11 #[.val (.ref a1)] [])) st3 ?_
  exact own_retV X3 hx hlk hret (hb hby own_d1_11) (by decide) (by decide) (by rw [e3]; exact ⟨rfl, N3, O, ⟨s_NO, E_a1, F_size_a1, F_values_a1, A_NO.ext O.2, Nat.ne_of_lt (Nat.lt_of_lt_of_le (O.1 ▸ A_NO.lt) g_a1), Or.inl rfl⟩⟩)
theorem own_d3_0 : decode prog_26_method_5_code 0 = .ok (.aload_n 0, 1) := by decide +kernel
theorem own_d3_1 : decode prog_26_method_5_code 1 = .ok (.iconst 0, 1) := by decide +kernel
theorem own_d3_2 : decode prog_26_method_5_code 2 = .ok (.putfield 16, 3) := by decide +kernel
theorem own_d3_5 : decode prog_26_method_5_code 5 = .ok (.aload_n 0, 1) := by decide +kernel
theorem own_d3_6 : decode prog_26_method_5_code 6 = .ok (.getfield 13, 3) := by decide +kernel
theorem own_d3_9 : decode prog_26_method_5_code 9 = .ok (.arraylength, 1) := by decide +kernel
theorem own_d3_10 : decode prog_26_method_5_code 10 = .ok (.iload_n 1, 1) := by decide +kernel
theorem own_d3_11 : decode prog_26_method_5_code 11 = .ok (.if_icmp .ge 17, 3) := by decide +kernel
theorem own_d3_14 : decode prog_26_method_5_code 14 = .ok (.aload_n 0, 1) := by decide +kernel
theorem own_d3_15 : decode prog_26_method_5_code 15 = .ok (.getstatic 7, 3) := by decide +kernel
theorem own_d3_18 : decode prog_26_method_5_code 18 = .ok (.putfield 13, 3) := by decide +kernel
theorem own_d3_21 : decode prog_26_method_5_code 21 = .ok (.aload_n 0, 1) := by decide +kernel
theorem own_d3_22 : decode prog_26_method_5_code 22 = .ok (.iload_n 1, 1) := by decide +kernel
theorem own_d3_23 : decode prog_26_method_5_code 23 = .ok (.newarray .long, 2) := by decide +kernel
theorem own_d3_25 : decode prog_26_method_5_code 25 = .ok (.putfield 13, 3) := by decide +kernel
theorem own_d3_28 : decode prog_26_method_5_code 28 = .ok (.return_, 1) := by decide +kernel
theorem own_pn3 : plainFor (⟨"com/example/seriate/seriate/LongList", "clear", "(I)V"⟩ : MethodName) = true := plainFor_of_name (show plainName "com/example/seriate/seriate/LongList" = true by first | (simp [plainName, overriddenIn]; done) | decide +kernel)
theorem own_ef3 (m : MethodId) (a1 : Addr) (p2 : Int32) : entryFrame m #[(.ref a1), (.int p2)] 2 = (mkF m 0 #[.val (.ref a1), .val (.int p2)] []) := by first | (simp [entryFrame, mkF, argsToLocals, Value.category]; done) | rfl
set_option maxRecDepth 65536 in
set_option maxHeartbeats 40000000 in
theorem own_rm3 (l : Launch) (Z : State) (a0 : Array Value) (hw : ∀ d ∈ tables_1, d.before a0 Z = true) (h0 : Heap) (n0 : Nat) (Z0 : n0 ≤ h0.size) (a1 : Addr) (p2 : Int32) (O : Old Z n0 h0) (s_NO : Addr) (S_NO : Sta Z Z.heap "com/example/seriate/seriate/LongList" "NO_VALUES" "[J" (.ref s_NO)) (A_NO : own_LA Z Z.heap s_NO 0) (g_a1 : n0 ≤ a1) (hp : p2 < 40) (n z : Int32) (L0 : own_LL Z n0 h0 a1 n z) :
    own_C l Z (⟨"com/example/seriate/seriate/LongList", "clear", "(I)V"⟩ : MethodName) prog_26_method_5_code 2 none [] ({ frames := 0, cells := 1, slots := 39, locals := 0 } : Room) #[(.ref a1), (.int p2)] h0 (own_ql Z n0 a1 0 (own_cl z p2)) := by
  refine own_body own_pn3 (f0 := fun m => (mkF m 0 #[.val (.ref a1), .val (.int p2)] [])) (fun m => own_ef3 m a1 p2) ?_
  intro p e s m below meth c s₁ hx hby hml hown hnm hret hlk hZ X0 e0
  change own_G p e below (own_F (own_ql Z n0 a1 0 (own_cl z p2)) s 1 39) s₁ (mkF m 0 #[.val (.ref a1), .val (.int p2)] [])
  have N0 := Fr.nil n0
  obtain ⟨va, E_a1, F_size_a1, F_values_a1, A_va, ne_va_a1, gva⟩ := L0
  refine own_st (T' := s₁) (g' := (mkF m 1 #[.val (.ref a1), .val (.int p2)] [(.ref a1)])) (fun t k => XS.aloadN X0.here hx rfl (hb hby own_d3_0) rfl rfl k) ?_
  refine own_st (T' := s₁) (g' := (mkF m 2 #[.val (.ref a1), .val (.int p2)] [(.int (0 : Int32)), (.ref a1)])) (fun t k => XS.iconst X0.here hx rfl (hb hby own_d3_1) k) ?_
  obtain ⟨T1, h1, X1, e1, W1, st1⟩ := putF X0 hx hZ hown (host := "") (Or.inl (hw _ (List.mem_of_getElem? (i := 18) rfl))) Via.refl e0 F_size_a1 E_a1 (Or.inl (hw _ (List.mem_of_getElem? (i := 19) rfl))) (hw _ (List.mem_of_getElem? (i := 1) rfl)) (ty := .int) (by decide) rfl rfl (g := (mkF m 2 #[.val (.ref a1), .val (.int p2)] [(.int (0 : Int32)), (.ref a1)])) rfl rfl (hb hby own_d3_2)
  have O := O.wr W1 g_a1
  have E_a1 := E_a1.wr W1
  have F_size_a1 := F_size_a1.same W1
  have F_values_a1 := F_values_a1.other W1 (Or.inr (slot_ne (Or.inl (hw _ (List.mem_of_getElem? (i := 12) rfl))) (Or.inl (hw _ (List.mem_of_getElem? (i := 19) rfl))) (by decide) (t := (.array .long)) (t' := .int) (by decide) (by decide)))
  have A_va := A_va.other W1 ne_va_a1
  have N1 := Fr.snoc X1 N0 g_a1
  generalize hlc1 : ([] ++ [(⟨a1, Jvm.RoadKit.slotOf Z "com/example/seriate/seriate/LongList" "size" "I"⟩ : Loc)] : List Loc) = lc1 at X1 N1
  have Z1 : n0 ≤ h1.size := Nat.le_trans Z0 (Keep.of_wr W1).1
  refine own_st (T' := T1) (g' := (mkF m 5 #[.val (.ref a1), .val (.int p2)] [])) st1 ?_
  refine own_st (T' := T1) (g' := (mkF m 6 #[.val (.ref a1), .val (.int p2)] [(.ref a1)])) (fun t k => XS.aloadN X1.here hx rfl (hb hby own_d3_5) rfl rfl k) ?_
  obtain ⟨T2, X2, e2, st2⟩ := getF X1 hx hZ hown (host := "") (Or.inl (hw _ (List.mem_of_getElem? (i := 11) rfl))) Via.refl e1 F_values_a1 (g := (mkF m 6 #[.val (.ref a1), .val (.int p2)] [(.ref a1)])) rfl rfl (hb hby own_d3_6)
  refine own_st (T' := T2) (g' := (mkF m 9 #[.val (.ref a1), .val (.int p2)] [(.ref va)])) st2 ?_
  refine own_st (T' := T2) (g' := (mkF m 10 #[.val (.ref a1), .val (.int p2)] [(.int z)])) (A_va.len X2 hx hZ e2 (g := (mkF m 9 #[.val (.ref a1), .val (.int p2)] [(.ref va)])) rfl rfl (hb hby own_d3_9)) ?_
  refine own_st (T' := T2) (g' := (mkF m 11 #[.val (.ref a1), .val (.int p2)] [(.int p2), (.int z)])) (fun t k => XS.iloadN X2.here hx rfl (hb hby own_d3_10) rfl k) ?_
  by_cases hc11_3 : z < p2
  ·
    refine own_st (T' := T2) (g' := (mkF m 14 #[.val (.ref a1), .val (.int p2)] [])) (fun t k => XS.icmpNo X2.here hx rfl (hb hby own_d3_11) rfl (tlt hc11_3).2.1 k) ?_
    refine own_st (T' := T2) (g' := (mkF m 15 #[.val (.ref a1), .val (.int p2)] [(.ref a1)])) (fun t k => XS.aloadN X2.here hx rfl (hb hby own_d3_14) rfl rfl k) ?_
    obtain ⟨T4, X4, e4, st4⟩ := getS2 X2 hx hZ hown (host := "") (Or.inl (hw _ (List.mem_of_getElem? (i := 9) rfl))) Via.refl e2 (S_NO.ext O.2) (g := (mkF m 15 #[.val (.ref a1), .val (.int p2)] [(.ref a1)])) rfl (hb hby own_d3_15)
    refine own_st (T' := T4) (g' := (mkF m 18 #[.val (.ref a1), .val (.int p2)] [(.ref s_NO), (.ref a1)])) st4 ?_
    obtain ⟨T5, h5, X5, e5, W5, st5⟩ := putF X4 hx hZ hown (host := "") (Or.inl (hw _ (List.mem_of_getElem? (i := 11) rfl))) Via.refl e4 F_values_a1 E_a1 (Or.inl (hw _ (List.mem_of_getElem? (i := 12) rfl))) (hw _ (List.mem_of_getElem? (i := 1) rfl)) (ty := (.array .long)) (by decide) rfl rfl (g := (mkF m 18 #[.val (.ref a1), .val (.int p2)] [(.ref s_NO), (.ref a1)])) rfl rfl (hb hby own_d3_18)
    have O := O.wr W5 g_a1
    have E_a1 := E_a1.wr W5
    have F_size_a1 := F_size_a1.other W5 (Or.inr (slot_ne (Or.inl (hw _ (List.mem_of_getElem? (i := 19) rfl))) (Or.inl (hw _ (List.mem_of_getElem? (i := 12) rfl))) (by decide) (t := .int) (t' := (.array .long)) (by decide) (by decide)))
    have F_values_a1 := F_values_a1.same W5
    have A_va := A_va.other W5 ne_va_a1
    have N5 := Fr.snoc X5 N1 g_a1
    generalize hlc5 : (lc1 ++ [(⟨a1, Jvm.RoadKit.slotOf Z "com/example/seriate/seriate/LongList" "values" "[J"⟩ : Loc)] : List Loc) = lc5 at X5 N5
    have Z5 : n0 ≤ h5.size := Nat.le_trans Z1 (Keep.of_wr W5).1
    refine own_st (T' := T5) (g' := (mkF m 21 #[.val (.ref a1), .val (.int p2)] [])) st5 ?_
    refine own_st (T' := T5) (g' := (mkF m 22 #[.val (.ref a1), .val (.int p2)] [(.ref a1)])) (fun t k => XS.aloadN X5.here hx rfl (hb hby own_d3_21) rfl rfl k) ?_
    refine own_st (T' := T5) (g' := (mkF m 23 #[.val (.ref a1), .val (.int p2)] [(.int p2), (.ref a1)])) (fun t k => XS.iloadN X5.here hx rfl (hb hby own_d3_22) rfl k) ?_
    obtain ⟨T6, h6, k6, X6, e6, E6, A6, st6⟩ := newP X5 hx hZ (aty := .long) (hw _ (List.mem_of_getElem? (i := 39) rfl)) e5 (g := (mkF m 23 #[.val (.ref a1), .val (.int p2)] [(.int p2), (.ref a1)])) rfl (hb hby own_d3_23) rfl (own_cap A_va.nn hc11_3 hp).1 (cap := 39) (own_cap A_va.nn hc11_3 hp).2 (by decide) (by decide) (by decide)
    obtain ⟨b6, gb6⟩ : ∃ z, z = h5.size := ⟨_, rfl⟩
    rw [← gb6] at A6 st6
    have ne_a1_b6 : a1 ≠ b6 := by rw [gb6]; exact Nat.ne_of_lt E_a1.lt
    have ne_va_b6 : va ≠ b6 := by rw [gb6]; exact Nat.ne_of_lt A_va.lt
    have g_b6 : n0 ≤ b6 := Nat.le_trans Z5 (Nat.le_of_eq gb6.symm)
    have Z6 : n0 ≤ h6.size := Nat.le_trans Z5 E6.1
    have O := O.ext E6
    have E_a1 := E_a1.ext E6
    have F_size_a1 := F_size_a1.ext E6
    have F_values_a1 := F_values_a1.ext E6
    have A_va := A_va.ext E6
    have A_b6 := own_LA.new A6 (own_cap A_va.nn hc11_3 hp).1
    have X6 : Stand p l e ({ frames := 0, cells := 1, slots := 39, locals := 0 } : Room) s m #[(.ref a1), (.int p2)] below meth c T6 lc5 1 39 := X6
    refine own_st (T' := T6) (g' := (mkF m 25 #[.val (.ref a1), .val (.int p2)] [(.ref b6), (.ref a1)])) st6 ?_
    obtain ⟨T7, h7, X7, e7, W7, st7⟩ := putF X6 hx hZ hown (host := "") (Or.inl (hw _ (List.mem_of_getElem? (i := 11) rfl))) Via.refl e6 F_values_a1 E_a1 (Or.inl (hw _ (List.mem_of_getElem? (i := 12) rfl))) (hw _ (List.mem_of_getElem? (i := 1) rfl)) (ty := (.array .long)) (by decide) rfl rfl (g := (mkF m 25 #[.val (.ref a1), .val (.int p2)] [(.ref b6), (.ref a1)])) rfl rfl (hb hby own_d3_25)
    have O := O.wr W7 g_a1
    have E_a1 := E_a1.wr W7
    have F_size_a1 := F_size_a1.other W7 (Or.inr (slot_ne (Or.inl (hw _ (List.mem_of_getElem? (i := 19) rfl))) (Or.inl (hw _ (List.mem_of_getElem? (i := 12) rfl))) (by decide) (t := .int) (t' := (.array .long)) (by decide) (by decide)))
    have F_values_a1 := F_values_a1.same W7
    have A_va := A_va.other W7 ne_va_a1
    have A_b6 := A_b6.other W7 (Ne.symm ne_a1_b6)
    have N7 := Fr.snoc X7 N5 g_a1
    generalize hlc7 : (lc5 ++ [(⟨a1, Jvm.RoadKit.slotOf Z "com/example/seriate/seriate/LongList" "values" "[J"⟩ : Loc)] : List Loc) = lc7 at X7 N7
    have Z7 : n0 ≤ h7.size := Nat.le_trans Z6 (Keep.of_wr W7).1
    refine own_st (T' := T7) (g' := (mkF m 28 #[.val (.ref a1), .val (.int p2)] [])) st7 ?_
    exact own_retV X7 hx hlk hret (hb hby own_d3_28) (by decide) (by decide) (by rw [e7]; exact ⟨rfl, N7, O, (by unfold own_cl; simp only [hc11_3, if_true, if_false]; exact ⟨b6, E_a1, F_size_a1, F_values_a1, A_b6, (Ne.symm ne_a1_b6), Or.inr g_b6⟩)⟩)
  ·
    refine own_st (T' := T2) (g' := (mkF m 28 #[.val (.ref a1), .val (.int p2)] [])) (fun t k => XS.icmpYes X2.here hx rfl (pc0 := 11) (pc' := 28) rfl (hb hby own_d3_11) rfl (flt hc11_3).2.1 (by decide) (by decide) k) ?_
    exact own_retV X2 hx hlk hret (hb hby own_d3_28) (by decide) (by decide) (by rw [e2]; exact ⟨rfl, N1, O, (by unfold own_cl; simp only [hc11_3, if_true, if_false]; exact ⟨va, E_a1, F_size_a1, F_values_a1, A_va, ne_va_a1, gva⟩)⟩)
theorem own_d4_0 : decode prog_26_method_3_code 0 = .ok (.aload_n 0, 1) := by decide +kernel
theorem own_d4_1 : decode prog_26_method_3_code 1 = .ok (.getfield 13, 3) := by decide +kernel
theorem own_d4_4 : decode prog_26_method_3_code 4 = .ok (.arraylength, 1) := by decide +kernel
theorem own_d4_5 : decode prog_26_method_3_code 5 = .ok (.ireturn, 1) := by decide +kernel
theorem own_pn4 : plainFor (⟨"com/example/seriate/seriate/LongList", "capacity", "()I"⟩ : MethodName) = true := plainFor_of_name (show plainName "com/example/seriate/seriate/LongList" = true by first | (simp [plainName, overriddenIn]; done) | decide +kernel)
theorem own_ef4 (m : MethodId) (a1 : Addr) : entryFrame m #[(.ref a1)] 1 = (mkF m 0 #[.val (.ref a1)] []) := by first | (simp [entryFrame, mkF, argsToLocals, Value.category]; done) | rfl
set_option maxRecDepth 65536 in
set_option maxHeartbeats 40000000 in
theorem own_rm4 (l : Launch) (Z : State) (a0 : Array Value) (hw : ∀ d ∈ tables_1, d.before a0 Z = true) (h0 : Heap) (n0 : Nat) (Z0 : n0 ≤ h0.size) (a1 : Addr) (n z : Int32) (L0 : own_LL Z n0 h0 a1 n z) :
    own_C l Z (⟨"com/example/seriate/seriate/LongList", "capacity", "()I"⟩ : MethodName) prog_26_method_3_code 1 (some .int) [] ({ frames := 0, cells := 0, slots := 0, locals := 0 } : Room) #[(.ref a1)] h0 (own_P (.int z) h0) := by
  refine own_body own_pn4 (f0 := fun m => (mkF m 0 #[.val (.ref a1)] [])) (fun m => own_ef4 m a1) ?_
  intro p e s m below meth c s₁ hx hby hml hown hnm hret hlk hZ X0 e0
  change own_G p e below (own_F (own_P (.int z) h0) s 0 0) s₁ (mkF m 0 #[.val (.ref a1)] [])
  have N0 := Fr.nil n0
  obtain ⟨va, E_a1, F_size_a1, F_values_a1, A_va, ne_va_a1, gva⟩ := L0
  refine own_st (T' := s₁) (g' := (mkF m 1 #[.val (.ref a1)] [(.ref a1)])) (fun t k => XS.aloadN X0.here hx rfl (hb hby own_d4_0) rfl rfl k) ?_
  obtain ⟨T1, X1, e1, st1⟩ := getF X0 hx hZ hown (host := "") (Or.inl (hw _ (List.mem_of_getElem? (i := 11) rfl))) Via.refl e0 F_values_a1 (g := (mkF m 1 #[.val (.ref a1)] [(.ref a1)])) rfl rfl (hb hby own_d4_1)
  refine own_st (T' := T1) (g' := (mkF m 4 #[.val (.ref a1)] [(.ref va)])) st1 ?_
  refine own_st (T' := T1) (g' := (mkF m 5 #[.val (.ref a1)] [(.int z)])) (A_va.len X1 hx hZ e1 (g := (mkF m 4 #[.val (.ref a1)] [(.ref va)])) rfl rfl (hb hby own_d4_4)) ?_
  exact own_retI X1 hx hlk hret (hb hby own_d4_5) (by decide) (by decide) ⟨rfl, e1, rfl⟩
theorem own_d9_0 : decode prog_26_method_2_code 0 = .ok (.aload_n 0, 1) := by decide +kernel
theorem own_d9_1 : decode prog_26_method_2_code 1 = .ok (.getfield 16, 3) := by decide +kernel
theorem own_d9_4 : decode prog_26_method_2_code 4 = .ok (.ireturn, 1) := by decide +kernel
theorem own_pn9 : plainFor (⟨"com/example/seriate/seriate/LongList", "size", "()I"⟩ : MethodName) = true := plainFor_of_name (show plainName "com/example/seriate/seriate/LongList" = true by first | (simp [plainName, overriddenIn]; done) | decide +kernel)
theorem own_ef9 (m : MethodId) (a1 : Addr) : entryFrame m #[(.ref a1)] 1 = (mkF m 0 #[.val (.ref a1)] []) := by first | (simp [entryFrame, mkF, argsToLocals, Value.category]; done) | rfl
set_option maxRecDepth 65536 in
set_option maxHeartbeats 40000000 in
theorem own_rm9 (l : Launch) (Z : State) (a0 : Array Value) (hw : ∀ d ∈ tables_1, d.before a0 Z = true) (h0 : Heap) (n0 : Nat) (Z0 : n0 ≤ h0.size) (a1 : Addr) (n z : Int32) (L0 : own_LL Z n0 h0 a1 n z) :
    own_C l Z (⟨"com/example/seriate/seriate/LongList", "size", "()I"⟩ : MethodName) prog_26_method_2_code 1 (some .int) [] ({ frames := 0, cells := 0, slots := 0, locals := 0 } : Room) #[(.ref a1)] h0 (own_P (.int n) h0) := by
  refine own_body own_pn9 (f0 := fun m => (mkF m 0 #[.val (.ref a1)] [])) (fun m => own_ef9 m a1) ?_
  intro p e s m below meth c s₁ hx hby hml hown hnm hret hlk hZ X0 e0
  change own_G p e below (own_F (own_P (.int n) h0) s 0 0) s₁ (mkF m 0 #[.val (.ref a1)] [])
  have N0 := Fr.nil n0
  obtain ⟨va, E_a1, F_size_a1, F_values_a1, A_va, ne_va_a1, gva⟩ := L0
  refine own_st (T' := s₁) (g' := (mkF m 1 #[.val (.ref a1)] [(.ref a1)])) (fun t k => XS.aloadN X0.here hx rfl (hb hby own_d9_0) rfl rfl k) ?_
  obtain ⟨T1, X1, e1, st1⟩ := getF X0 hx hZ hown (host := "") (Or.inl (hw _ (List.mem_of_getElem? (i := 18) rfl))) Via.refl e0 F_size_a1 (g := (mkF m 1 #[.val (.ref a1)] [(.ref a1)])) rfl rfl (hb hby own_d9_1)
  refine own_st (T' := T1) (g' := (mkF m 4 #[.val (.ref a1)] [(.int n)])) st1 ?_
  exact own_retI X1 hx hlk hret (hb hby own_d9_4) (by decide) (by decide) ⟨rfl, e1, rfl⟩
theorem own_d6_0 : decode prog_26_method_6_code 0 = .ok (.aload_n 0, 1) := by decide +kernel
theorem own_d6_1 : decode prog_26_method_6_code 1 = .ok (.getfield 16, 3) := by decide +kernel
theorem own_d6_4 : decode prog_26_method_6_code 4 = .ok (.aload_n 0, 1) := by decide +kernel
theorem own_d6_5 : decode prog_26_method_6_code 5 = .ok (.getfield 13, 3) := by decide +kernel
theorem own_d6_8 : decode prog_26_method_6_code 8 = .ok (.arraylength, 1) := by decide +kernel
theorem own_d6_9 : decode prog_26_method_6_code 9 = .ok (.if_icmp .ne 25, 3) := by decide +kernel
theorem own_d6_12 : decode prog_26_method_6_code 12 = .ok (.aload_n 0, 1) := by decide +kernel
theorem own_d6_13 : decode prog_26_method_6_code 13 = .ok (.aload_n 0, 1) := by decide +kernel
theorem own_d6_14 : decode prog_26_method_6_code 14 = .ok (.getfield 13, 3) := by decide +kernel
theorem own_d6_17 : decode prog_26_method_6_code 17 = .ok (.bipush 16, 2) := by decide +kernel
theorem own_d6_19 : decode prog_26_method_6_code 19 = .ok (.aload_n 0, 1) := by decide +kernel
theorem own_d6_20 : decode prog_26_method_6_code 20 = .ok (.getfield 16, 3) := by decide +kernel
theorem own_d6_23 : decode prog_26_method_6_code 23 = .ok (.iconst 2, 1) := by decide +kernel
theorem own_d6_24 : decode prog_26_method_6_code 24 = .ok (.imul, 1) := by decide +kernel
theorem own_d6_25 : decode prog_26_method_6_code 25 = .ok (.invokestatic 25, 3) := by decide +kernel
theorem own_d6_28 : decode prog_26_method_6_code 28 = .ok (.invokestatic 31, 3) := by decide +kernel
theorem own_d6_31 : decode prog_26_method_6_code 31 = .ok (.putfield 13, 3) := by decide +kernel
theorem own_d6_34 : decode prog_26_method_6_code 34 = .ok (.aload_n 0, 1) := by decide +kernel
theorem own_d6_35 : decode prog_26_method_6_code 35 = .ok (.getfield 13, 3) := by decide +kernel
theorem own_d6_38 : decode prog_26_method_6_code 38 = .ok (.aload_n 0, 1) := by decide +kernel
theorem own_d6_39 : decode prog_26_method_6_code 39 = .ok (.dup, 1) := by decide +kernel
theorem own_d6_40 : decode prog_26_method_6_code 40 = .ok (.getfield 16, 3) := by decide +kernel
theorem own_d6_43 : decode prog_26_method_6_code 43 = .ok (.dup_x1, 1) := by decide +kernel
theorem own_d6_44 : decode prog_26_method_6_code 44 = .ok (.iconst 1, 1) := by decide +kernel
theorem own_d6_45 : decode prog_26_method_6_code 45 = .ok (.iadd, 1) := by decide +kernel
theorem own_d6_46 : decode prog_26_method_6_code 46 = .ok (.putfield 16, 3) := by decide +kernel
theorem own_d6_49 : decode prog_26_method_6_code 49 = .ok (.lload_n 1, 1) := by decide +kernel
theorem own_d6_50 : decode prog_26_method_6_code 50 = .ok (.lastore, 1) := by decide +kernel
theorem own_d6_51 : decode prog_26_method_6_code 51 = .ok (.return_, 1) := by decide +kernel
theorem own_pn6 : plainFor (⟨"com/example/seriate/seriate/LongList", "add", "(J)V"⟩ : MethodName) = true := plainFor_of_name (show plainName "com/example/seriate/seriate/LongList" = true by first | (simp [plainName, overriddenIn]; done) | decide +kernel)
theorem own_ef6 (m : MethodId) (a1 : Addr) (q2 : Int64) : entryFrame m #[(.ref a1), (.long q2)] 3 = (mkF m 0 #[.val (.ref a1), .val (.long q2), .second] []) := by first | (simp [entryFrame, mkF, argsToLocals, Value.category]; done) | rfl
set_option maxRecDepth 65536 in
set_option maxHeartbeats 40000000 in
theorem own_rm6 (l : Launch) (Z : State) (a0 : Array Value) (hw : ∀ d ∈ tables_1, d.before a0 Z = true) (h0 : Heap) (n0 : Nat) (Z0 : n0 ≤ h0.size) (a1 : Addr) (q2 : Int64) (O : Old Z n0 h0) (s_NO : Addr) (S_NO : Sta Z Z.heap "com/example/seriate/seriate/LongList" "NO_VALUES" "[J" (.ref s_NO)) (A_NO : own_LA Z Z.heap s_NO 0) (g_a1 : n0 ≤ a1) (n z : Int32) (L0 : own_LL Z n0 h0 a1 n z) (hn0 : ¬ n < 0) (hn3 : n = 0 ∨ n = 1 ∨ n = 2) (hnz : ¬ z < n) :
    own_C l Z (⟨"com/example/seriate/seriate/LongList", "add", "(J)V"⟩ : MethodName) prog_26_method_6_code 3 none [] ({ frames := 2, cells := 1, slots := 16, locals := 55 } : Room) #[(.ref a1), (.long q2)] h0 (own_ql Z n0 a1 (n + 1) (own_ad n z)) := by
  refine own_body own_pn6 (f0 := fun m => (mkF m 0 #[.val (.ref a1), .val (.long q2), .second] [])) (fun m => own_ef6 m a1 q2) ?_
  intro p e s m below meth c s₁ hx hby hml hown hnm hret hlk hZ X0 e0
  change own_G p e below (own_F (own_ql Z n0 a1 (n + 1) (own_ad n z)) s 1 16) s₁ (mkF m 0 #[.val (.ref a1), .val (.long q2), .second] [])
  have N0 := Fr.nil n0
  obtain ⟨va, E_a1, F_size_a1, F_values_a1, A_va, ne_va_a1, gva⟩ := L0
  have Ea1lt := E_a1.lt
  have Avalt := A_va.lt
  refine own_st (T' := s₁) (g' := (mkF m 1 #[.val (.ref a1), .val (.long q2), .second] [(.ref a1)])) (fun t k => XS.aloadN X0.here hx rfl (hb hby own_d6_0) rfl rfl k) ?_
  obtain ⟨T1, X1, e1, st1⟩ := getF X0 hx hZ hown (host := "") (Or.inl (hw _ (List.mem_of_getElem? (i := 18) rfl))) Via.refl e0 F_size_a1 (g := (mkF m 1 #[.val (.ref a1), .val (.long q2), .second] [(.ref a1)])) rfl rfl (hb hby own_d6_1)
  refine own_st (T' := T1) (g' := (mkF m 4 #[.val (.ref a1), .val (.long q2), .second] [(.int n)])) st1 ?_
  refine own_st (T' := T1) (g' := (mkF m 5 #[.val (.ref a1), .val (.long q2), .second] [(.ref a1), (.int n)])) (fun t k => XS.aloadN X1.here hx rfl (hb hby own_d6_4) rfl rfl k) ?_
  obtain ⟨T2, X2, e2, st2⟩ := getF X1 hx hZ hown (host := "") (Or.inl (hw _ (List.mem_of_getElem? (i := 11) rfl))) Via.refl e1 F_values_a1 (g := (mkF m 5 #[.val (.ref a1), .val (.long q2), .second] [(.ref a1), (.int n)])) rfl rfl (hb hby own_d6_5)
  refine own_st (T' := T2) (g' := (mkF m 8 #[.val (.ref a1), .val (.long q2), .second] [(.ref va), (.int n)])) st2 ?_
  refine own_st (T' := T2) (g' := (mkF m 9 #[.val (.ref a1), .val (.long q2), .second] [(.int z), (.int n)])) (A_va.len X2 hx hZ e2 (g := (mkF m 8 #[.val (.ref a1), .val (.long q2), .second] [(.ref va), (.int n)])) rfl rfl (hb hby own_d6_8)) ?_
  by_cases hc9_3 : n = z
  ·
    refine own_st (T' := T2) (g' := (mkF m 12 #[.val (.ref a1), .val (.long q2), .second] [])) (fun t k => XS.icmpNo X2.here hx rfl (hb hby own_d6_9) rfl (teq hc9_3).2 k) ?_
    refine own_st (T' := T2) (g' := (mkF m 13 #[.val (.ref a1), .val (.long q2), .second] [(.ref a1)])) (fun t k => XS.aloadN X2.here hx rfl (hb hby own_d6_12) rfl rfl k) ?_
    refine own_st (T' := T2) (g' := (mkF m 14 #[.val (.ref a1), .val (.long q2), .second] [(.ref a1), (.ref a1)])) (fun t k => XS.aloadN X2.here hx rfl (hb hby own_d6_13) rfl rfl k) ?_
    obtain ⟨T4, X4, e4, st4⟩ := getF X2 hx hZ hown (host := "") (Or.inl (hw _ (List.mem_of_getElem? (i := 11) rfl))) Via.refl e2 F_values_a1 (g := (mkF m 14 #[.val (.ref a1), .val (.long q2), .second] [(.ref a1), (.ref a1)])) rfl rfl (hb hby own_d6_14)
    refine own_st (T' := T4) (g' := (mkF m 17 #[.val (.ref a1), .val (.long q2), .second] [(.ref va), (.ref a1)])) st4 ?_
    refine own_st (T' := T4) (g' := (mkF m 19 #[.val (.ref a1), .val (.long q2), .second] [(.int (16 : Int32)), (.ref va), (.ref a1)])) (fun t k => XS.bipush X4.here hx rfl (hb hby own_d6_17) k) ?_
    refine own_st (T' := T4) (g' := (mkF m 20 #[.val (.ref a1), .val (.long q2), .second] [(.ref a1), (.int (16 : Int32)), (.ref va), (.ref a1)])) (fun t k => XS.aloadN X4.here hx rfl (hb hby own_d6_19) rfl rfl k) ?_
    obtain ⟨T5, X5, e5, st5⟩ := getF X4 hx hZ hown (host := "") (Or.inl (hw _ (List.mem_of_getElem? (i := 18) rfl))) Via.refl e4 F_size_a1 (g := (mkF m 20 #[.val (.ref a1), .val (.long q2), .second] [(.ref a1), (.int (16 : Int32)), (.ref va), (.ref a1)])) rfl rfl (hb hby own_d6_20)
    refine own_st (T' := T5) (g' := (mkF m 23 #[.val (.ref a1), .val (.long q2), .second] [(.int n), (.int (16 : Int32)), (.ref va), (.ref a1)])) st5 ?_
    refine own_st (T' := T5) (g' := (mkF m 24 #[.val (.ref a1), .val (.long q2), .second] [(.int (2 : Int32)), (.int n), (.int (16 : Int32)), (.ref va), (.ref a1)])) (fun t k => XS.iconst X5.here hx rfl (hb hby own_d6_23) k) ?_
    refine own_st (T' := T5) (g' := (mkF m 25 #[.val (.ref a1), .val (.long q2), .second] [(.int (n * (2 : Int32))), (.int (16 : Int32)), (.ref va), (.ref a1)])) (fun t k => XS.imul X5.here hx rfl (hb hby own_d6_24) rfl k) ?_
    obtain ⟨_, T6, L6, hQ6, X6, st6⟩ := own_callS (y := (⟨"java/lang/Math", "max", "(II)I"⟩ : MethodName)) (argsL := [(.int (16 : Int32)), (.int (n * (2 : Int32)))]) 2 [(.ref va), (.ref a1)] (own_rm5 l Z a0 hw h0 n0 Z0 (16 : Int32) (n * (2 : Int32)) (16 : Int32) (own_m16 hn3)) X5 hx hZ hown (hw _ (List.mem_of_getElem? (i := 34) rfl)) (hw _ (List.mem_of_getElem? (i := 26) rfl)) (hw _ (List.mem_of_getElem? (i := 27) rfl)) (hw _ (List.mem_of_getElem? (i := 28) rfl)) (by decide) (by decide) (by decide) (by decide) (by decide) e5 (g := (mkF m 25 #[.val (.ref a1), .val (.long q2), .second] [(.int (n * (2 : Int32))), (.int (16 : Int32)), (.ref va), (.ref a1)])) rfl (by rw [hml]; rfl) (lenOf own_pd0 rfl) rfl (by show 2 * 0 + _ ≤ _; exact Nat.le_of_eq rfl) (hb hby own_d6_25)
    obtain ⟨rfl, e6, rfl⟩ := hQ6
    have X6 : Stand p l e ({ frames := 2, cells := 1, slots := 16, locals := 55 } : Room) s m #[(.ref a1), (.long q2)] below meth c T6 [] 0 0 := X6
    refine own_st (T' := T6) (g' := (mkF m 28 #[.val (.ref a1), .val (.long q2), .second] [(.int (16 : Int32)), (.ref va), (.ref a1)])) st6 ?_
    obtain ⟨_, T7, L7, hQ7, X7, st7⟩ := own_callS (y := (⟨"java/util/Arrays", "copyOf", "([JI)[J"⟩ : MethodName)) (argsL := [(.ref va), (.int (16 : Int32))]) 1 [(.ref a1)] (own_rm7 l Z a0 hw h0 n0 Z0 va z A_va (hc9_3 ▸ hn3)) X6 hx hZ hown (hw _ (List.mem_of_getElem? (i := 35) rfl)) (hw _ (List.mem_of_getElem? (i := 36) rfl)) (hw _ (List.mem_of_getElem? (i := 37) rfl)) (hw _ (List.mem_of_getElem? (i := 38) rfl)) (by decide) (by decide) (by decide) (by decide) (by decide) e6 (g := (mkF m 28 #[.val (.ref a1), .val (.long q2), .second] [(.int (16 : Int32)), (.ref va), (.ref a1)])) rfl (by rw [hml]; rfl) (lenOf own_pd1 rfl) rfl (by show 2 * 0 + _ ≤ _; exact Nat.le_of_eq rfl) (hb hby own_d6_28)
    obtain ⟨o7, rfl, N7q, Eq7, sz_o7, A_o7⟩ := hQ7
    have Z7 : n0 ≤ T7.heap.size := Nat.le_trans Z0 Eq7.1
    have O := O.ext Eq7
    have E_a1 := E_a1.ext Eq7
    have F_size_a1 := F_size_a1.ext Eq7
    have F_values_a1 := F_values_a1.ext Eq7
    have A_va := A_va.ext Eq7
    have N7 := Fr.app N0 N7q
    generalize hlc7 : ([] ++ L7 : List Loc) = lc7 at X7 N7
    have X7 : Stand p l e ({ frames := 2, cells := 1, slots := 16, locals := 55 } : Room) s m #[(.ref a1), (.long q2)] below meth c T7 lc7 1 16 := X7
    have ne_a1_o7 : a1 ≠ o7 := Nat.ne_of_lt (Nat.lt_of_lt_of_le Ea1lt sz_o7)
    have ne_va_o7 : va ≠ o7 := Nat.ne_of_lt (Nat.lt_of_lt_of_le Avalt sz_o7)
    refine own_st (T' := T7) (g' := (mkF m 31 #[.val (.ref a1), .val (.long q2), .second] [(.ref o7), (.ref a1)])) st7 ?_
    obtain ⟨T8, h8, X8, e8, W8, st8⟩ := putF X7 hx hZ hown (host := "") (Or.inl (hw _ (List.mem_of_getElem? (i := 11) rfl))) Via.refl rfl F_values_a1 E_a1 (Or.inl (hw _ (List.mem_of_getElem? (i := 12) rfl))) (hw _ (List.mem_of_getElem? (i := 1) rfl)) (ty := (.array .long)) (by decide) rfl rfl (g := (mkF m 31 #[.val (.ref a1), .val (.long q2), .second] [(.ref o7), (.ref a1)])) rfl rfl (hb hby own_d6_31)
    have O := O.wr W8 g_a1
    have E_a1 := E_a1.wr W8
    have F_size_a1 := F_size_a1.other W8 (Or.inr (slot_ne (Or.inl (hw _ (List.mem_of_getElem? (i := 19) rfl))) (Or.inl (hw _ (List.mem_of_getElem? (i := 12) rfl))) (by decide) (t := .int) (t' := (.array .long)) (by decide) (by decide)))
    have F_values_a1 := F_values_a1.same W8
    have A_va := A_va.other W8 ne_va_a1
    have A_o7 := A_o7.other W8 (Ne.symm ne_a1_o7)
    have N8 := Fr.snoc X8 N7 g_a1
    generalize hlc8 : (lc7 ++ [(⟨a1, Jvm.RoadKit.slotOf Z "com/example/seriate/seriate/LongList" "values" "[J"⟩ : Loc)] : List Loc) = lc8 at X8 N8
    have Z8 : n0 ≤ h8.size := Nat.le_trans Z7 (Keep.of_wr W8).1
    refine own_st (T' := T8) (g' := (mkF m 34 #[.val (.ref a1), .val (.long q2), .second] [])) st8 ?_
    refine own_st (T' := T8) (g' := (mkF m 35 #[.val (.ref a1), .val (.long q2), .second] [(.ref a1)])) (fun t k => XS.aloadN X8.here hx rfl (hb hby own_d6_34) rfl rfl k) ?_
    obtain ⟨T9, X9, e9, st9⟩ := getF X8 hx hZ hown (host := "") (Or.inl (hw _ (List.mem_of_getElem? (i := 11) rfl))) Via.refl e8 F_values_a1 (g := (mkF m 35 #[.val (.ref a1), .val (.long q2), .second] [(.ref a1)])) rfl rfl (hb hby own_d6_35)
    refine own_st (T' := T9) (g' := (mkF m 38 #[.val (.ref a1), .val (.long q2), .second] [(.ref o7)])) st9 ?_
    refine own_st (T' := T9) (g' := (mkF m 39 #[.val (.ref a1), .val (.long q2), .second] [(.ref a1), (.ref o7)])) (fun t k => XS.aloadN X9.here hx rfl (hb hby own_d6_38) rfl rfl k) ?_
    refine own_st (T' := T9) (g' := (mkF m 40 #[.val (.ref a1), .val (.long q2), .second] [(.ref a1), (.ref a1), (.ref o7)])) (fun t k => XS.dup X9.here hx rfl (hb hby own_d6_39) rfl rfl k) ?_
    obtain ⟨T10, X10, e10, st10⟩ := getF X9 hx hZ hown (host := "") (Or.inl (hw _ (List.mem_of_getElem? (i := 18) rfl))) Via.refl e9 F_size_a1 (g := (mkF m 40 #[.val (.ref a1), .val (.long q2), .second] [(.ref a1), (.ref a1), (.ref o7)])) rfl rfl (hb hby own_d6_40)
    refine own_st (T' := T10) (g' := (mkF m 43 #[.val (.ref a1), .val (.long q2), .second] [(.int n), (.ref a1), (.ref o7)])) st10 ?_
    refine own_st (T' := T10) (g' := (mkF m 44 #[.val (.ref a1), .val (.long q2), .second] [(.int n), (.ref a1), (.int n), (.ref o7)])) (fun t k => XS.dupX1 X10.here hx rfl (hb hby own_d6_43) rfl rfl rfl k) ?_
    refine own_st (T' := T10) (g' := (mkF m 45 #[.val (.ref a1), .val (.long q2), .second] [(.int (1 : Int32)), (.int n), (.ref a1), (.int n), (.ref o7)])) (fun t k => XS.iconst X10.here hx rfl (hb hby own_d6_44) k) ?_
    refine own_st (T' := T10) (g' := (mkF m 46 #[.val (.ref a1), .val (.long q2), .second] [(.int (n + (1 : Int32))), (.ref a1), (.int n), (.ref o7)])) (fun t k => XS.iadd X10.here hx rfl (hb hby own_d6_45) rfl k) ?_
    obtain ⟨T11, h11, X11, e11, W11, st11⟩ := putF X10 hx hZ hown (host := "") (Or.inl (hw _ (List.mem_of_getElem? (i := 18) rfl))) Via.refl e10 F_size_a1 E_a1 (Or.inl (hw _ (List.mem_of_getElem? (i := 19) rfl))) (hw _ (List.mem_of_getElem? (i := 1) rfl)) (ty := .int) (by decide) rfl rfl (g := (mkF m 46 #[.val (.ref a1), .val (.long q2), .second] [(.int (n + (1 : Int32))), (.ref a1), (.int n), (.ref o7)])) rfl rfl (hb hby own_d6_46)
    have O := O.wr W11 g_a1
    have E_a1 := E_a1.wr W11
    have F_size_a1 := F_size_a1.same W11
    have F_values_a1 := F_values_a1.other W11 (Or.inr (slot_ne (Or.inl (hw _ (List.mem_of_getElem? (i := 12) rfl))) (Or.inl (hw _ (List.mem_of_getElem? (i := 19) rfl))) (by decide) (t := (.array .long)) (t' := .int) (by decide) (by decide)))
    have A_va := A_va.other W11 ne_va_a1
    have A_o7 := A_o7.other W11 (Ne.symm ne_a1_o7)
    have N11 := Fr.snoc X11 N8 g_a1
    generalize hlc11 : (lc8 ++ [(⟨a1, Jvm.RoadKit.slotOf Z "com/example/seriate/seriate/LongList" "size" "I"⟩ : Loc)] : List Loc) = lc11 at X11 N11
    have Z11 : n0 ≤ h11.size := Nat.le_trans Z8 (Keep.of_wr W11).1
    refine own_st (T' := T11) (g' := (mkF m 49 #[.val (.ref a1), .val (.long q2), .second] [(.int n), (.ref o7)])) st11 ?_
    refine own_st (T' := T11) (g' := (mkF m 50 #[.val (.ref a1), .val (.long q2), .second] [(.long q2), (.int n), (.ref o7)])) (fun t k => XS.lloadN X11.here hx rfl (hb hby own_d6_49) rfl k) ?_
    have g_o7 : n0 ≤ o7 := Nat.le_trans Z0 sz_o7
    obtain ⟨T12, h12, X12, e12, W12, An12, st12⟩ := A_o7.st X11 hx hZ e11 (j := n) (own_in16 hn3) (g := (mkF m 50 #[.val (.ref a1), .val (.long q2), .second] [(.long q2), (.int n), (.ref o7)])) rfl rfl (hb hby own_d6_50)
    have O := O.wr W12 g_o7
    have E_a1 := E_a1.wr W12
    have F_size_a1 := F_size_a1.other W12 (Or.inl ne_a1_o7)
    have F_values_a1 := F_values_a1.other W12 (Or.inl ne_a1_o7)
    have A_va := A_va.other W12 ne_va_o7
    have A_o7 := An12
    have N12 := Fr.snoc X12 N11 g_o7
    generalize hlc12 : (lc11 ++ [(⟨o7, (n : Int32).toNatClampNeg⟩ : Loc)] : List Loc) = lc12 at X12 N12
    have Z12 : n0 ≤ h12.size := Nat.le_trans Z11 (Keep.of_wr W12).1
    refine own_st (T' := T12) (g' := (mkF m 51 #[.val (.ref a1), .val (.long q2), .second] [])) st12 ?_
    exact own_retV X12 hx hlk hret (hb hby own_d6_51) (by decide) (by decide) (by rw [e12]; exact ⟨rfl, N12, O, (by rw [show own_ad n z = (16 : Int32) from if_pos hc9_3]; exact ⟨o7, E_a1, F_size_a1, F_values_a1, A_o7, (Ne.symm ne_a1_o7), Or.inr g_o7⟩)⟩)
  ·
    refine own_st (T' := T2) (g' := (mkF m 34 #[.val (.ref a1), .val (.long q2), .second] [])) (fun t k => XS.icmpYes X2.here hx rfl (pc0 := 9) (pc' := 34) rfl (hb hby own_d6_9) rfl (feq hc9_3).2 (by decide) (by decide) k) ?_
    refine own_st (T' := T2) (g' := (mkF m 35 #[.val (.ref a1), .val (.long q2), .second] [(.ref a1)])) (fun t k => XS.aloadN X2.here hx rfl (hb hby own_d6_34) rfl rfl k) ?_
    obtain ⟨T13, X13, e13, st13⟩ := getF X2 hx hZ hown (host := "") (Or.inl (hw _ (List.mem_of_getElem? (i := 11) rfl))) Via.refl e2 F_values_a1 (g := (mkF m 35 #[.val (.ref a1), .val (.long q2), .second] [(.ref a1)])) rfl rfl (hb hby own_d6_35)
    refine own_st (T' := T13) (g' := (mkF m 38 #[.val (.ref a1), .val (.long q2), .second] [(.ref va)])) st13 ?_
    refine own_st (T' := T13) (g' := (mkF m 39 #[.val (.ref a1), .val (.long q2), .second] [(.ref a1), (.ref va)])) (fun t k => XS.aloadN X13.here hx rfl (hb hby own_d6_38) rfl rfl k) ?_
    refine own_st (T' := T13) (g' := (mkF m 40 #[.val (.ref a1), .val (.long q2), .second] [(.ref a1), (.ref a1), (.ref va)])) (fun t k => XS.dup X13.here hx rfl (hb hby own_d6_39) rfl rfl k) ?_
    obtain ⟨T14, X14, e14, st14⟩ := getF X13 hx hZ hown (host := "") (Or.inl (hw _ (List.mem_of_getElem? (i := 18) rfl))) Via.refl e13 F_size_a1 (g := (mkF m 40 #[.val (.ref a1), .val (.long q2), .second] [(.ref a1), (.ref a1), (.ref va)])) rfl rfl (hb hby own_d6_40)
    refine own_st (T' := T14) (g' := (mkF m 43 #[.val (.ref a1), .val (.long q2), .second] [(.int n), (.ref a1), (.ref va)])) st14 ?_
    refine own_st (T' := T14) (g' := (mkF m 44 #[.val (.ref a1), .val (.long q2), .second] [(.int n), (.ref a1), (.int n), (.ref va)])) (fun t k => XS.dupX1 X14.here hx rfl (hb hby own_d6_43) rfl rfl rfl k) ?_
    refine own_st (T' := T14) (g' := (mkF m 45 #[.val (.ref a1), .val (.long q2), .second] [(.int (1 : Int32)), (.int n), (.ref a1), (.int n), (.ref va)])) (fun t k => XS.iconst X14.here hx rfl (hb hby own_d6_44) k) ?_
    refine own_st (T' := T14) (g' := (mkF m 46 #[.val (.ref a1), .val (.long q2), .second] [(.int (n + (1 : Int32))), (.ref a1), (.int n), (.ref va)])) (fun t k => XS.iadd X14.here hx rfl (hb hby own_d6_45) rfl k) ?_
    obtain ⟨T15, h15, X15, e15, W15, st15⟩ := putF X14 hx hZ hown (host := "") (Or.inl (hw _ (List.mem_of_getElem? (i := 18) rfl))) Via.refl e14 F_size_a1 E_a1 (Or.inl (hw _ (List.mem_of_getElem? (i := 19) rfl))) (hw _ (List.mem_of_getElem? (i := 1) rfl)) (ty := .int) (by decide) rfl rfl (g := (mkF m 46 #[.val (.ref a1), .val (.long q2), .second] [(.int (n + (1 : Int32))), (.ref a1), (.int n), (.ref va)])) rfl rfl (hb hby own_d6_46)
    have O := O.wr W15 g_a1
    have E_a1 := E_a1.wr W15
    have F_size_a1 := F_size_a1.same W15
    have F_values_a1 := F_values_a1.other W15 (Or.inr (slot_ne (Or.inl (hw _ (List.mem_of_getElem? (i := 12) rfl))) (Or.inl (hw _ (List.mem_of_getElem? (i := 19) rfl))) (by decide) (t := (.array .long)) (t' := .int) (by decide) (by decide)))
    have A_va := A_va.other W15 ne_va_a1
    have N15 := Fr.snoc X15 N0 g_a1
    generalize hlc15 : ([] ++ [(⟨a1, Jvm.RoadKit.slotOf Z "com/example/seriate/seriate/LongList" "size" "I"⟩ : Loc)] : List Loc) = lc15 at X15 N15
    have Z15 : n0 ≤ h15.size := Nat.le_trans Z0 (Keep.of_wr W15).1
    refine own_st (T' := T15) (g' := (mkF m 49 #[.val (.ref a1), .val (.long q2), .second] [(.int n), (.ref va)])) st15 ?_
    refine own_st (T' := T15) (g' := (mkF m 50 #[.val (.ref a1), .val (.long q2), .second] [(.long q2), (.int n), (.ref va)])) (fun t k => XS.lloadN X15.here hx rfl (hb hby own_d6_49) rfl k) ?_
    have g_va : n0 ≤ va := gva.resolve_left (own_pos hn0 (own_lt hn0 hnz hc9_3))
    obtain ⟨T16, h16, X16, e16, W16, An16, st16⟩ := A_va.st X15 hx hZ e15 (j := n) ⟨hn0, own_lt hn0 hnz hc9_3⟩ (g := (mkF m 50 #[.val (.ref a1), .val (.long q2), .second] [(.long q2), (.int n), (.ref va)])) rfl rfl (hb hby own_d6_50)
    have O := O.wr W16 g_va
    have E_a1 := E_a1.wr W16
    have F_size_a1 := F_size_a1.other W16 (Or.inl (Ne.symm ne_va_a1))
    have F_values_a1 := F_values_a1.other W16 (Or.inl (Ne.symm ne_va_a1))
    have A_va := An16
    have N16 := Fr.snoc X16 N15 g_va
    generalize hlc16 : (lc15 ++ [(⟨va, (n : Int32).toNatClampNeg⟩ : Loc)] : List Loc) = lc16 at X16 N16
    have Z16 : n0 ≤ h16.size := Nat.le_trans Z15 (Keep.of_wr W16).1
    refine own_st (T' := T16) (g' := (mkF m 51 #[.val (.ref a1), .val (.long q2), .second] [])) st16 ?_
    exact own_retV X16 hx hlk hret (hb hby own_d6_51) (by decide) (by decide) (by rw [e16]; exact ⟨rfl, N16, O, (by rw [show own_ad n z = z from if_neg hc9_3]; exact ⟨va, E_a1, F_size_a1, F_values_a1, A_va, ne_va_a1, Or.inr g_va⟩)⟩)
theorem own_pn0 : plainFor x = true := plainFor_of_name (show plainName "com/example/seriate/seriate/LongListClearPinLaw" = true by first | (simp [plainName, overriddenIn]; done) | decide +kernel)
theorem own_ef0 (m : MethodId) (p1 : Int32) (p2 : Int32) (p3 : Int32) (q4 : Int64) (q5 : Int64) : entryFrame m #[(.int p1), (.int p2), (.int p3), (.long q4), (.long q5)] maxLocals = (mkF m 0 #[.val (.int p1), .val (.int p2), .val (.int p3), .val (.long q4), .second, .val (.long q5), .second, .unset, .unset, .unset, .unset, .unset, .unset, .unset, .unset] []) := by first | (simp [entryFrame, mkF, argsToLocals, Value.category, maxLocals]; done) | rfl
set_option maxRecDepth 65536 in
set_option maxHeartbeats 40000000 in
theorem own_rm0 (l : Launch) (Z : State) (a0 : Array Value) (hw : ∀ d ∈ tables_1, d.before a0 Z = true) (h0 : Heap) (n0 : Nat) (Z0 : n0 ≤ h0.size) (p1 : Int32) (p2 : Int32) (p3 : Int32) (q4 : Int64) (q5 : Int64) (O : Old Z n0 h0) (s_NO : Addr) (S_NO : Sta Z Z.heap "com/example/seriate/seriate/LongList" "NO_VALUES" "[J" (.ref s_NO)) (A_NO : own_LA Z Z.heap s_NO 0) :
    own_C l Z x code maxLocals ret tables_1 room_1 #[(.int p1), (.int p2), (.int p3), (.long q4), (.long q5)] h0 (own_qr (.int 1) n0) := by
  refine own_body own_pn0 (f0 := fun m => (mkF m 0 #[.val (.int p1), .val (.int p2), .val (.int p3), .val (.long q4), .second, .val (.long q5), .second, .unset, .unset, .unset, .unset, .unset, .unset, .unset, .unset] [])) (fun m => own_ef0 m p1 p2 p3 q4 q5) ?_
  intro p e s m below meth c s₁ hx hby hml hown hnm hret hlk hZ X0 e0
  change own_G p e below (own_F (own_qr (.int 1) n0) s room_1.cells room_1.slots) s₁ (mkF m 0 #[.val (.int p1), .val (.int p2), .val (.int p3), .val (.long q4), .second, .val (.long q5), .second, .unset, .unset, .unset, .unset, .unset, .unset, .unset, .unset] [])
  have N0 := Fr.nil n0
  obtain ⟨T1, h1, X1, e1, E1, A1, D1, -, st1⟩ := newO X0 hx hZ hown (hw _ (List.mem_of_getElem? (i := 0) rfl)) (hw _ (List.mem_of_getElem? (i := 1) rfl)) (hw _ (List.mem_of_getElem? (i := 2) rfl)) e0 (g := (mkF m 0 #[.val (.int p1), .val (.int p2), .val (.int p3), .val (.long q4), .second, .val (.long q5), .second, .unset, .unset, .unset, .unset, .unset, .unset, .unset, .unset] [])) rfl (hb hby at_0) (by decide) (by decide)
  obtain ⟨b1, gb1⟩ : ∃ z, z = h0.size := ⟨_, rfl⟩
  rw [← gb1] at A1 D1 st1
  have g_b1 : n0 ≤ b1 := Nat.le_trans Z0 (Nat.le_of_eq gb1.symm)
  have Z1 : n0 ≤ h1.size := Nat.le_trans Z0 E1.1
  have O := O.ext E1
  have E_b1 := A1
  have F_values_b1 : Fld Z h1 b1 "com/example/seriate/seriate/LongList" "values" "[J" .null := D1 (Or.inl (hw _ (List.mem_of_getElem? (i := 12) rfl))) (ty := (.array .long)) (by decide)
  have F_size_b1 : Fld Z h1 b1 "com/example/seriate/seriate/LongList" "size" "I" (.int (0 : Int32)) := D1 (Or.inl (hw _ (List.mem_of_getElem? (i := 19) rfl))) (ty := .int) (by decide)
  have X1 : Stand p l e room_1 s m #[(.int p1), (.int p2), (.int p3), (.long q4), (.long q5)] below meth c T1 [] 1 2 := X1
  refine own_st (T' := T1) (g' := (mkF m 3 #[.val (.int p1), .val (.int p2), .val (.int p3), .val (.long q4), .second, .val (.long q5), .second, .unset, .unset, .unset, .unset, .unset, .unset, .unset, .unset] [(.ref b1)])) st1 ?_
  refine own_st (T' := T1) (g' := (mkF m 4 #[.val (.int p1), .val (.int p2), .val (.int p3), .val (.long q4), .second, .val (.long q5), .second, .unset, .unset, .unset, .unset, .unset, .unset, .unset, .unset] [(.ref b1), (.ref b1)])) (fun t k => XS.dup X1.here hx rfl (hb hby at_3) rfl rfl k) ?_
  obtain ⟨_, T2, L2, hQ2, X2, st2⟩ := own_callI (y := (⟨"com/example/seriate/seriate/LongList", "<init>", "()V"⟩ : MethodName)) (argsL := []) 1 [(.ref b1)] (own_rm1 l Z a0 hw h1 n0 Z1 b1 O s_NO S_NO A_NO g_b1 E_b1 _ F_values_b1 F_size_b1) X1 hx hZ hown rfl (hw _ (List.mem_of_getElem? (i := 3) rfl)) (hw _ (List.mem_of_getElem? (i := 4) rfl)) (hw _ (List.mem_of_getElem? (i := 5) rfl)) (hw _ (List.mem_of_getElem? (i := 2) rfl)) (by decide) (by decide) (by decide) (by decide) (by decide) e1 (g := (mkF m 4 #[.val (.int p1), .val (.int p2), .val (.int p3), .val (.long q4), .second, .val (.long q5), .second, .unset, .unset, .unset, .unset, .unset, .unset, .unset, .unset] [(.ref b1), (.ref b1)])) rfl (by rw [hml]; rfl) (lenOf own_pd2 rfl) rfl (by show 2 * 0 + _ ≤ _; exact Nat.le_of_eq rfl) (hb hby at_4)
  obtain ⟨rfl, N2q, O, LL⟩ := hQ2
  have Z2 : n0 ≤ T2.heap.size := by rw [← O.1]; exact O.2.1
  have N2 := Fr.app N0 N2q
  generalize hlc2 : ([] ++ L2 : List Loc) = lc2 at X2 N2
  have X2 : Stand p l e room_1 s m #[(.int p1), (.int p2), (.int p3), (.long q4), (.long q5)] below meth c T2 lc2 1 2 := X2
  refine own_st (T' := T2) (g' := (mkF m 7 #[.val (.int p1), .val (.int p2), .val (.int p3), .val (.long q4), .second, .val (.long q5), .second, .unset, .unset, .unset, .unset, .unset, .unset, .unset, .unset] [(.ref b1)])) st2 ?_
  refine own_st (T' := T2) (g' := (mkF m 9 #[.val (.int p1), .val (.int p2), .val (.int p3), .val (.long q4), .second, .val (.long q5), .second, .val (.ref b1), .unset, .unset, .unset, .unset, .unset, .unset, .unset] [])) (fun t k => XS.astore X2.here hx rfl (hb hby at_7) rfl rfl (l' := #[.val (.int p1), .val (.int p2), .val (.int p3), .val (.long q4), .second, .val (.long q5), .second, .val (.ref b1), .unset, .unset, .unset, .unset, .unset, .unset, .unset]) rfl k) ?_
  refine own_st (T' := T2) (g' := (mkF m 10 #[.val (.int p1), .val (.int p2), .val (.int p3), .val (.long q4), .second, .val (.long q5), .second, .val (.ref b1), .unset, .unset, .unset, .unset, .unset, .unset, .unset] [(.int p1)])) (fun t k => XS.iloadN X2.here hx rfl (hb hby at_9) rfl k) ?_
  refine own_st (T' := T2) (g' := (mkF m 12 #[.val (.int p1), .val (.int p2), .val (.int p3), .val (.long q4), .second, .val (.long q5), .second, .val (.ref b1), .unset, .unset, .unset, .unset, .unset, .unset, .unset] [(.int (40 : Int32)), (.int p1)])) (fun t k => XS.bipush X2.here hx rfl (hb hby at_10) k) ?_
  refine own_st (T' := T2) (g' := (mkF m 13 #[.val (.int p1), .val (.int p2), .val (.int p3), .val (.long q4), .second, .val (.long q5), .second, .val (.ref b1), .unset, .unset, .unset, .unset, .unset, .unset, .unset] [(.int (p1 % (40 : Int32)))])) (fun t k => iremM (g := (mkF m 12 #[.val (.int p1), .val (.int p2), .val (.int p3), .val (.long q4), .second, .val (.long q5), .second, .val (.ref b1), .unset, .unset, .unset, .unset, .unset, .unset, .unset] [(.int (40 : Int32)), (.int p1)])) X2 hx rfl (hb hby at_12) rfl (by decide) k) ?_
  refine own_st (T' := T2) (g' := (mkF m 15 #[.val (.int p1), .val (.int p2), .val (.int p3), .val (.long q4), .second, .val (.long q5), .second, .val (.ref b1), .val (.int (p1 % (40 : Int32))), .unset, .unset, .unset, .unset, .unset, .unset] [])) (fun t k => XS.istore X2.here hx rfl (hb hby at_13) rfl (l' := #[.val (.int p1), .val (.int p2), .val (.int p3), .val (.long q4), .second, .val (.long q5), .second, .val (.ref b1), .val (.int (p1 % (40 : Int32))), .unset, .unset, .unset, .unset, .unset, .unset]) rfl k) ?_
  refine own_st (T' := T2) (g' := (mkF m 17 #[.val (.int p1), .val (.int p2), .val (.int p3), .val (.long q4), .second, .val (.long q5), .second, .val (.ref b1), .val (.int (p1 % (40 : Int32))), .unset, .unset, .unset, .unset, .unset, .unset] [(.ref b1)])) (fun t k => XS.aload X2.here hx rfl (hb hby at_15) rfl rfl k) ?_
  refine own_st (T' := T2) (g' := (mkF m 19 #[.val (.int p1), .val (.int p2), .val (.int p3), .val (.long q4), .second, .val (.long q5), .second, .val (.ref b1), .val (.int (p1 % (40 : Int32))), .unset, .unset, .unset, .unset, .unset, .unset] [(.int (p1 % (40 : Int32))), (.ref b1)])) (fun t k => XS.iload X2.here hx rfl (hb hby at_17) rfl k) ?_
  obtain ⟨_, T3, L3, hQ3, X3, st3⟩ := own_callV (y := (⟨"com/example/seriate/seriate/LongList", "clear", "(I)V"⟩ : MethodName)) (z := (⟨"com/example/seriate/seriate/LongList", "clear", "(I)V"⟩ : MethodName)) (argsL := [(.int (p1 % (40 : Int32)))]) 0 [] (K := "com/example/seriate/seriate/LongList") (own_rm3 l Z a0 hw T2.heap n0 Z2 b1 (p1 % (40 : Int32)) O s_NO S_NO A_NO g_b1 (own_rem _) _ _ LL) X2 hx hZ hown (hw _ (List.mem_of_getElem? (i := 13) rfl)) (hw _ (List.mem_of_getElem? (i := 14) rfl)) (notFace_of_selects (args := #[]) (mvT hZ (hw _ (List.mem_of_getElem? (i := 16) rfl)))) (hw _ (List.mem_of_getElem? (i := 16) rfl)) (hw _ (List.mem_of_getElem? (i := 15) rfl)) (hw _ (List.mem_of_getElem? (i := 17) rfl)) (hw _ (List.mem_of_getElem? (i := 2) rfl)) (by decide) (by decide) (by decide) (by decide) (by decide) rfl LL.exa (g := (mkF m 19 #[.val (.int p1), .val (.int p2), .val (.int p3), .val (.long q4), .second, .val (.long q5), .second, .val (.ref b1), .val (.int (p1 % (40 : Int32))), .unset, .unset, .unset, .unset, .unset, .unset] [(.int (p1 % (40 : Int32))), (.ref b1)])) rfl (by rw [hml]; rfl) (lenOf own_pd3 rfl) rfl (by show 2 * 0 + _ ≤ _; exact Nat.le_of_eq rfl) (hb hby at_19)
  obtain ⟨rfl, N3q, O, LL⟩ := hQ3
  have Z3 : n0 ≤ T3.heap.size := by rw [← O.1]; exact O.2.1
  have N3 := Fr.app N2 N3q
  generalize hlc3 : (lc2 ++ L3 : List Loc) = lc3 at X3 N3
  have X3 : Stand p l e room_1 s m #[(.int p1), (.int p2), (.int p3), (.long q4), (.long q5)] below meth c T3 lc3 2 41 := X3
  refine own_st (T' := T3) (g' := (mkF m 22 #[.val (.int p1), .val (.int p2), .val (.int p3), .val (.long q4), .second, .val (.long q5), .second, .val (.ref b1), .val (.int (p1 % (40 : Int32))), .unset, .unset, .unset, .unset, .unset, .unset] [])) st3 ?_
  refine own_st (T' := T3) (g' := (mkF m 24 #[.val (.int p1), .val (.int p2), .val (.int p3), .val (.long q4), .second, .val (.long q5), .second, .val (.ref b1), .val (.int (p1 % (40 : Int32))), .unset, .unset, .unset, .unset, .unset, .unset] [(.ref b1)])) (fun t k => XS.aload X3.here hx rfl (hb hby at_22) rfl rfl k) ?_
  obtain ⟨_, T4, L4, hQ4, X4, st4⟩ := own_callV (y := (⟨"com/example/seriate/seriate/LongList", "capacity", "()I"⟩ : MethodName)) (z := (⟨"com/example/seriate/seriate/LongList", "capacity", "()I"⟩ : MethodName)) (argsL := []) 0 [] (K := "com/example/seriate/seriate/LongList") (own_rm4 l Z a0 hw T3.heap n0 Z3 b1 _ _ LL) X3 hx hZ hown (hw _ (List.mem_of_getElem? (i := 20) rfl)) (hw _ (List.mem_of_getElem? (i := 21) rfl)) (notFace_of_selects (args := #[]) (mvT hZ (hw _ (List.mem_of_getElem? (i := 23) rfl)))) (hw _ (List.mem_of_getElem? (i := 23) rfl)) (hw _ (List.mem_of_getElem? (i := 22) rfl)) (hw _ (List.mem_of_getElem? (i := 24) rfl)) (hw _ (List.mem_of_getElem? (i := 2) rfl)) (by decide) (by decide) (by decide) (by decide) (by decide) rfl LL.exa (g := (mkF m 24 #[.val (.int p1), .val (.int p2), .val (.int p3), .val (.long q4), .second, .val (.long q5), .second, .val (.ref b1), .val (.int (p1 % (40 : Int32))), .unset, .unset, .unset, .unset, .unset, .unset] [(.ref b1)])) rfl (by rw [hml]; rfl) (lenOf own_pd4 rfl) rfl (by show 2 * 0 + _ ≤ _; exact Nat.le_of_eq rfl) (hb hby at_24)
  obtain ⟨rfl, e4, rfl⟩ := hQ4
  have X4 : Stand p l e room_1 s m #[(.int p1), (.int p2), (.int p3), (.long q4), (.long q5)] below meth c T4 lc3 2 41 := by have := X4; rwa [List.append_nil] at this
  refine own_st (T' := T4) (g' := (mkF m 27 #[.val (.int p1), .val (.int p2), .val (.int p3), .val (.long q4), .second, .val (.long q5), .second, .val (.ref b1), .val (.int (p1 % (40 : Int32))), .unset, .unset, .unset, .unset, .unset, .unset] [(.int (own_cl (0 : Int32) (p1 % (40 : Int32))))])) st4 ?_
  refine own_st (T' := T4) (g' := (mkF m 29 #[.val (.int p1), .val (.int p2), .val (.int p3), .val (.long q4), .second, .val (.long q5), .second, .val (.ref b1), .val (.int (p1 % (40 : Int32))), .val (.int (own_cl (0 : Int32) (p1 % (40 : Int32)))), .unset, .unset, .unset, .unset, .unset] [])) (fun t k => XS.istore X4.here hx rfl (hb hby at_27) rfl (l' := #[.val (.int p1), .val (.int p2), .val (.int p3), .val (.long q4), .second, .val (.long q5), .second, .val (.ref b1), .val (.int (p1 % (40 : Int32))), .val (.int (own_cl (0 : Int32) (p1 % (40 : Int32)))), .unset, .unset, .unset, .unset, .unset]) rfl k) ?_
  refine own_st (T' := T4) (g' := (mkF m 31 #[.val (.int p1), .val (.int p2), .val (.int p3), .val (.long q4), .second, .val (.long q5), .second, .val (.ref b1), .val (.int (p1 % (40 : Int32))), .val (.int (own_cl (0 : Int32) (p1 % (40 : Int32)))), .unset, .unset, .unset, .unset, .unset] [(.int (own_cl (0 : Int32) (p1 % (40 : Int32))))])) (fun t k => XS.iload X4.here hx rfl (hb hby at_29) rfl k) ?_
  refine own_st (T' := T4) (g' := (mkF m 32 #[.val (.int p1), .val (.int p2), .val (.int p3), .val (.long q4), .second, .val (.long q5), .second, .val (.ref b1), .val (.int (p1 % (40 : Int32))), .val (.int (own_cl (0 : Int32) (p1 % (40 : Int32)))), .unset, .unset, .unset, .unset, .unset] [(.int (0 : Int32)), (.int (own_cl (0 : Int32) (p1 % (40 : Int32))))])) (fun t k => XS.iconst X4.here hx rfl (hb hby at_31) k) ?_
  refine own_st (T' := T4) (g' := (mkF m 34 #[.val (.int p1), .val (.int p2), .val (.int p3), .val (.long q4), .second, .val (.long q5), .second, .val (.ref b1), .val (.int (p1 % (40 : Int32))), .val (.int (own_cl (0 : Int32) (p1 % (40 : Int32)))), .unset, .unset, .unset, .unset, .unset] [(.int (p1 % (40 : Int32))), (.int (0 : Int32)), (.int (own_cl (0 : Int32) (p1 % (40 : Int32))))])) (fun t k => XS.iload X4.here hx rfl (hb hby at_32) rfl k) ?_
  obtain ⟨r5, hr5⟩ : ∃ q, q = own_max (0 : Int32) (p1 % (40 : Int32)) := ⟨_, rfl⟩
  obtain ⟨_, T5, L5, hQ5, X5, st5⟩ := own_callS (y := (⟨"java/lang/Math", "max", "(II)I"⟩ : MethodName)) (argsL := [(.int (0 : Int32)), (.int (p1 % (40 : Int32)))]) 1 [(.int (own_cl (0 : Int32) (p1 % (40 : Int32))))] (own_rm5 l Z a0 hw T3.heap n0 Z3 (0 : Int32) (p1 % (40 : Int32)) _ hr5) X4 hx hZ hown (hw _ (List.mem_of_getElem? (i := 25) rfl)) (hw _ (List.mem_of_getElem? (i := 26) rfl)) (hw _ (List.mem_of_getElem? (i := 27) rfl)) (hw _ (List.mem_of_getElem? (i := 28) rfl)) (by decide) (by decide) (by decide) (by decide) (by decide) e4 (g := (mkF m 34 #[.val (.int p1), .val (.int p2), .val (.int p3), .val (.long q4), .second, .val (.long q5), .second, .val (.ref b1), .val (.int (p1 % (40 : Int32))), .val (.int (own_cl (0 : Int32) (p1 % (40 : Int32)))), .unset, .unset, .unset, .unset, .unset] [(.int (p1 % (40 : Int32))), (.int (0 : Int32)), (.int (own_cl (0 : Int32) (p1 % (40 : Int32))))])) rfl (by rw [hml]; rfl) (lenOf own_pd0 rfl) rfl (by show 2 * 0 + _ ≤ _; exact Nat.le_of_eq rfl) (hb hby at_34)
  obtain ⟨rfl, e5, rfl⟩ := hQ5
  have X5 : Stand p l e room_1 s m #[(.int p1), (.int p2), (.int p3), (.long q4), (.long q5)] below meth c T5 lc3 2 41 := by have := X5; rwa [List.append_nil] at this
  refine own_st (T' := T5) (g' := (mkF m 37 #[.val (.int p1), .val (.int p2), .val (.int p3), .val (.long q4), .second, .val (.long q5), .second, .val (.ref b1), .val (.int (p1 % (40 : Int32))), .val (.int (own_cl (0 : Int32) (p1 % (40 : Int32)))), .unset, .unset, .unset, .unset, .unset] [(.int r5), (.int (own_cl (0 : Int32) (p1 % (40 : Int32))))])) st5 ?_
  have hk6 : (own_cl (0 : Int32) (p1 % (40 : Int32))) = r5 := by rw [hr5]; rfl
  refine own_st (T' := T5) (g' := (mkF m 40 #[.val (.int p1), .val (.int p2), .val (.int p3), .val (.long q4), .second, .val (.long q5), .second, .val (.ref b1), .val (.int (p1 % (40 : Int32))), .val (.int (own_cl (0 : Int32) (p1 % (40 : Int32)))), .unset, .unset, .unset, .unset, .unset] [])) (fun t k => XS.icmpNo X5.here hx rfl (hb hby at_37) rfl (teq hk6).2 k) ?_
  refine own_st (T' := T5) (g' := (mkF m 41 #[.val (.int p1), .val (.int p2), .val (.int p3), .val (.long q4), .second, .val (.long q5), .second, .val (.ref b1), .val (.int (p1 % (40 : Int32))), .val (.int (own_cl (0 : Int32) (p1 % (40 : Int32)))), .unset, .unset, .unset, .unset, .unset] [(.int (1 : Int32))])) (fun t k => XS.iconst X5.here hx rfl (hb hby at_40) k) ?_
  refine own_st (T' := T5) (g' := (mkF m 45 #[.val (.int p1), .val (.int p2), .val (.int p3), .val (.long q4), .second, .val (.long q5), .second, .val (.ref b1), .val (.int (p1 % (40 : Int32))), .val (.int (own_cl (0 : Int32) (p1 % (40 : Int32)))), .unset, .unset, .unset, .unset, .unset] [(.int (1 : Int32))])) (fun t k => XS.goto X5.here hx rfl (pc0 := 41) (pc' := 45) rfl (hb hby at_41) (by decide) (by decide) k) ?_
  refine own_st (T' := T5) (g' := (mkF m 47 #[.val (.int p1), .val (.int p2), .val (.int p3), .val (.long q4), .second, .val (.long q5), .second, .val (.ref b1), .val (.int (p1 % (40 : Int32))), .val (.int (own_cl (0 : Int32) (p1 % (40 : Int32)))), .val (.int (1 : Int32)), .unset, .unset, .unset, .unset] [])) (fun t k => XS.istore X5.here hx rfl (hb hby at_45) rfl (l' := #[.val (.int p1), .val (.int p2), .val (.int p3), .val (.long q4), .second, .val (.long q5), .second, .val (.ref b1), .val (.int (p1 % (40 : Int32))), .val (.int (own_cl (0 : Int32) (p1 % (40 : Int32)))), .val (.int (1 : Int32)), .unset, .unset, .unset, .unset]) rfl k) ?_
  refine own_st (T' := T5) (g' := (mkF m 48 #[.val (.int p1), .val (.int p2), .val (.int p3), .val (.long q4), .second, .val (.long q5), .second, .val (.ref b1), .val (.int (p1 % (40 : Int32))), .val (.int (own_cl (0 : Int32) (p1 % (40 : Int32)))), .val (.int (1 : Int32)), .unset, .unset, .unset, .unset] [(.int p3)])) (fun t k => XS.iloadN X5.here hx rfl (hb hby at_47) rfl k) ?_
  refine own_st (T' := T5) (g' := (mkF m 49 #[.val (.int p1), .val (.int p2), .val (.int p3), .val (.long q4), .second, .val (.long q5), .second, .val (.ref b1), .val (.int (p1 % (40 : Int32))), .val (.int (own_cl (0 : Int32) (p1 % (40 : Int32)))), .val (.int (1 : Int32)), .unset, .unset, .unset, .unset] [(.int (3 : Int32)), (.int p3)])) (fun t k => XS.iconst X5.here hx rfl (hb hby at_48) k) ?_
  refine own_st (T' := T5) (g' := (mkF m 50 #[.val (.int p1), .val (.int p2), .val (.int p3), .val (.long q4), .second, .val (.long q5), .second, .val (.ref b1), .val (.int (p1 % (40 : Int32))), .val (.int (own_cl (0 : Int32) (p1 % (40 : Int32)))), .val (.int (1 : Int32)), .unset, .unset, .unset, .unset] [(.int (p3 &&& (3 : Int32)))])) (fun t k => XS.iand X5.here hx rfl (hb hby at_49) rfl k) ?_
  refine own_st (T' := T5) (g' := (mkF m 52 #[.val (.int p1), .val (.int p2), .val (.int p3), .val (.long q4), .second, .val (.long q5), .second, .val (.ref b1), .val (.int (p1 % (40 : Int32))), .val (.int (own_cl (0 : Int32) (p1 % (40 : Int32)))), .val (.int (1 : Int32)), .val (.int (p3 &&& (3 : Int32))), .unset, .unset, .unset] [])) (fun t k => XS.istore X5.here hx rfl (hb hby at_50) rfl (l' := #[.val (.int p1), .val (.int p2), .val (.int p3), .val (.long q4), .second, .val (.long q5), .second, .val (.ref b1), .val (.int (p1 % (40 : Int32))), .val (.int (own_cl (0 : Int32) (p1 % (40 : Int32)))), .val (.int (1 : Int32)), .val (.int (p3 &&& (3 : Int32))), .unset, .unset, .unset]) rfl k) ?_
  refine own_st (T' := T5) (g' := (mkF m 54 #[.val (.int p1), .val (.int p2), .val (.int p3), .val (.long q4), .second, .val (.long q5), .second, .val (.ref b1), .val (.int (p1 % (40 : Int32))), .val (.int (own_cl (0 : Int32) (p1 % (40 : Int32)))), .val (.int (1 : Int32)), .val (.int (p3 &&& (3 : Int32))), .unset, .unset, .unset] [(.int (p3 &&& (3 : Int32)))])) (fun t k => XS.iload X5.here hx rfl (hb hby at_52) rfl k) ?_
  refine own_st (T' := T5) (g' := (mkF m 55 #[.val (.int p1), .val (.int p2), .val (.int p3), .val (.long q4), .second, .val (.long q5), .second, .val (.ref b1), .val (.int (p1 % (40 : Int32))), .val (.int (own_cl (0 : Int32) (p1 % (40 : Int32)))), .val (.int (1 : Int32)), .val (.int (p3 &&& (3 : Int32))), .unset, .unset, .unset] [(.int (1 : Int32)), (.int (p3 &&& (3 : Int32)))])) (fun t k => XS.iconst X5.here hx rfl (hb hby at_54) k) ?_
  by_cases hc55_7 : (p3 &&& (3 : Int32)) < (1 : Int32)
  ·
    refine own_st (T' := T5) (g' := (mkF m 64 #[.val (.int p1), .val (.int p2), .val (.int p3), .val (.long q4), .second, .val (.long q5), .second, .val (.ref b1), .val (.int (p1 % (40 : Int32))), .val (.int (own_cl (0 : Int32) (p1 % (40 : Int32)))), .val (.int (1 : Int32)), .val (.int (p3 &&& (3 : Int32))), .unset, .unset, .unset] [])) (fun t k => XS.icmpYes X5.here hx rfl (pc0 := 55) (pc' := 64) rfl (hb hby at_55) rfl (tlt hc55_7).1 (by decide) (by decide) k) ?_
    refine own_st (T' := T5) (g' := (mkF m 66 #[.val (.int p1), .val (.int p2), .val (.int p3), .val (.long q4), .second, .val (.long q5), .second, .val (.ref b1), .val (.int (p1 % (40 : Int32))), .val (.int (own_cl (0 : Int32) (p1 % (40 : Int32)))), .val (.int (1 : Int32)), .val (.int (p3 &&& (3 : Int32))), .unset, .unset, .unset] [(.int (p3 &&& (3 : Int32)))])) (fun t k => XS.iload X5.here hx rfl (hb hby at_64) rfl k) ?_
    refine own_st (T' := T5) (g' := (mkF m 67 #[.val (.int p1), .val (.int p2), .val (.int p3), .val (.long q4), .second, .val (.long q5), .second, .val (.ref b1), .val (.int (p1 % (40 : Int32))), .val (.int (own_cl (0 : Int32) (p1 % (40 : Int32)))), .val (.int (1 : Int32)), .val (.int (p3 &&& (3 : Int32))), .unset, .unset, .unset] [(.int (2 : Int32)), (.int (p3 &&& (3 : Int32)))])) (fun t k => XS.iconst X5.here hx rfl (hb hby at_66) k) ?_
    have hk8 : (p3 &&& (3 : Int32)) < (2 : Int32) := own_l12 hc55_7
    refine own_st (T' := T5) (g' := (mkF m 77 #[.val (.int p1), .val (.int p2), .val (.int p3), .val (.long q4), .second, .val (.long q5), .second, .val (.ref b1), .val (.int (p1 % (40 : Int32))), .val (.int (own_cl (0 : Int32) (p1 % (40 : Int32)))), .val (.int (1 : Int32)), .val (.int (p3 &&& (3 : Int32))), .unset, .unset, .unset] [])) (fun t k => XS.icmpYes X5.here hx rfl (pc0 := 67) (pc' := 77) rfl (hb hby at_67) rfl (tlt hk8).1 (by decide) (by decide) k) ?_
    refine own_st (T' := T5) (g' := (mkF m 79 #[.val (.int p1), .val (.int p2), .val (.int p3), .val (.long q4), .second, .val (.long q5), .second, .val (.ref b1), .val (.int (p1 % (40 : Int32))), .val (.int (own_cl (0 : Int32) (p1 % (40 : Int32)))), .val (.int (1 : Int32)), .val (.int (p3 &&& (3 : Int32))), .unset, .unset, .unset] [(.int (p3 &&& (3 : Int32)))])) (fun t k => XS.iload X5.here hx rfl (hb hby at_77) rfl k) ?_
    refine own_st (T' := T5) (g' := (mkF m 80 #[.val (.int p1), .val (.int p2), .val (.int p3), .val (.long q4), .second, .val (.long q5), .second, .val (.ref b1), .val (.int (p1 % (40 : Int32))), .val (.int (own_cl (0 : Int32) (p1 % (40 : Int32)))), .val (.int (1 : Int32)), .val (.int (p3 &&& (3 : Int32))), .unset, .unset, .unset] [(.int (3 : Int32)), (.int (p3 &&& (3 : Int32)))])) (fun t k => XS.iconst X5.here hx rfl (hb hby at_79) k) ?_
    have hk9 : (p3 &&& (3 : Int32)) < (3 : Int32) := own_l13 hc55_7
    refine own_st (T' := T5) (g' := (mkF m 89 #[.val (.int p1), .val (.int p2), .val (.int p3), .val (.long q4), .second, .val (.long q5), .second, .val (.ref b1), .val (.int (p1 % (40 : Int32))), .val (.int (own_cl (0 : Int32) (p1 % (40 : Int32)))), .val (.int (1 : Int32)), .val (.int (p3 &&& (3 : Int32))), .unset, .unset, .unset] [])) (fun t k => XS.icmpYes X5.here hx rfl (pc0 := 80) (pc' := 89) rfl (hb hby at_80) rfl (tlt hk9).1 (by decide) (by decide) k) ?_
    refine own_st (T' := T5) (g' := (mkF m 91 #[.val (.int p1), .val (.int p2), .val (.int p3), .val (.long q4), .second, .val (.long q5), .second, .val (.ref b1), .val (.int (p1 % (40 : Int32))), .val (.int (own_cl (0 : Int32) (p1 % (40 : Int32)))), .val (.int (1 : Int32)), .val (.int (p3 &&& (3 : Int32))), .unset, .unset, .unset] [(.ref b1)])) (fun t k => XS.aload X5.here hx rfl (hb hby at_89) rfl rfl k) ?_
    obtain ⟨_, T10, L10, hQ10, X10, st10⟩ := own_callV (y := (⟨"com/example/seriate/seriate/LongList", "capacity", "()I"⟩ : MethodName)) (z := (⟨"com/example/seriate/seriate/LongList", "capacity", "()I"⟩ : MethodName)) (argsL := []) 0 [] (K := "com/example/seriate/seriate/LongList") (own_rm4 l Z a0 hw T3.heap n0 Z3 b1 _ _ LL) X5 hx hZ hown (hw _ (List.mem_of_getElem? (i := 20) rfl)) (hw _ (List.mem_of_getElem? (i := 21) rfl)) (notFace_of_selects (args := #[]) (mvT hZ (hw _ (List.mem_of_getElem? (i := 23) rfl)))) (hw _ (List.mem_of_getElem? (i := 23) rfl)) (hw _ (List.mem_of_getElem? (i := 22) rfl)) (hw _ (List.mem_of_getElem? (i := 24) rfl)) (hw _ (List.mem_of_getElem? (i := 2) rfl)) (by decide) (by decide) (by decide) (by decide) (by decide) e5 LL.exa (g := (mkF m 91 #[.val (.int p1), .val (.int p2), .val (.int p3), .val (.long q4), .second, .val (.long q5), .second, .val (.ref b1), .val (.int (p1 % (40 : Int32))), .val (.int (own_cl (0 : Int32) (p1 % (40 : Int32)))), .val (.int (1 : Int32)), .val (.int (p3 &&& (3 : Int32))), .unset, .unset, .unset] [(.ref b1)])) rfl (by rw [hml]; rfl) (lenOf own_pd4 rfl) rfl (by show 2 * 0 + _ ≤ _; exact Nat.le_of_eq rfl) (hb hby at_91)
    obtain ⟨rfl, e10, rfl⟩ := hQ10
    have X10 : Stand p l e room_1 s m #[(.int p1), (.int p2), (.int p3), (.long q4), (.long q5)] below meth c T10 lc3 2 41 := by have := X10; rwa [List.append_nil] at this
    refine own_st (T' := T10) (g' := (mkF m 94 #[.val (.int p1), .val (.int p2), .val (.int p3), .val (.long q4), .second, .val (.long q5), .second, .val (.ref b1), .val (.int (p1 % (40 : Int32))), .val (.int (own_cl (0 : Int32) (p1 % (40 : Int32)))), .val (.int (1 : Int32)), .val (.int (p3 &&& (3 : Int32))), .unset, .unset, .unset] [(.int (own_cl (0 : Int32) (p1 % (40 : Int32))))])) st10 ?_
    refine own_st (T' := T10) (g' := (mkF m 96 #[.val (.int p1), .val (.int p2), .val (.int p3), .val (.long q4), .second, .val (.long q5), .second, .val (.ref b1), .val (.int (p1 % (40 : Int32))), .val (.int (own_cl (0 : Int32) (p1 % (40 : Int32)))), .val (.int (1 : Int32)), .val (.int (p3 &&& (3 : Int32))), .val (.int (own_cl (0 : Int32) (p1 % (40 : Int32)))), .unset, .unset] [])) (fun t k => XS.istore X10.here hx rfl (hb hby at_94) rfl (l' := #[.val (.int p1), .val (.int p2), .val (.int p3), .val (.long q4), .second, .val (.long q5), .second, .val (.ref b1), .val (.int (p1 % (40 : Int32))), .val (.int (own_cl (0 : Int32) (p1 % (40 : Int32)))), .val (.int (1 : Int32)), .val (.int (p3 &&& (3 : Int32))), .val (.int (own_cl (0 : Int32) (p1 % (40 : Int32)))), .unset, .unset]) rfl k) ?_
    refine own_st (T' := T10) (g' := (mkF m 97 #[.val (.int p1), .val (.int p2), .val (.int p3), .val (.long q4), .second, .val (.long q5), .second, .val (.ref b1), .val (.int (p1 % (40 : Int32))), .val (.int (own_cl (0 : Int32) (p1 % (40 : Int32)))), .val (.int (1 : Int32)), .val (.int (p3 &&& (3 : Int32))), .val (.int (own_cl (0 : Int32) (p1 % (40 : Int32)))), .unset, .unset] [(.int p2)])) (fun t k => XS.iloadN X10.here hx rfl (hb hby at_96) rfl k) ?_
    refine own_st (T' := T10) (g' := (mkF m 99 #[.val (.int p1), .val (.int p2), .val (.int p3), .val (.long q4), .second, .val (.long q5), .second, .val (.ref b1), .val (.int (p1 % (40 : Int32))), .val (.int (own_cl (0 : Int32) (p1 % (40 : Int32)))), .val (.int (1 : Int32)), .val (.int (p3 &&& (3 : Int32))), .val (.int (own_cl (0 : Int32) (p1 % (40 : Int32)))), .unset, .unset] [(.int (40 : Int32)), (.int p2)])) (fun t k => XS.bipush X10.here hx rfl (hb hby at_97) k) ?_
    refine own_st (T' := T10) (g' := (mkF m 100 #[.val (.int p1), .val (.int p2), .val (.int p3), .val (.long q4), .second, .val (.long q5), .second, .val (.ref b1), .val (.int (p1 % (40 : Int32))), .val (.int (own_cl (0 : Int32) (p1 % (40 : Int32)))), .val (.int (1 : Int32)), .val (.int (p3 &&& (3 : Int32))), .val (.int (own_cl (0 : Int32) (p1 % (40 : Int32)))), .unset, .unset] [(.int (p2 % (40 : Int32)))])) (fun t k => iremM (g := (mkF m 99 #[.val (.int p1), .val (.int p2), .val (.int p3), .val (.long q4), .second, .val (.long q5), .second, .val (.ref b1), .val (.int (p1 % (40 : Int32))), .val (.int (own_cl (0 : Int32) (p1 % (40 : Int32)))), .val (.int (1 : Int32)), .val (.int (p3 &&& (3 : Int32))), .val (.int (own_cl (0 : Int32) (p1 % (40 : Int32)))), .unset, .unset] [(.int (40 : Int32)), (.int p2)])) X10 hx rfl (hb hby at_99) rfl (by decide) k) ?_
    refine own_st (T' := T10) (g' := (mkF m 102 #[.val (.int p1), .val (.int p2), .val (.int p3), .val (.long q4), .second, .val (.long q5), .second, .val (.ref b1), .val (.int (p1 % (40 : Int32))), .val (.int (own_cl (0 : Int32) (p1 % (40 : Int32)))), .val (.int (1 : Int32)), .val (.int (p3 &&& (3 : Int32))), .val (.int (own_cl (0 : Int32) (p1 % (40 : Int32)))), .val (.int (p2 % (40 : Int32))), .unset] [])) (fun t k => XS.istore X10.here hx rfl (hb hby at_100) rfl (l' := #[.val (.int p1), .val (.int p2), .val (.int p3), .val (.long q4), .second, .val (.long q5), .second, .val (.ref b1), .val (.int (p1 % (40 : Int32))), .val (.int (own_cl (0 : Int32) (p1 % (40 : Int32)))), .val (.int (1 : Int32)), .val (.int (p3 &&& (3 : Int32))), .val (.int (own_cl (0 : Int32) (p1 % (40 : Int32)))), .val (.int (p2 % (40 : Int32))), .unset]) rfl k) ?_
    refine own_st (T' := T10) (g' := (mkF m 104 #[.val (.int p1), .val (.int p2), .val (.int p3), .val (.long q4), .second, .val (.long q5), .second, .val (.ref b1), .val (.int (p1 % (40 : Int32))), .val (.int (own_cl (0 : Int32) (p1 % (40 : Int32)))), .val (.int (1 : Int32)), .val (.int (p3 &&& (3 : Int32))), .val (.int (own_cl (0 : Int32) (p1 % (40 : Int32)))), .val (.int (p2 % (40 : Int32))), .unset] [(.ref b1)])) (fun t k => XS.aload X10.here hx rfl (hb hby at_102) rfl rfl k) ?_
    refine own_st (T' := T10) (g' := (mkF m 106 #[.val (.int p1), .val (.int p2), .val (.int p3), .val (.long q4), .second, .val (.long q5), .second, .val (.ref b1), .val (.int (p1 % (40 : Int32))), .val (.int (own_cl (0 : Int32) (p1 % (40 : Int32)))), .val (.int (1 : Int32)), .val (.int (p3 &&& (3 : Int32))), .val (.int (own_cl (0 : Int32) (p1 % (40 : Int32)))), .val (.int (p2 % (40 : Int32))), .unset] [(.int (p2 % (40 : Int32))), (.ref b1)])) (fun t k => XS.iload X10.here hx rfl (hb hby at_104) rfl k) ?_
    obtain ⟨_, T11, L11, hQ11, X11, st11⟩ := own_callV (y := (⟨"com/example/seriate/seriate/LongList", "clear", "(I)V"⟩ : MethodName)) (z := (⟨"com/example/seriate/seriate/LongList", "clear", "(I)V"⟩ : MethodName)) (argsL := [(.int (p2 % (40 : Int32)))]) 0 [] (K := "com/example/seriate/seriate/LongList") (own_rm3 l Z a0 hw T3.heap n0 Z3 b1 (p2 % (40 : Int32)) O s_NO S_NO A_NO g_b1 (own_rem _) _ _ LL) X10 hx hZ hown (hw _ (List.mem_of_getElem? (i := 13) rfl)) (hw _ (List.mem_of_getElem? (i := 14) rfl)) (notFace_of_selects (args := #[]) (mvT hZ (hw _ (List.mem_of_getElem? (i := 16) rfl)))) (hw _ (List.mem_of_getElem? (i := 16) rfl)) (hw _ (List.mem_of_getElem? (i := 15) rfl)) (hw _ (List.mem_of_getElem? (i := 17) rfl)) (hw _ (List.mem_of_getElem? (i := 2) rfl)) (by decide) (by decide) (by decide) (by decide) (by decide) e10 LL.exa (g := (mkF m 106 #[.val (.int p1), .val (.int p2), .val (.int p3), .val (.long q4), .second, .val (.long q5), .second, .val (.ref b1), .val (.int (p1 % (40 : Int32))), .val (.int (own_cl (0 : Int32) (p1 % (40 : Int32)))), .val (.int (1 : Int32)), .val (.int (p3 &&& (3 : Int32))), .val (.int (own_cl (0 : Int32) (p1 % (40 : Int32)))), .val (.int (p2 % (40 : Int32))), .unset] [(.int (p2 % (40 : Int32))), (.ref b1)])) rfl (by rw [hml]; rfl) (lenOf own_pd3 rfl) rfl (by show 2 * 0 + _ ≤ _; exact Nat.le_of_eq rfl) (hb hby at_106)
    obtain ⟨rfl, N11q, O, LL⟩ := hQ11
    have Z11 : n0 ≤ T11.heap.size := by rw [← O.1]; exact O.2.1
    have N11 := Fr.app N3 N11q
    generalize hlc11 : (lc3 ++ L11 : List Loc) = lc11 at X11 N11
    have X11 : Stand p l e room_1 s m #[(.int p1), (.int p2), (.int p3), (.long q4), (.long q5)] below meth c T11 lc11 3 80 := X11
    refine own_st (T' := T11) (g' := (mkF m 109 #[.val (.int p1), .val (.int p2), .val (.int p3), .val (.long q4), .second, .val (.long q5), .second, .val (.ref b1), .val (.int (p1 % (40 : Int32))), .val (.int (own_cl (0 : Int32) (p1 % (40 : Int32)))), .val (.int (1 : Int32)), .val (.int (p3 &&& (3 : Int32))), .val (.int (own_cl (0 : Int32) (p1 % (40 : Int32)))), .val (.int (p2 % (40 : Int32))), .unset] [])) st11 ?_
    refine own_st (T' := T11) (g' := (mkF m 111 #[.val (.int p1), .val (.int p2), .val (.int p3), .val (.long q4), .second, .val (.long q5), .second, .val (.ref b1), .val (.int (p1 % (40 : Int32))), .val (.int (own_cl (0 : Int32) (p1 % (40 : Int32)))), .val (.int (1 : Int32)), .val (.int (p3 &&& (3 : Int32))), .val (.int (own_cl (0 : Int32) (p1 % (40 : Int32)))), .val (.int (p2 % (40 : Int32))), .unset] [(.ref b1)])) (fun t k => XS.aload X11.here hx rfl (hb hby at_109) rfl rfl k) ?_
    obtain ⟨_, T12, L12, hQ12, X12, st12⟩ := own_callV (y := (⟨"com/example/seriate/seriate/LongList", "size", "()I"⟩ : MethodName)) (z := (⟨"com/example/seriate/seriate/LongList", "size", "()I"⟩ : MethodName)) (argsL := []) 0 [] (K := "com/example/seriate/seriate/LongList") (own_rm9 l Z a0 hw T11.heap n0 Z11 b1 _ _ LL) X11 hx hZ hown (hw _ (List.mem_of_getElem? (i := 47) rfl)) (hw _ (List.mem_of_getElem? (i := 48) rfl)) (notFace_of_selects (args := #[]) (mvT hZ (hw _ (List.mem_of_getElem? (i := 50) rfl)))) (hw _ (List.mem_of_getElem? (i := 50) rfl)) (hw _ (List.mem_of_getElem? (i := 49) rfl)) (hw _ (List.mem_of_getElem? (i := 51) rfl)) (hw _ (List.mem_of_getElem? (i := 2) rfl)) (by decide) (by decide) (by decide) (by decide) (by decide) rfl LL.exa (g := (mkF m 111 #[.val (.int p1), .val (.int p2), .val (.int p3), .val (.long q4), .second, .val (.long q5), .second, .val (.ref b1), .val (.int (p1 % (40 : Int32))), .val (.int (own_cl (0 : Int32) (p1 % (40 : Int32)))), .val (.int (1 : Int32)), .val (.int (p3 &&& (3 : Int32))), .val (.int (own_cl (0 : Int32) (p1 % (40 : Int32)))), .val (.int (p2 % (40 : Int32))), .unset] [(.ref b1)])) rfl (by rw [hml]; rfl) (lenOf own_pd4 rfl) rfl (by show 2 * 0 + _ ≤ _; exact Nat.le_of_eq rfl) (hb hby at_111)
    obtain ⟨rfl, e12, rfl⟩ := hQ12
    have X12 : Stand p l e room_1 s m #[(.int p1), (.int p2), (.int p3), (.long q4), (.long q5)] below meth c T12 lc11 3 80 := by have := X12; rwa [List.append_nil] at this
    refine own_st (T' := T12) (g' := (mkF m 114 #[.val (.int p1), .val (.int p2), .val (.int p3), .val (.long q4), .second, .val (.long q5), .second, .val (.ref b1), .val (.int (p1 % (40 : Int32))), .val (.int (own_cl (0 : Int32) (p1 % (40 : Int32)))), .val (.int (1 : Int32)), .val (.int (p3 &&& (3 : Int32))), .val (.int (own_cl (0 : Int32) (p1 % (40 : Int32)))), .val (.int (p2 % (40 : Int32))), .unset] [(.int (0 : Int32))])) st12 ?_
    refine own_st (T' := T12) (g' := (mkF m 117 #[.val (.int p1), .val (.int p2), .val (.int p3), .val (.long q4), .second, .val (.long q5), .second, .val (.ref b1), .val (.int (p1 % (40 : Int32))), .val (.int (own_cl (0 : Int32) (p1 % (40 : Int32)))), .val (.int (1 : Int32)), .val (.int (p3 &&& (3 : Int32))), .val (.int (own_cl (0 : Int32) (p1 % (40 : Int32)))), .val (.int (p2 % (40 : Int32))), .unset] [])) (fun t k => XS.ifNo X12.here hx rfl (hb hby at_114) rfl ((if0 _ _).trans (teq (by decide)).2) k) ?_
    refine own_st (T' := T12) (g' := (mkF m 119 #[.val (.int p1), .val (.int p2), .val (.int p3), .val (.long q4), .second, .val (.long q5), .second, .val (.ref b1), .val (.int (p1 % (40 : Int32))), .val (.int (own_cl (0 : Int32) (p1 % (40 : Int32)))), .val (.int (1 : Int32)), .val (.int (p3 &&& (3 : Int32))), .val (.int (own_cl (0 : Int32) (p1 % (40 : Int32)))), .val (.int (p2 % (40 : Int32))), .unset] [(.ref b1)])) (fun t k => XS.aload X12.here hx rfl (hb hby at_117) rfl rfl k) ?_
    obtain ⟨_, T13, L13, hQ13, X13, st13⟩ := own_callV (y := (⟨"com/example/seriate/seriate/LongList", "capacity", "()I"⟩ : MethodName)) (z := (⟨"com/example/seriate/seriate/LongList", "capacity", "()I"⟩ : MethodName)) (argsL := []) 0 [] (K := "com/example/seriate/seriate/LongList") (own_rm4 l Z a0 hw T11.heap n0 Z11 b1 _ _ LL) X12 hx hZ hown (hw _ (List.mem_of_getElem? (i := 20) rfl)) (hw _ (List.mem_of_getElem? (i := 21) rfl)) (notFace_of_selects (args := #[]) (mvT hZ (hw _ (List.mem_of_getElem? (i := 23) rfl)))) (hw _ (List.mem_of_getElem? (i := 23) rfl)) (hw _ (List.mem_of_getElem? (i := 22) rfl)) (hw _ (List.mem_of_getElem? (i := 24) rfl)) (hw _ (List.mem_of_getElem? (i := 2) rfl)) (by decide) (by decide) (by decide) (by decide) (by decide) e12 LL.exa (g := (mkF m 119 #[.val (.int p1), .val (.int p2), .val (.int p3), .val (.long q4), .second, .val (.long q5), .second, .val (.ref b1), .val (.int (p1 % (40 : Int32))), .val (.int (own_cl (0 : Int32) (p1 % (40 : Int32)))), .val (.int (1 : Int32)), .val (.int (p3 &&& (3 : Int32))), .val (.int (own_cl (0 : Int32) (p1 % (40 : Int32)))), .val (.int (p2 % (40 : Int32))), .unset] [(.ref b1)])) rfl (by rw [hml]; rfl) (lenOf own_pd4 rfl) rfl (by show 2 * 0 + _ ≤ _; exact Nat.le_of_eq rfl) (hb hby at_119)
    obtain ⟨rfl, e13, rfl⟩ := hQ13
    have X13 : Stand p l e room_1 s m #[(.int p1), (.int p2), (.int p3), (.long q4), (.long q5)] below meth c T13 lc11 3 80 := by have := X13; rwa [List.append_nil] at this
    refine own_st (T' := T13) (g' := (mkF m 122 #[.val (.int p1), .val (.int p2), .val (.int p3), .val (.long q4), .second, .val (.long q5), .second, .val (.ref b1), .val (.int (p1 % (40 : Int32))), .val (.int (own_cl (0 : Int32) (p1 % (40 : Int32)))), .val (.int (1 : Int32)), .val (.int (p3 &&& (3 : Int32))), .val (.int (own_cl (0 : Int32) (p1 % (40 : Int32)))), .val (.int (p2 % (40 : Int32))), .unset] [(.int (own_cl (own_cl (0 : Int32) (p1 % (40 : Int32))) (p2 % (40 : Int32))))])) st13 ?_
    refine own_st (T' := T13) (g' := (mkF m 124 #[.val (.int p1), .val (.int p2), .val (.int p3), .val (.long q4), .second, .val (.long q5), .second, .val (.ref b1), .val (.int (p1 % (40 : Int32))), .val (.int (own_cl (0 : Int32) (p1 % (40 : Int32)))), .val (.int (1 : Int32)), .val (.int (p3 &&& (3 : Int32))), .val (.int (own_cl (0 : Int32) (p1 % (40 : Int32)))), .val (.int (p2 % (40 : Int32))), .unset] [(.int (own_cl (0 : Int32) (p1 % (40 : Int32)))), (.int (own_cl (own_cl (0 : Int32) (p1 % (40 : Int32))) (p2 % (40 : Int32))))])) (fun t k => XS.iload X13.here hx rfl (hb hby at_122) rfl k) ?_
    refine own_st (T' := T13) (g' := (mkF m 126 #[.val (.int p1), .val (.int p2), .val (.int p3), .val (.long q4), .second, .val (.long q5), .second, .val (.ref b1), .val (.int (p1 % (40 : Int32))), .val (.int (own_cl (0 : Int32) (p1 % (40 : Int32)))), .val (.int (1 : Int32)), .val (.int (p3 &&& (3 : Int32))), .val (.int (own_cl (0 : Int32) (p1 % (40 : Int32)))), .val (.int (p2 % (40 : Int32))), .unset] [(.int (p2 % (40 : Int32))), (.int (own_cl (0 : Int32) (p1 % (40 : Int32)))), (.int (own_cl (own_cl (0 : Int32) (p1 % (40 : Int32))) (p2 % (40 : Int32))))])) (fun t k => XS.iload X13.here hx rfl (hb hby at_124) rfl k) ?_
    obtain ⟨r14, hr14⟩ : ∃ q, q = own_max (own_cl (0 : Int32) (p1 % (40 : Int32))) (p2 % (40 : Int32)) := ⟨_, rfl⟩
    obtain ⟨_, T14, L14, hQ14, X14, st14⟩ := own_callS (y := (⟨"java/lang/Math", "max", "(II)I"⟩ : MethodName)) (argsL := [(.int (own_cl (0 : Int32) (p1 % (40 : Int32)))), (.int (p2 % (40 : Int32)))]) 1 [(.int (own_cl (own_cl (0 : Int32) (p1 % (40 : Int32))) (p2 % (40 : Int32))))] (own_rm5 l Z a0 hw T11.heap n0 Z11 (own_cl (0 : Int32) (p1 % (40 : Int32))) (p2 % (40 : Int32)) _ hr14) X13 hx hZ hown (hw _ (List.mem_of_getElem? (i := 25) rfl)) (hw _ (List.mem_of_getElem? (i := 26) rfl)) (hw _ (List.mem_of_getElem? (i := 27) rfl)) (hw _ (List.mem_of_getElem? (i := 28) rfl)) (by decide) (by decide) (by decide) (by decide) (by decide) e13 (g := (mkF m 126 #[.val (.int p1), .val (.int p2), .val (.int p3), .val (.long q4), .second, .val (.long q5), .second, .val (.ref b1), .val (.int (p1 % (40 : Int32))), .val (.int (own_cl (0 : Int32) (p1 % (40 : Int32)))), .val (.int (1 : Int32)), .val (.int (p3 &&& (3 : Int32))), .val (.int (own_cl (0 : Int32) (p1 % (40 : Int32)))), .val (.int (p2 % (40 : Int32))), .unset] [(.int (p2 % (40 : Int32))), (.int (own_cl (0 : Int32) (p1 % (40 : Int32)))), (.int (own_cl (own_cl (0 : Int32) (p1 % (40 : Int32))) (p2 % (40 : Int32))))])) rfl (by rw [hml]; rfl) (lenOf own_pd0 rfl) rfl (by show 2 * 0 + _ ≤ _; exact Nat.le_of_eq rfl) (hb hby at_126)
    obtain ⟨rfl, e14, rfl⟩ := hQ14
    have X14 : Stand p l e room_1 s m #[(.int p1), (.int p2), (.int p3), (.long q4), (.long q5)] below meth c T14 lc11 3 80 := by have := X14; rwa [List.append_nil] at this
    refine own_st (T' := T14) (g' := (mkF m 129 #[.val (.int p1), .val (.int p2), .val (.int p3), .val (.long q4), .second, .val (.long q5), .second, .val (.ref b1), .val (.int (p1 % (40 : Int32))), .val (.int (own_cl (0 : Int32) (p1 % (40 : Int32)))), .val (.int (1 : Int32)), .val (.int (p3 &&& (3 : Int32))), .val (.int (own_cl (0 : Int32) (p1 % (40 : Int32)))), .val (.int (p2 % (40 : Int32))), .unset] [(.int r14), (.int (own_cl (own_cl (0 : Int32) (p1 % (40 : Int32))) (p2 % (40 : Int32))))])) st14 ?_
    have hk15 : (own_cl (own_cl (0 : Int32) (p1 % (40 : Int32))) (p2 % (40 : Int32))) = r14 := by rw [hr14]; rfl
    refine own_st (T' := T14) (g' := (mkF m 132 #[.val (.int p1), .val (.int p2), .val (.int p3), .val (.long q4), .second, .val (.long q5), .second, .val (.ref b1), .val (.int (p1 % (40 : Int32))), .val (.int (own_cl (0 : Int32) (p1 % (40 : Int32)))), .val (.int (1 : Int32)), .val (.int (p3 &&& (3 : Int32))), .val (.int (own_cl (0 : Int32) (p1 % (40 : Int32)))), .val (.int (p2 % (40 : Int32))), .unset] [])) (fun t k => XS.icmpNo X14.here hx rfl (hb hby at_129) rfl (teq hk15).2 k) ?_
    refine own_st (T' := T14) (g' := (mkF m 133 #[.val (.int p1), .val (.int p2), .val (.int p3), .val (.long q4), .second, .val (.long q5), .second, .val (.ref b1), .val (.int (p1 % (40 : Int32))), .val (.int (own_cl (0 : Int32) (p1 % (40 : Int32)))), .val (.int (1 : Int32)), .val (.int (p3 &&& (3 : Int32))), .val (.int (own_cl (0 : Int32) (p1 % (40 : Int32)))), .val (.int (p2 % (40 : Int32))), .unset] [(.int (1 : Int32))])) (fun t k => XS.iconst X14.here hx rfl (hb hby at_132) k) ?_
    refine own_st (T' := T14) (g' := (mkF m 137 #[.val (.int p1), .val (.int p2), .val (.int p3), .val (.long q4), .second, .val (.long q5), .second, .val (.ref b1), .val (.int (p1 % (40 : Int32))), .val (.int (own_cl (0 : Int32) (p1 % (40 : Int32)))), .val (.int (1 : Int32)), .val (.int (p3 &&& (3 : Int32))), .val (.int (own_cl (0 : Int32) (p1 % (40 : Int32)))), .val (.int (p2 % (40 : Int32))), .unset] [(.int (1 : Int32))])) (fun t k => XS.goto X14.here hx rfl (pc0 := 133) (pc' := 137) rfl (hb hby at_133) (by decide) (by decide) k) ?_
    refine own_st (T' := T14) (g' := (mkF m 139 #[.val (.int p1), .val (.int p2), .val (.int p3), .val (.long q4), .second, .val (.long q5), .second, .val (.ref b1), .val (.int (p1 % (40 : Int32))), .val (.int (own_cl (0 : Int32) (p1 % (40 : Int32)))), .val (.int (1 : Int32)), .val (.int (p3 &&& (3 : Int32))), .val (.int (own_cl (0 : Int32) (p1 % (40 : Int32)))), .val (.int (p2 % (40 : Int32))), .val (.int (1 : Int32))] [])) (fun t k => XS.istore X14.here hx rfl (hb hby at_137) rfl (l' := #[.val (.int p1), .val (.int p2), .val (.int p3), .val (.long q4), .second, .val (.long q5), .second, .val (.ref b1), .val (.int (p1 % (40 : Int32))), .val (.int (own_cl (0 : Int32) (p1 % (40 : Int32)))), .val (.int (1 : Int32)), .val (.int (p3 &&& (3 : Int32))), .val (.int (own_cl (0 : Int32) (p1 % (40 : Int32)))), .val (.int (p2 % (40 : Int32))), .val (.int (1 : Int32))]) rfl k) ?_
    refine own_st (T' := T14) (g' := (mkF m 141 #[.val (.int p1), .val (.int p2), .val (.int p3), .val (.long q4), .second, .val (.long q5), .second, .val (.ref b1), .val (.int (p1 % (40 : Int32))), .val (.int (own_cl (0 : Int32) (p1 % (40 : Int32)))), .val (.int (1 : Int32)), .val (.int (p3 &&& (3 : Int32))), .val (.int (own_cl (0 : Int32) (p1 % (40 : Int32)))), .val (.int (p2 % (40 : Int32))), .val (.int (1 : Int32))] [(.int (1 : Int32))])) (fun t k => XS.iload X14.here hx rfl (hb hby at_139) rfl k) ?_
    refine own_st (T' := T14) (g' := (mkF m 144 #[.val (.int p1), .val (.int p2), .val (.int p3), .val (.long q4), .second, .val (.long q5), .second, .val (.ref b1), .val (.int (p1 % (40 : Int32))), .val (.int (own_cl (0 : Int32) (p1 % (40 : Int32)))), .val (.int (1 : Int32)), .val (.int (p3 &&& (3 : Int32))), .val (.int (own_cl (0 : Int32) (p1 % (40 : Int32)))), .val (.int (p2 % (40 : Int32))), .val (.int (1 : Int32))] [])) (fun t k => XS.ifNo X14.here hx rfl (hb hby at_141) rfl ((if0 _ _).trans (feq (by decide)).1) k) ?_
    refine own_st (T' := T14) (g' := (mkF m 146 #[.val (.int p1), .val (.int p2), .val (.int p3), .val (.long q4), .second, .val (.long q5), .second, .val (.ref b1), .val (.int (p1 % (40 : Int32))), .val (.int (own_cl (0 : Int32) (p1 % (40 : Int32)))), .val (.int (1 : Int32)), .val (.int (p3 &&& (3 : Int32))), .val (.int (own_cl (0 : Int32) (p1 % (40 : Int32)))), .val (.int (p2 % (40 : Int32))), .val (.int (1 : Int32))] [(.int (1 : Int32))])) (fun t k => XS.iload X14.here hx rfl (hb hby at_144) rfl k) ?_
    refine own_st (T' := T14) (g' := (mkF m 149 #[.val (.int p1), .val (.int p2), .val (.int p3), .val (.long q4), .second, .val (.long q5), .second, .val (.ref b1), .val (.int (p1 % (40 : Int32))), .val (.int (own_cl (0 : Int32) (p1 % (40 : Int32)))), .val (.int (1 : Int32)), .val (.int (p3 &&& (3 : Int32))), .val (.int (own_cl (0 : Int32) (p1 % (40 : Int32)))), .val (.int (p2 % (40 : Int32))), .val (.int (1 : Int32))] [])) (fun t k => XS.ifNo X14.here hx rfl (hb hby at_146) rfl ((if0 _ _).trans (feq (by decide)).1) k) ?_
    refine own_st (T' := T14) (g' := (mkF m 150 #[.val (.int p1), .val (.int p2), .val (.int p3), .val (.long q4), .second, .val (.long q5), .second, .val (.ref b1), .val (.int (p1 % (40 : Int32))), .val (.int (own_cl (0 : Int32) (p1 % (40 : Int32)))), .val (.int (1 : Int32)), .val (.int (p3 &&& (3 : Int32))), .val (.int (own_cl (0 : Int32) (p1 % (40 : Int32)))), .val (.int (p2 % (40 : Int32))), .val (.int (1 : Int32))] [(.int (1 : Int32))])) (fun t k => XS.iconst X14.here hx rfl (hb hby at_149) k) ?_
    refine own_st (T' := T14) (g' := (mkF m 154 #[.val (.int p1), .val (.int p2), .val (.int p3), .val (.long q4), .second, .val (.long q5), .second, .val (.ref b1), .val (.int (p1 % (40 : Int32))), .val (.int (own_cl (0 : Int32) (p1 % (40 : Int32)))), .val (.int (1 : Int32)), .val (.int (p3 &&& (3 : Int32))), .val (.int (own_cl (0 : Int32) (p1 % (40 : Int32)))), .val (.int (p2 % (40 : Int32))), .val (.int (1 : Int32))] [(.int (1 : Int32))])) (fun t k => XS.goto X14.here hx rfl (pc0 := 150) (pc' := 154) rfl (hb hby at_150) (by decide) (by decide) k) ?_
    exact own_retB X14 hx hlk hret (hb hby at_154) (by decide) (by decide) rfl ⟨rfl, N11⟩
  ·
    refine own_st (T' := T5) (g' := (mkF m 58 #[.val (.int p1), .val (.int p2), .val (.int p3), .val (.long q4), .second, .val (.long q5), .second, .val (.ref b1), .val (.int (p1 % (40 : Int32))), .val (.int (own_cl (0 : Int32) (p1 % (40 : Int32)))), .val (.int (1 : Int32)), .val (.int (p3 &&& (3 : Int32))), .unset, .unset, .unset] [])) (fun t k => XS.icmpNo X5.here hx rfl (hb hby at_55) rfl (flt hc55_7).1 k) ?_
    refine own_st (T' := T5) (g' := (mkF m 60 #[.val (.int p1), .val (.int p2), .val (.int p3), .val (.long q4), .second, .val (.long q5), .second, .val (.ref b1), .val (.int (p1 % (40 : Int32))), .val (.int (own_cl (0 : Int32) (p1 % (40 : Int32)))), .val (.int (1 : Int32)), .val (.int (p3 &&& (3 : Int32))), .unset, .unset, .unset] [(.ref b1)])) (fun t k => XS.aload X5.here hx rfl (hb hby at_58) rfl rfl k) ?_
    refine own_st (T' := T5) (g' := (mkF m 61 #[.val (.int p1), .val (.int p2), .val (.int p3), .val (.long q4), .second, .val (.long q5), .second, .val (.ref b1), .val (.int (p1 % (40 : Int32))), .val (.int (own_cl (0 : Int32) (p1 % (40 : Int32)))), .val (.int (1 : Int32)), .val (.int (p3 &&& (3 : Int32))), .unset, .unset, .unset] [(.long q4), (.ref b1)])) (fun t k => XS.lloadN X5.here hx rfl (hb hby at_60) rfl k) ?_
    have hz16 : ¬ (own_cl (0 : Int32) (p1 % (40 : Int32))) < (0 : Int32) := LL.nn
    obtain ⟨_, T16, L16, hQ16, X16, st16⟩ := own_callV (y := (⟨"com/example/seriate/seriate/LongList", "add", "(J)V"⟩ : MethodName)) (z := (⟨"com/example/seriate/seriate/LongList", "add", "(J)V"⟩ : MethodName)) (argsL := [(.long q4)]) 0 [] (K := "com/example/seriate/seriate/LongList") (own_rm6 l Z a0 hw T3.heap n0 Z3 b1 q4 O s_NO S_NO A_NO g_b1 (0 : Int32) (own_cl (0 : Int32) (p1 % (40 : Int32))) LL (by decide) (by decide) hz16) X5 hx hZ hown (hw _ (List.mem_of_getElem? (i := 29) rfl)) (hw _ (List.mem_of_getElem? (i := 30) rfl)) (notFace_of_selects (args := #[]) (mvT hZ (hw _ (List.mem_of_getElem? (i := 32) rfl)))) (hw _ (List.mem_of_getElem? (i := 32) rfl)) (hw _ (List.mem_of_getElem? (i := 31) rfl)) (hw _ (List.mem_of_getElem? (i := 33) rfl)) (hw _ (List.mem_of_getElem? (i := 2) rfl)) (by decide) (by decide) (by decide) (by decide) (by decide) e5 LL.exa (g := (mkF m 61 #[.val (.int p1), .val (.int p2), .val (.int p3), .val (.long q4), .second, .val (.long q5), .second, .val (.ref b1), .val (.int (p1 % (40 : Int32))), .val (.int (own_cl (0 : Int32) (p1 % (40 : Int32)))), .val (.int (1 : Int32)), .val (.int (p3 &&& (3 : Int32))), .unset, .unset, .unset] [(.long q4), (.ref b1)])) rfl (by rw [hml]; rfl) (lenOf own_pd5 rfl) rfl (by show 2 * 0 + _ ≤ _; exact Nat.le_of_eq rfl) (hb hby at_61)
    obtain ⟨rfl, N16q, O, LL⟩ := hQ16
    have Z16 : n0 ≤ T16.heap.size := by rw [← O.1]; exact O.2.1
    have N16 := Fr.app N3 N16q
    generalize hlc16 : (lc3 ++ L16 : List Loc) = lc16 at X16 N16
    have X16 : Stand p l e room_1 s m #[(.int p1), (.int p2), (.int p3), (.long q4), (.long q5)] below meth c T16 lc16 3 57 := X16
    refine own_st (T' := T16) (g' := (mkF m 64 #[.val (.int p1), .val (.int p2), .val (.int p3), .val (.long q4), .second, .val (.long q5), .second, .val (.ref b1), .val (.int (p1 % (40 : Int32))), .val (.int (own_cl (0 : Int32) (p1 % (40 : Int32)))), .val (.int (1 : Int32)), .val (.int (p3 &&& (3 : Int32))), .unset, .unset, .unset] [])) st16 ?_
    refine own_st (T' := T16) (g' := (mkF m 66 #[.val (.int p1), .val (.int p2), .val (.int p3), .val (.long q4), .second, .val (.long q5), .second, .val (.ref b1), .val (.int (p1 % (40 : Int32))), .val (.int (own_cl (0 : Int32) (p1 % (40 : Int32)))), .val (.int (1 : Int32)), .val (.int (p3 &&& (3 : Int32))), .unset, .unset, .unset] [(.int (p3 &&& (3 : Int32)))])) (fun t k => XS.iload X16.here hx rfl (hb hby at_64) rfl k) ?_
    refine own_st (T' := T16) (g' := (mkF m 67 #[.val (.int p1), .val (.int p2), .val (.int p3), .val (.long q4), .second, .val (.long q5), .second, .val (.ref b1), .val (.int (p1 % (40 : Int32))), .val (.int (own_cl (0 : Int32) (p1 % (40 : Int32)))), .val (.int (1 : Int32)), .val (.int (p3 &&& (3 : Int32))), .unset, .unset, .unset] [(.int (2 : Int32)), (.int (p3 &&& (3 : Int32)))])) (fun t k => XS.iconst X16.here hx rfl (hb hby at_66) k) ?_
    by_cases hc67_17 : (p3 &&& (3 : Int32)) < (2 : Int32)
    ·
      refine own_st (T' := T16) (g' := (mkF m 77 #[.val (.int p1), .val (.int p2), .val (.int p3), .val (.long q4), .second, .val (.long q5), .second, .val (.ref b1), .val (.int (p1 % (40 : Int32))), .val (.int (own_cl (0 : Int32) (p1 % (40 : Int32)))), .val (.int (1 : Int32)), .val (.int (p3 &&& (3 : Int32))), .unset, .unset, .unset] [])) (fun t k => XS.icmpYes X16.here hx rfl (pc0 := 67) (pc' := 77) rfl (hb hby at_67) rfl (tlt hc67_17).1 (by decide) (by decide) k) ?_
      refine own_st (T' := T16) (g' := (mkF m 79 #[.val (.int p1), .val (.int p2), .val (.int p3), .val (.long q4), .second, .val (.long q5), .second, .val (.ref b1), .val (.int (p1 % (40 : Int32))), .val (.int (own_cl (0 : Int32) (p1 % (40 : Int32)))), .val (.int (1 : Int32)), .val (.int (p3 &&& (3 : Int32))), .unset, .unset, .unset] [(.int (p3 &&& (3 : Int32)))])) (fun t k => XS.iload X16.here hx rfl (hb hby at_77) rfl k) ?_
      refine own_st (T' := T16) (g' := (mkF m 80 #[.val (.int p1), .val (.int p2), .val (.int p3), .val (.long q4), .second, .val (.long q5), .second, .val (.ref b1), .val (.int (p1 % (40 : Int32))), .val (.int (own_cl (0 : Int32) (p1 % (40 : Int32)))), .val (.int (1 : Int32)), .val (.int (p3 &&& (3 : Int32))), .unset, .unset, .unset] [(.int (3 : Int32)), (.int (p3 &&& (3 : Int32)))])) (fun t k => XS.iconst X16.here hx rfl (hb hby at_79) k) ?_
      have hk18 : (p3 &&& (3 : Int32)) < (3 : Int32) := own_l23 hc67_17
      refine own_st (T' := T16) (g' := (mkF m 89 #[.val (.int p1), .val (.int p2), .val (.int p3), .val (.long q4), .second, .val (.long q5), .second, .val (.ref b1), .val (.int (p1 % (40 : Int32))), .val (.int (own_cl (0 : Int32) (p1 % (40 : Int32)))), .val (.int (1 : Int32)), .val (.int (p3 &&& (3 : Int32))), .unset, .unset, .unset] [])) (fun t k => XS.icmpYes X16.here hx rfl (pc0 := 80) (pc' := 89) rfl (hb hby at_80) rfl (tlt hk18).1 (by decide) (by decide) k) ?_
      refine own_st (T' := T16) (g' := (mkF m 91 #[.val (.int p1), .val (.int p2), .val (.int p3), .val (.long q4), .second, .val (.long q5), .second, .val (.ref b1), .val (.int (p1 % (40 : Int32))), .val (.int (own_cl (0 : Int32) (p1 % (40 : Int32)))), .val (.int (1 : Int32)), .val (.int (p3 &&& (3 : Int32))), .unset, .unset, .unset] [(.ref b1)])) (fun t k => XS.aload X16.here hx rfl (hb hby at_89) rfl rfl k) ?_
      obtain ⟨_, T19, L19, hQ19, X19, st19⟩ := own_callV (y := (⟨"com/example/seriate/seriate/LongList", "capacity", "()I"⟩ : MethodName)) (z := (⟨"com/example/seriate/seriate/LongList", "capacity", "()I"⟩ : MethodName)) (argsL := []) 0 [] (K := "com/example/seriate/seriate/LongList") (own_rm4 l Z a0 hw T16.heap n0 Z16 b1 _ _ LL) X16 hx hZ hown (hw _ (List.mem_of_getElem? (i := 20) rfl)) (hw _ (List.mem_of_getElem? (i := 21) rfl)) (notFace_of_selects (args := #[]) (mvT hZ (hw _ (List.mem_of_getElem? (i := 23) rfl)))) (hw _ (List.mem_of_getElem? (i := 23) rfl)) (hw _ (List.mem_of_getElem? (i := 22) rfl)) (hw _ (List.mem_of_getElem? (i := 24) rfl)) (hw _ (List.mem_of_getElem? (i := 2) rfl)) (by decide) (by decide) (by decide) (by decide) (by decide) rfl LL.exa (g := (mkF m 91 #[.val (.int p1), .val (.int p2), .val (.int p3), .val (.long q4), .second, .val (.long q5), .second, .val (.ref b1), .val (.int (p1 % (40 : Int32))), .val (.int (own_cl (0 : Int32) (p1 % (40 : Int32)))), .val (.int (1 : Int32)), .val (.int (p3 &&& (3 : Int32))), .unset, .unset, .unset] [(.ref b1)])) rfl (by rw [hml]; rfl) (lenOf own_pd4 rfl) rfl (by show 2 * 0 + _ ≤ _; exact Nat.le_of_eq rfl) (hb hby at_91)
      obtain ⟨rfl, e19, rfl⟩ := hQ19
      have X19 : Stand p l e room_1 s m #[(.int p1), (.int p2), (.int p3), (.long q4), (.long q5)] below meth c T19 lc16 3 57 := by have := X19; rwa [List.append_nil] at this
      refine own_st (T' := T19) (g' := (mkF m 94 #[.val (.int p1), .val (.int p2), .val (.int p3), .val (.long q4), .second, .val (.long q5), .second, .val (.ref b1), .val (.int (p1 % (40 : Int32))), .val (.int (own_cl (0 : Int32) (p1 % (40 : Int32)))), .val (.int (1 : Int32)), .val (.int (p3 &&& (3 : Int32))), .unset, .unset, .unset] [(.int (own_ad (0 : Int32) (own_cl (0 : Int32) (p1 % (40 : Int32)))))])) st19 ?_
      refine own_st (T' := T19) (g' := (mkF m 96 #[.val (.int p1), .val (.int p2), .val (.int p3), .val (.long q4), .second, .val (.long q5), .second, .val (.ref b1), .val (.int (p1 % (40 : Int32))), .val (.int (own_cl (0 : Int32) (p1 % (40 : Int32)))), .val (.int (1 : Int32)), .val (.int (p3 &&& (3 : Int32))), .val (.int (own_ad (0 : Int32) (own_cl (0 : Int32) (p1 % (40 : Int32))))), .unset, .unset] [])) (fun t k => XS.istore X19.here hx rfl (hb hby at_94) rfl (l' := #[.val (.int p1), .val (.int p2), .val (.int p3), .val (.long q4), .second, .val (.long q5), .second, .val (.ref b1), .val (.int (p1 % (40 : Int32))), .val (.int (own_cl (0 : Int32) (p1 % (40 : Int32)))), .val (.int (1 : Int32)), .val (.int (p3 &&& (3 : Int32))), .val (.int (own_ad (0 : Int32) (own_cl (0 : Int32) (p1 % (40 : Int32))))), .unset, .unset]) rfl k) ?_
      refine own_st (T' := T19) (g' := (mkF m 97 #[.val (.int p1), .val (.int p2), .val (.int p3), .val (.long q4), .second, .val (.long q5), .second, .val (.ref b1), .val (.int (p1 % (40 : Int32))), .val (.int (own_cl (0 : Int32) (p1 % (40 : Int32)))), .val (.int (1 : Int32)), .val (.int (p3 &&& (3 : Int32))), .val (.int (own_ad (0 : Int32) (own_cl (0 : Int32) (p1 % (40 : Int32))))), .unset, .unset] [(.int p2)])) (fun t k => XS.iloadN X19.here hx rfl (hb hby at_96) rfl k) ?_
      refine own_st (T' := T19) (g' := (mkF m 99 #[.val (.int p1), .val (.int p2), .val (.int p3), .val (.long q4), .second, .val (.long q5), .second, .val (.ref b1), .val (.int (p1 % (40 : Int32))), .val (.int (own_cl (0 : Int32) (p1 % (40 : Int32)))), .val (.int (1 : Int32)), .val (.int (p3 &&& (3 : Int32))), .val (.int (own_ad (0 : Int32) (own_cl (0 : Int32) (p1 % (40 : Int32))))), .unset, .unset] [(.int (40 : Int32)), (.int p2)])) (fun t k => XS.bipush X19.here hx rfl (hb hby at_97) k) ?_
      refine own_st (T' := T19) (g' := (mkF m 100 #[.val (.int p1), .val (.int p2), .val (.int p3), .val (.long q4), .second, .val (.long q5), .second, .val (.ref b1), .val (.int (p1 % (40 : Int32))), .val (.int (own_cl (0 : Int32) (p1 % (40 : Int32)))), .val (.int (1 : Int32)), .val (.int (p3 &&& (3 : Int32))), .val (.int (own_ad (0 : Int32) (own_cl (0 : Int32) (p1 % (40 : Int32))))), .unset, .unset] [(.int (p2 % (40 : Int32)))])) (fun t k => iremM (g := (mkF m 99 #[.val (.int p1), .val (.int p2), .val (.int p3), .val (.long q4), .second, .val (.long q5), .second, .val (.ref b1), .val (.int (p1 % (40 : Int32))), .val (.int (own_cl (0 : Int32) (p1 % (40 : Int32)))), .val (.int (1 : Int32)), .val (.int (p3 &&& (3 : Int32))), .val (.int (own_ad (0 : Int32) (own_cl (0 : Int32) (p1 % (40 : Int32))))), .unset, .unset] [(.int (40 : Int32)), (.int p2)])) X19 hx rfl (hb hby at_99) rfl (by decide) k) ?_
      refine own_st (T' := T19) (g' := (mkF m 102 #[.val (.int p1), .val (.int p2), .val (.int p3), .val (.long q4), .second, .val (.long q5), .second, .val (.ref b1), .val (.int (p1 % (40 : Int32))), .val (.int (own_cl (0 : Int32) (p1 % (40 : Int32)))), .val (.int (1 : Int32)), .val (.int (p3 &&& (3 : Int32))), .val (.int (own_ad (0 : Int32) (own_cl (0 : Int32) (p1 % (40 : Int32))))), .val (.int (p2 % (40 : Int32))), .unset] [])) (fun t k => XS.istore X19.here hx rfl (hb hby at_100) rfl (l' := #[.val (.int p1), .val (.int p2), .val (.int p3), .val (.long q4), .second, .val (.long q5), .second, .val (.ref b1), .val (.int (p1 % (40 : Int32))), .val (.int (own_cl (0 : Int32) (p1 % (40 : Int32)))), .val (.int (1 : Int32)), .val (.int (p3 &&& (3 : Int32))), .val (.int (own_ad (0 : Int32) (own_cl (0 : Int32) (p1 % (40 : Int32))))), .val (.int (p2 % (40 : Int32))), .unset]) rfl k) ?_
      refine own_st (T' := T19) (g' := (mkF m 104 #[.val (.int p1), .val (.int p2), .val (.int p3), .val (.long q4), .second, .val (.long q5), .second, .val (.ref b1), .val (.int (p1 % (40 : Int32))), .val (.int (own_cl (0 : Int32) (p1 % (40 : Int32)))), .val (.int (1 : Int32)), .val (.int (p3 &&& (3 : Int32))), .val (.int (own_ad (0 : Int32) (own_cl (0 : Int32) (p1 % (40 : Int32))))), .val (.int (p2 % (40 : Int32))), .unset] [(.ref b1)])) (fun t k => XS.aload X19.here hx rfl (hb hby at_102) rfl rfl k) ?_
      refine own_st (T' := T19) (g' := (mkF m 106 #[.val (.int p1), .val (.int p2), .val (.int p3), .val (.long q4), .second, .val (.long q5), .second, .val (.ref b1), .val (.int (p1 % (40 : Int32))), .val (.int (own_cl (0 : Int32) (p1 % (40 : Int32)))), .val (.int (1 : Int32)), .val (.int (p3 &&& (3 : Int32))), .val (.int (own_ad (0 : Int32) (own_cl (0 : Int32) (p1 % (40 : Int32))))), .val (.int (p2 % (40 : Int32))), .unset] [(.int (p2 % (40 : Int32))), (.ref b1)])) (fun t k => XS.iload X19.here hx rfl (hb hby at_104) rfl k) ?_
      obtain ⟨_, T20, L20, hQ20, X20, st20⟩ := own_callV (y := (⟨"com/example/seriate/seriate/LongList", "clear", "(I)V"⟩ : MethodName)) (z := (⟨"com/example/seriate/seriate/LongList", "clear", "(I)V"⟩ : MethodName)) (argsL := [(.int (p2 % (40 : Int32)))]) 0 [] (K := "com/example/seriate/seriate/LongList") (own_rm3 l Z a0 hw T16.heap n0 Z16 b1 (p2 % (40 : Int32)) O s_NO S_NO A_NO g_b1 (own_rem _) _ _ LL) X19 hx hZ hown (hw _ (List.mem_of_getElem? (i := 13) rfl)) (hw _ (List.mem_of_getElem? (i := 14) rfl)) (notFace_of_selects (args := #[]) (mvT hZ (hw _ (List.mem_of_getElem? (i := 16) rfl)))) (hw _ (List.mem_of_getElem? (i := 16) rfl)) (hw _ (List.mem_of_getElem? (i := 15) rfl)) (hw _ (List.mem_of_getElem? (i := 17) rfl)) (hw _ (List.mem_of_getElem? (i := 2) rfl)) (by decide) (by decide) (by decide) (by decide) (by decide) e19 LL.exa (g := (mkF m 106 #[.val (.int p1), .val (.int p2), .val (.int p3), .val (.long q4), .second, .val (.long q5), .second, .val (.ref b1), .val (.int (p1 % (40 : Int32))), .val (.int (own_cl (0 : Int32) (p1 % (40 : Int32)))), .val (.int (1 : Int32)), .val (.int (p3 &&& (3 : Int32))), .val (.int (own_ad (0 : Int32) (own_cl (0 : Int32) (p1 % (40 : Int32))))), .val (.int (p2 % (40 : Int32))), .unset] [(.int (p2 % (40 : Int32))), (.ref b1)])) rfl (by rw [hml]; rfl) (lenOf own_pd3 rfl) rfl (by show 2 * 0 + _ ≤ _; exact Nat.le_of_eq rfl) (hb hby at_106)
      obtain ⟨rfl, N20q, O, LL⟩ := hQ20
      have Z20 : n0 ≤ T20.heap.size := by rw [← O.1]; exact O.2.1
      have N20 := Fr.app N16 N20q
      generalize hlc20 : (lc16 ++ L20 : List Loc) = lc20 at X20 N20
      have X20 : Stand p l e room_1 s m #[(.int p1), (.int p2), (.int p3), (.long q4), (.long q5)] below meth c T20 lc20 4 96 := X20
      refine own_st (T' := T20) (g' := (mkF m 109 #[.val (.int p1), .val (.int p2), .val (.int p3), .val (.long q4), .second, .val (.long q5), .second, .val (.ref b1), .val (.int (p1 % (40 : Int32))), .val (.int (own_cl (0 : Int32) (p1 % (40 : Int32)))), .val (.int (1 : Int32)), .val (.int (p3 &&& (3 : Int32))), .val (.int (own_ad (0 : Int32) (own_cl (0 : Int32) (p1 % (40 : Int32))))), .val (.int (p2 % (40 : Int32))), .unset] [])) st20 ?_
      refine own_st (T' := T20) (g' := (mkF m 111 #[.val (.int p1), .val (.int p2), .val (.int p3), .val (.long q4), .second, .val (.long q5), .second, .val (.ref b1), .val (.int (p1 % (40 : Int32))), .val (.int (own_cl (0 : Int32) (p1 % (40 : Int32)))), .val (.int (1 : Int32)), .val (.int (p3 &&& (3 : Int32))), .val (.int (own_ad (0 : Int32) (own_cl (0 : Int32) (p1 % (40 : Int32))))), .val (.int (p2 % (40 : Int32))), .unset] [(.ref b1)])) (fun t k => XS.aload X20.here hx rfl (hb hby at_109) rfl rfl k) ?_
      obtain ⟨_, T21, L21, hQ21, X21, st21⟩ := own_callV (y := (⟨"com/example/seriate/seriate/LongList", "size", "()I"⟩ : MethodName)) (z := (⟨"com/example/seriate/seriate/LongList", "size", "()I"⟩ : MethodName)) (argsL := []) 0 [] (K := "com/example/seriate/seriate/LongList") (own_rm9 l Z a0 hw T20.heap n0 Z20 b1 _ _ LL) X20 hx hZ hown (hw _ (List.mem_of_getElem? (i := 47) rfl)) (hw _ (List.mem_of_getElem? (i := 48) rfl)) (notFace_of_selects (args := #[]) (mvT hZ (hw _ (List.mem_of_getElem? (i := 50) rfl)))) (hw _ (List.mem_of_getElem? (i := 50) rfl)) (hw _ (List.mem_of_getElem? (i := 49) rfl)) (hw _ (List.mem_of_getElem? (i := 51) rfl)) (hw _ (List.mem_of_getElem? (i := 2) rfl)) (by decide) (by decide) (by decide) (by decide) (by decide) rfl LL.exa (g := (mkF m 111 #[.val (.int p1), .val (.int p2), .val (.int p3), .val (.long q4), .second, .val (.long q5), .second, .val (.ref b1), .val (.int (p1 % (40 : Int32))), .val (.int (own_cl (0 : Int32) (p1 % (40 : Int32)))), .val (.int (1 : Int32)), .val (.int (p3 &&& (3 : Int32))), .val (.int (own_ad (0 : Int32) (own_cl (0 : Int32) (p1 % (40 : Int32))))), .val (.int (p2 % (40 : Int32))), .unset] [(.ref b1)])) rfl (by rw [hml]; rfl) (lenOf own_pd4 rfl) rfl (by show 2 * 0 + _ ≤ _; exact Nat.le_of_eq rfl) (hb hby at_111)
      obtain ⟨rfl, e21, rfl⟩ := hQ21
      have X21 : Stand p l e room_1 s m #[(.int p1), (.int p2), (.int p3), (.long q4), (.long q5)] below meth c T21 lc20 4 96 := by have := X21; rwa [List.append_nil] at this
      refine own_st (T' := T21) (g' := (mkF m 114 #[.val (.int p1), .val (.int p2), .val (.int p3), .val (.long q4), .second, .val (.long q5), .second, .val (.ref b1), .val (.int (p1 % (40 : Int32))), .val (.int (own_cl (0 : Int32) (p1 % (40 : Int32)))), .val (.int (1 : Int32)), .val (.int (p3 &&& (3 : Int32))), .val (.int (own_ad (0 : Int32) (own_cl (0 : Int32) (p1 % (40 : Int32))))), .val (.int (p2 % (40 : Int32))), .unset] [(.int (0 : Int32))])) st21 ?_
      refine own_st (T' := T21) (g' := (mkF m 117 #[.val (.int p1), .val (.int p2), .val (.int p3), .val (.long q4), .second, .val (.long q5), .second, .val (.ref b1), .val (.int (p1 % (40 : Int32))), .val (.int (own_cl (0 : Int32) (p1 % (40 : Int32)))), .val (.int (1 : Int32)), .val (.int (p3 &&& (3 : Int32))), .val (.int (own_ad (0 : Int32) (own_cl (0 : Int32) (p1 % (40 : Int32))))), .val (.int (p2 % (40 : Int32))), .unset] [])) (fun t k => XS.ifNo X21.here hx rfl (hb hby at_114) rfl ((if0 _ _).trans (teq (by decide)).2) k) ?_
      refine own_st (T' := T21) (g' := (mkF m 119 #[.val (.int p1), .val (.int p2), .val (.int p3), .val (.long q4), .second, .val (.long q5), .second, .val (.ref b1), .val (.int (p1 % (40 : Int32))), .val (.int (own_cl (0 : Int32) (p1 % (40 : Int32)))), .val (.int (1 : Int32)), .val (.int (p3 &&& (3 : Int32))), .val (.int (own_ad (0 : Int32) (own_cl (0 : Int32) (p1 % (40 : Int32))))), .val (.int (p2 % (40 : Int32))), .unset] [(.ref b1)])) (fun t k => XS.aload X21.here hx rfl (hb hby at_117) rfl rfl k) ?_
      obtain ⟨_, T22, L22, hQ22, X22, st22⟩ := own_callV (y := (⟨"com/example/seriate/seriate/LongList", "capacity", "()I"⟩ : MethodName)) (z := (⟨"com/example/seriate/seriate/LongList", "capacity", "()I"⟩ : MethodName)) (argsL := []) 0 [] (K := "com/example/seriate/seriate/LongList") (own_rm4 l Z a0 hw T20.heap n0 Z20 b1 _ _ LL) X21 hx hZ hown (hw _ (List.mem_of_getElem? (i := 20) rfl)) (hw _ (List.mem_of_getElem? (i := 21) rfl)) (notFace_of_selects (args := #[]) (mvT hZ (hw _ (List.mem_of_getElem? (i := 23) rfl)))) (hw _ (List.mem_of_getElem? (i := 23) rfl)) (hw _ (List.mem_of_getElem? (i := 22) rfl)) (hw _ (List.mem_of_getElem? (i := 24) rfl)) (hw _ (List.mem_of_getElem? (i := 2) rfl)) (by decide) (by decide) (by decide) (by decide) (by decide) e21 LL.exa (g := (mkF m 119 #[.val (.int p1), .val (.int p2), .val (.int p3), .val (.long q4), .second, .val (.long q5), .second, .val (.ref b1), .val (.int (p1 % (40 : Int32))), .val (.int (own_cl (0 : Int32) (p1 % (40 : Int32)))), .val (.int (1 : Int32)), .val (.int (p3 &&& (3 : Int32))), .val (.int (own_ad (0 : Int32) (own_cl (0 : Int32) (p1 % (40 : Int32))))), .val (.int (p2 % (40 : Int32))), .unset] [(.ref b1)])) rfl (by rw [hml]; rfl) (lenOf own_pd4 rfl) rfl (by show 2 * 0 + _ ≤ _; exact Nat.le_of_eq rfl) (hb hby at_119)
      obtain ⟨rfl, e22, rfl⟩ := hQ22
      have X22 : Stand p l e room_1 s m #[(.int p1), (.int p2), (.int p3), (.long q4), (.long q5)] below meth c T22 lc20 4 96 := by have := X22; rwa [List.append_nil] at this
      refine own_st (T' := T22) (g' := (mkF m 122 #[.val (.int p1), .val (.int p2), .val (.int p3), .val (.long q4), .second, .val (.long q5), .second, .val (.ref b1), .val (.int (p1 % (40 : Int32))), .val (.int (own_cl (0 : Int32) (p1 % (40 : Int32)))), .val (.int (1 : Int32)), .val (.int (p3 &&& (3 : Int32))), .val (.int (own_ad (0 : Int32) (own_cl (0 : Int32) (p1 % (40 : Int32))))), .val (.int (p2 % (40 : Int32))), .unset] [(.int (own_cl (own_ad (0 : Int32) (own_cl (0 : Int32) (p1 % (40 : Int32)))) (p2 % (40 : Int32))))])) st22 ?_
      refine own_st (T' := T22) (g' := (mkF m 124 #[.val (.int p1), .val (.int p2), .val (.int p3), .val (.long q4), .second, .val (.long q5), .second, .val (.ref b1), .val (.int (p1 % (40 : Int32))), .val (.int (own_cl (0 : Int32) (p1 % (40 : Int32)))), .val (.int (1 : Int32)), .val (.int (p3 &&& (3 : Int32))), .val (.int (own_ad (0 : Int32) (own_cl (0 : Int32) (p1 % (40 : Int32))))), .val (.int (p2 % (40 : Int32))), .unset] [(.int (own_ad (0 : Int32) (own_cl (0 : Int32) (p1 % (40 : Int32))))), (.int (own_cl (own_ad (0 : Int32) (own_cl (0 : Int32) (p1 % (40 : Int32)))) (p2 % (40 : Int32))))])) (fun t k => XS.iload X22.here hx rfl (hb hby at_122) rfl k) ?_
      refine own_st (T' := T22) (g' := (mkF m 126 #[.val (.int p1), .val (.int p2), .val (.int p3), .val (.long q4), .second, .val (.long q5), .second, .val (.ref b1), .val (.int (p1 % (40 : Int32))), .val (.int (own_cl (0 : Int32) (p1 % (40 : Int32)))), .val (.int (1 : Int32)), .val (.int (p3 &&& (3 : Int32))), .val (.int (own_ad (0 : Int32) (own_cl (0 : Int32) (p1 % (40 : Int32))))), .val (.int (p2 % (40 : Int32))), .unset] [(.int (p2 % (40 : Int32))), (.int (own_ad (0 : Int32) (own_cl (0 : Int32) (p1 % (40 : Int32))))), (.int (own_cl (own_ad (0 : Int32) (own_cl (0 : Int32) (p1 % (40 : Int32)))) (p2 % (40 : Int32))))])) (fun t k => XS.iload X22.here hx rfl (hb hby at_124) rfl k) ?_
      obtain ⟨r23, hr23⟩ : ∃ q, q = own_max (own_ad (0 : Int32) (own_cl (0 : Int32) (p1 % (40 : Int32)))) (p2 % (40 : Int32)) := ⟨_, rfl⟩
      obtain ⟨_, T23, L23, hQ23, X23, st23⟩ := own_callS (y := (⟨"java/lang/Math", "max", "(II)I"⟩ : MethodName)) (argsL := [(.int (own_ad (0 : Int32) (own_cl (0 : Int32) (p1 % (40 : Int32))))), (.int (p2 % (40 : Int32)))]) 1 [(.int (own_cl (own_ad (0 : Int32) (own_cl (0 : Int32) (p1 % (40 : Int32)))) (p2 % (40 : Int32))))] (own_rm5 l Z a0 hw T20.heap n0 Z20 (own_ad (0 : Int32) (own_cl (0 : Int32) (p1 % (40 : Int32)))) (p2 % (40 : Int32)) _ hr23) X22 hx hZ hown (hw _ (List.mem_of_getElem? (i := 25) rfl)) (hw _ (List.mem_of_getElem? (i := 26) rfl)) (hw _ (List.mem_of_getElem? (i := 27) rfl)) (hw _ (List.mem_of_getElem? (i := 28) rfl)) (by decide) (by decide) (by decide) (by decide) (by decide) e22 (g := (mkF m 126 #[.val (.int p1), .val (.int p2), .val (.int p3), .val (.long q4), .second, .val (.long q5), .second, .val (.ref b1), .val (.int (p1 % (40 : Int32))), .val (.int (own_cl (0 : Int32) (p1 % (40 : Int32)))), .val (.int (1 : Int32)), .val (.int (p3 &&& (3 : Int32))), .val (.int (own_ad (0 : Int32) (own_cl (0 : Int32) (p1 % (40 : Int32))))), .val (.int (p2 % (40 : Int32))), .unset] [(.int (p2 % (40 : Int32))), (.int (own_ad (0 : Int32) (own_cl (0 : Int32) (p1 % (40 : Int32))))), (.int (own_cl (own_ad (0 : Int32) (own_cl (0 : Int32) (p1 % (40 : Int32)))) (p2 % (40 : Int32))))])) rfl (by rw [hml]; rfl) (lenOf own_pd0 rfl) rfl (by show 2 * 0 + _ ≤ _; exact Nat.le_of_eq rfl) (hb hby at_126)
      obtain ⟨rfl, e23, rfl⟩ := hQ23
      have X23 : Stand p l e room_1 s m #[(.int p1), (.int p2), (.int p3), (.long q4), (.long q5)] below meth c T23 lc20 4 96 := by have := X23; rwa [List.append_nil] at this
      refine own_st (T' := T23) (g' := (mkF m 129 #[.val (.int p1), .val (.int p2), .val (.int p3), .val (.long q4), .second, .val (.long q5), .second, .val (.ref b1), .val (.int (p1 % (40 : Int32))), .val (.int (own_cl (0 : Int32) (p1 % (40 : Int32)))), .val (.int (1 : Int32)), .val (.int (p3 &&& (3 : Int32))), .val (.int (own_ad (0 : Int32) (own_cl (0 : Int32) (p1 % (40 : Int32))))), .val (.int (p2 % (40 : Int32))), .unset] [(.int r23), (.int (own_cl (own_ad (0 : Int32) (own_cl (0 : Int32) (p1 % (40 : Int32)))) (p2 % (40 : Int32))))])) st23 ?_
      have hk24 : (own_cl (own_ad (0 : Int32) (own_cl (0 : Int32) (p1 % (40 : Int32)))) (p2 % (40 : Int32))) = r23 := by rw [hr23]; rfl
      refine own_st (T' := T23) (g' := (mkF m 132 #[.val (.int p1), .val (.int p2), .val (.int p3), .val (.long q4), .second, .val (.long q5), .second, .val (.ref b1), .val (.int (p1 % (40 : Int32))), .val (.int (own_cl (0 : Int32) (p1 % (40 : Int32)))), .val (.int (1 : Int32)), .val (.int (p3 &&& (3 : Int32))), .val (.int (own_ad (0 : Int32) (own_cl (0 : Int32) (p1 % (40 : Int32))))), .val (.int (p2 % (40 : Int32))), .unset] [])) (fun t k => XS.icmpNo X23.here hx rfl (hb hby at_129) rfl (teq hk24).2 k) ?_
      refine own_st (T' := T23) (g' := (mkF m 133 #[.val (.int p1), .val (.int p2), .val (.int p3), .val (.long q4), .second, .val (.long q5), .second, .val (.ref b1), .val (.int (p1 % (40 : Int32))), .val (.int (own_cl (0 : Int32) (p1 % (40 : Int32)))), .val (.int (1 : Int32)), .val (.int (p3 &&& (3 : Int32))), .val (.int (own_ad (0 : Int32) (own_cl (0 : Int32) (p1 % (40 : Int32))))), .val (.int (p2 % (40 : Int32))), .unset] [(.int (1 : Int32))])) (fun t k => XS.iconst X23.here hx rfl (hb hby at_132) k) ?_
      refine own_st (T' := T23) (g' := (mkF m 137 #[.val (.int p1), .val (.int p2), .val (.int p3), .val (.long q4), .second, .val (.long q5), .second, .val (.ref b1), .val (.int (p1 % (40 : Int32))), .val (.int (own_cl (0 : Int32) (p1 % (40 : Int32)))), .val (.int (1 : Int32)), .val (.int (p3 &&& (3 : Int32))), .val (.int (own_ad (0 : Int32) (own_cl (0 : Int32) (p1 % (40 : Int32))))), .val (.int (p2 % (40 : Int32))), .unset] [(.int (1 : Int32))])) (fun t k => XS.goto X23.here hx rfl (pc0 := 133) (pc' := 137) rfl (hb hby at_133) (by decide) (by decide) k) ?_
      refine own_st (T' := T23) (g' := (mkF m 139 #[.val (.int p1), .val (.int p2), .val (.int p3), .val (.long q4), .second, .val (.long q5), .second, .val (.ref b1), .val (.int (p1 % (40 : Int32))), .val (.int (own_cl (0 : Int32) (p1 % (40 : Int32)))), .val (.int (1 : Int32)), .val (.int (p3 &&& (3 : Int32))), .val (.int (own_ad (0 : Int32) (own_cl (0 : Int32) (p1 % (40 : Int32))))), .val (.int (p2 % (40 : Int32))), .val (.int (1 : Int32))] [])) (fun t k => XS.istore X23.here hx rfl (hb hby at_137) rfl (l' := #[.val (.int p1), .val (.int p2), .val (.int p3), .val (.long q4), .second, .val (.long q5), .second, .val (.ref b1), .val (.int (p1 % (40 : Int32))), .val (.int (own_cl (0 : Int32) (p1 % (40 : Int32)))), .val (.int (1 : Int32)), .val (.int (p3 &&& (3 : Int32))), .val (.int (own_ad (0 : Int32) (own_cl (0 : Int32) (p1 % (40 : Int32))))), .val (.int (p2 % (40 : Int32))), .val (.int (1 : Int32))]) rfl k) ?_
      refine own_st (T' := T23) (g' := (mkF m 141 #[.val (.int p1), .val (.int p2), .val (.int p3), .val (.long q4), .second, .val (.long q5), .second, .val (.ref b1), .val (.int (p1 % (40 : Int32))), .val (.int (own_cl (0 : Int32) (p1 % (40 : Int32)))), .val (.int (1 : Int32)), .val (.int (p3 &&& (3 : Int32))), .val (.int (own_ad (0 : Int32) (own_cl (0 : Int32) (p1 % (40 : Int32))))), .val (.int (p2 % (40 : Int32))), .val (.int (1 : Int32))] [(.int (1 : Int32))])) (fun t k => XS.iload X23.here hx rfl (hb hby at_139) rfl k) ?_
      refine own_st (T' := T23) (g' := (mkF m 144 #[.val (.int p1), .val (.int p2), .val (.int p3), .val (.long q4), .second, .val (.long q5), .second, .val (.ref b1), .val (.int (p1 % (40 : Int32))), .val (.int (own_cl (0 : Int32) (p1 % (40 : Int32)))), .val (.int (1 : Int32)), .val (.int (p3 &&& (3 : Int32))), .val (.int (own_ad (0 : Int32) (own_cl (0 : Int32) (p1 % (40 : Int32))))), .val (.int (p2 % (40 : Int32))), .val (.int (1 : Int32))] [])) (fun t k => XS.ifNo X23.here hx rfl (hb hby at_141) rfl ((if0 _ _).trans (feq (by decide)).1) k) ?_
      refine own_st (T' := T23) (g' := (mkF m 146 #[.val (.int p1), .val (.int p2), .val (.int p3), .val (.long q4), .second, .val (.long q5), .second, .val (.ref b1), .val (.int (p1 % (40 : Int32))), .val (.int (own_cl (0 : Int32) (p1 % (40 : Int32)))), .val (.int (1 : Int32)), .val (.int (p3 &&& (3 : Int32))), .val (.int (own_ad (0 : Int32) (own_cl (0 : Int32) (p1 % (40 : Int32))))), .val (.int (p2 % (40 : Int32))), .val (.int (1 : Int32))] [(.int (1 : Int32))])) (fun t k => XS.iload X23.here hx rfl (hb hby at_144) rfl k) ?_
      refine own_st (T' := T23) (g' := (mkF m 149 #[.val (.int p1), .val (.int p2), .val (.int p3), .val (.long q4), .second, .val (.long q5), .second, .val (.ref b1), .val (.int (p1 % (40 : Int32))), .val (.int (own_cl (0 : Int32) (p1 % (40 : Int32)))), .val (.int (1 : Int32)), .val (.int (p3 &&& (3 : Int32))), .val (.int (own_ad (0 : Int32) (own_cl (0 : Int32) (p1 % (40 : Int32))))), .val (.int (p2 % (40 : Int32))), .val (.int (1 : Int32))] [])) (fun t k => XS.ifNo X23.here hx rfl (hb hby at_146) rfl ((if0 _ _).trans (feq (by decide)).1) k) ?_
      refine own_st (T' := T23) (g' := (mkF m 150 #[.val (.int p1), .val (.int p2), .val (.int p3), .val (.long q4), .second, .val (.long q5), .second, .val (.ref b1), .val (.int (p1 % (40 : Int32))), .val (.int (own_cl (0 : Int32) (p1 % (40 : Int32)))), .val (.int (1 : Int32)), .val (.int (p3 &&& (3 : Int32))), .val (.int (own_ad (0 : Int32) (own_cl (0 : Int32) (p1 % (40 : Int32))))), .val (.int (p2 % (40 : Int32))), .val (.int (1 : Int32))] [(.int (1 : Int32))])) (fun t k => XS.iconst X23.here hx rfl (hb hby at_149) k) ?_
      refine own_st (T' := T23) (g' := (mkF m 154 #[.val (.int p1), .val (.int p2), .val (.int p3), .val (.long q4), .second, .val (.long q5), .second, .val (.ref b1), .val (.int (p1 % (40 : Int32))), .val (.int (own_cl (0 : Int32) (p1 % (40 : Int32)))), .val (.int (1 : Int32)), .val (.int (p3 &&& (3 : Int32))), .val (.int (own_ad (0 : Int32) (own_cl (0 : Int32) (p1 % (40 : Int32))))), .val (.int (p2 % (40 : Int32))), .val (.int (1 : Int32))] [(.int (1 : Int32))])) (fun t k => XS.goto X23.here hx rfl (pc0 := 150) (pc' := 154) rfl (hb hby at_150) (by decide) (by decide) k) ?_
      exact own_retB X23 hx hlk hret (hb hby at_154) (by decide) (by decide) rfl ⟨rfl, N20⟩
    ·
      refine own_st (T' := T16) (g' := (mkF m 70 #[.val (.int p1), .val (.int p2), .val (.int p3), .val (.long q4), .second, .val (.long q5), .second, .val (.ref b1), .val (.int (p1 % (40 : Int32))), .val (.int (own_cl (0 : Int32) (p1 % (40 : Int32)))), .val (.int (1 : Int32)), .val (.int (p3 &&& (3 : Int32))), .unset, .unset, .unset] [])) (fun t k => XS.icmpNo X16.here hx rfl (hb hby at_67) rfl (flt hc67_17).1 k) ?_
      refine own_st (T' := T16) (g' := (mkF m 72 #[.val (.int p1), .val (.int p2), .val (.int p3), .val (.long q4), .second, .val (.long q5), .second, .val (.ref b1), .val (.int (p1 % (40 : Int32))), .val (.int (own_cl (0 : Int32) (p1 % (40 : Int32)))), .val (.int (1 : Int32)), .val (.int (p3 &&& (3 : Int32))), .unset, .unset, .unset] [(.ref b1)])) (fun t k => XS.aload X16.here hx rfl (hb hby at_70) rfl rfl k) ?_
      refine own_st (T' := T16) (g' := (mkF m 74 #[.val (.int p1), .val (.int p2), .val (.int p3), .val (.long q4), .second, .val (.long q5), .second, .val (.ref b1), .val (.int (p1 % (40 : Int32))), .val (.int (own_cl (0 : Int32) (p1 % (40 : Int32)))), .val (.int (1 : Int32)), .val (.int (p3 &&& (3 : Int32))), .unset, .unset, .unset] [(.long q5), (.ref b1)])) (fun t k => XS.lload X16.here hx rfl (hb hby at_72) rfl k) ?_
      have hz25 : ¬ (own_ad (0 : Int32) (own_cl (0 : Int32) (p1 % (40 : Int32)))) < ((0 : Int32) + 1) := own_ad_ge hz16 (by decide)
      obtain ⟨_, T25, L25, hQ25, X25, st25⟩ := own_callV (y := (⟨"com/example/seriate/seriate/LongList", "add", "(J)V"⟩ : MethodName)) (z := (⟨"com/example/seriate/seriate/LongList", "add", "(J)V"⟩ : MethodName)) (argsL := [(.long q5)]) 0 [] (K := "com/example/seriate/seriate/LongList") (own_rm6 l Z a0 hw T16.heap n0 Z16 b1 q5 O s_NO S_NO A_NO g_b1 ((0 : Int32) + 1) (own_ad (0 : Int32) (own_cl (0 : Int32) (p1 % (40 : Int32)))) LL (by decide) (by decide) hz25) X16 hx hZ hown (hw _ (List.mem_of_getElem? (i := 29) rfl)) (hw _ (List.mem_of_getElem? (i := 30) rfl)) (notFace_of_selects (args := #[]) (mvT hZ (hw _ (List.mem_of_getElem? (i := 32) rfl)))) (hw _ (List.mem_of_getElem? (i := 32) rfl)) (hw _ (List.mem_of_getElem? (i := 31) rfl)) (hw _ (List.mem_of_getElem? (i := 33) rfl)) (hw _ (List.mem_of_getElem? (i := 2) rfl)) (by decide) (by decide) (by decide) (by decide) (by decide) rfl LL.exa (g := (mkF m 74 #[.val (.int p1), .val (.int p2), .val (.int p3), .val (.long q4), .second, .val (.long q5), .second, .val (.ref b1), .val (.int (p1 % (40 : Int32))), .val (.int (own_cl (0 : Int32) (p1 % (40 : Int32)))), .val (.int (1 : Int32)), .val (.int (p3 &&& (3 : Int32))), .unset, .unset, .unset] [(.long q5), (.ref b1)])) rfl (by rw [hml]; rfl) (lenOf own_pd5 rfl) rfl (by show 2 * 0 + _ ≤ _; exact Nat.le_of_eq rfl) (hb hby at_74)
      obtain ⟨rfl, N25q, O, LL⟩ := hQ25
      have Z25 : n0 ≤ T25.heap.size := by rw [← O.1]; exact O.2.1
      have N25 := Fr.app N16 N25q
      generalize hlc25 : (lc16 ++ L25 : List Loc) = lc25 at X25 N25
      have X25 : Stand p l e room_1 s m #[(.int p1), (.int p2), (.int p3), (.long q4), (.long q5)] below meth c T25 lc25 4 73 := X25
      refine own_st (T' := T25) (g' := (mkF m 77 #[.val (.int p1), .val (.int p2), .val (.int p3), .val (.long q4), .second, .val (.long q5), .second, .val (.ref b1), .val (.int (p1 % (40 : Int32))), .val (.int (own_cl (0 : Int32) (p1 % (40 : Int32)))), .val (.int (1 : Int32)), .val (.int (p3 &&& (3 : Int32))), .unset, .unset, .unset] [])) st25 ?_
      refine own_st (T' := T25) (g' := (mkF m 79 #[.val (.int p1), .val (.int p2), .val (.int p3), .val (.long q4), .second, .val (.long q5), .second, .val (.ref b1), .val (.int (p1 % (40 : Int32))), .val (.int (own_cl (0 : Int32) (p1 % (40 : Int32)))), .val (.int (1 : Int32)), .val (.int (p3 &&& (3 : Int32))), .unset, .unset, .unset] [(.int (p3 &&& (3 : Int32)))])) (fun t k => XS.iload X25.here hx rfl (hb hby at_77) rfl k) ?_
      refine own_st (T' := T25) (g' := (mkF m 80 #[.val (.int p1), .val (.int p2), .val (.int p3), .val (.long q4), .second, .val (.long q5), .second, .val (.ref b1), .val (.int (p1 % (40 : Int32))), .val (.int (own_cl (0 : Int32) (p1 % (40 : Int32)))), .val (.int (1 : Int32)), .val (.int (p3 &&& (3 : Int32))), .unset, .unset, .unset] [(.int (3 : Int32)), (.int (p3 &&& (3 : Int32)))])) (fun t k => XS.iconst X25.here hx rfl (hb hby at_79) k) ?_
      by_cases hc80_26 : (p3 &&& (3 : Int32)) < (3 : Int32)
      ·
        refine own_st (T' := T25) (g' := (mkF m 89 #[.val (.int p1), .val (.int p2), .val (.int p3), .val (.long q4), .second, .val (.long q5), .second, .val (.ref b1), .val (.int (p1 % (40 : Int32))), .val (.int (own_cl (0 : Int32) (p1 % (40 : Int32)))), .val (.int (1 : Int32)), .val (.int (p3 &&& (3 : Int32))), .unset, .unset, .unset] [])) (fun t k => XS.icmpYes X25.here hx rfl (pc0 := 80) (pc' := 89) rfl (hb hby at_80) rfl (tlt hc80_26).1 (by decide) (by decide) k) ?_
        refine own_st (T' := T25) (g' := (mkF m 91 #[.val (.int p1), .val (.int p2), .val (.int p3), .val (.long q4), .second, .val (.long q5), .second, .val (.ref b1), .val (.int (p1 % (40 : Int32))), .val (.int (own_cl (0 : Int32) (p1 % (40 : Int32)))), .val (.int (1 : Int32)), .val (.int (p3 &&& (3 : Int32))), .unset, .unset, .unset] [(.ref b1)])) (fun t k => XS.aload X25.here hx rfl (hb hby at_89) rfl rfl k) ?_
        obtain ⟨_, T27, L27, hQ27, X27, st27⟩ := own_callV (y := (⟨"com/example/seriate/seriate/LongList", "capacity", "()I"⟩ : MethodName)) (z := (⟨"com/example/seriate/seriate/LongList", "capacity", "()I"⟩ : MethodName)) (argsL := []) 0 [] (K := "com/example/seriate/seriate/LongList") (own_rm4 l Z a0 hw T25.heap n0 Z25 b1 _ _ LL) X25 hx hZ hown (hw _ (List.mem_of_getElem? (i := 20) rfl)) (hw _ (List.mem_of_getElem? (i := 21) rfl)) (notFace_of_selects (args := #[]) (mvT hZ (hw _ (List.mem_of_getElem? (i := 23) rfl)))) (hw _ (List.mem_of_getElem? (i := 23) rfl)) (hw _ (List.mem_of_getElem? (i := 22) rfl)) (hw _ (List.mem_of_getElem? (i := 24) rfl)) (hw _ (List.mem_of_getElem? (i := 2) rfl)) (by decide) (by decide) (by decide) (by decide) (by decide) rfl LL.exa (g := (mkF m 91 #[.val (.int p1), .val (.int p2), .val (.int p3), .val (.long q4), .second, .val (.long q5), .second, .val (.ref b1), .val (.int (p1 % (40 : Int32))), .val (.int (own_cl (0 : Int32) (p1 % (40 : Int32)))), .val (.int (1 : Int32)), .val (.int (p3 &&& (3 : Int32))), .unset, .unset, .unset] [(.ref b1)])) rfl (by rw [hml]; rfl) (lenOf own_pd4 rfl) rfl (by show 2 * 0 + _ ≤ _; exact Nat.le_of_eq rfl) (hb hby at_91)
        obtain ⟨rfl, e27, rfl⟩ := hQ27
        have X27 : Stand p l e room_1 s m #[(.int p1), (.int p2), (.int p3), (.long q4), (.long q5)] below meth c T27 lc25 4 73 := by have := X27; rwa [List.append_nil] at this
        refine own_st (T' := T27) (g' := (mkF m 94 #[.val (.int p1), .val (.int p2), .val (.int p3), .val (.long q4), .second, .val (.long q5), .second, .val (.ref b1), .val (.int (p1 % (40 : Int32))), .val (.int (own_cl (0 : Int32) (p1 % (40 : Int32)))), .val (.int (1 : Int32)), .val (.int (p3 &&& (3 : Int32))), .unset, .unset, .unset] [(.int (own_ad ((0 : Int32) + 1) (own_ad (0 : Int32) (own_cl (0 : Int32) (p1 % (40 : Int32))))))])) st27 ?_
        refine own_st (T' := T27) (g' := (mkF m 96 #[.val (.int p1), .val (.int p2), .val (.int p3), .val (.long q4), .second, .val (.long q5), .second, .val (.ref b1), .val (.int (p1 % (40 : Int32))), .val (.int (own_cl (0 : Int32) (p1 % (40 : Int32)))), .val (.int (1 : Int32)), .val (.int (p3 &&& (3 : Int32))), .val (.int (own_ad ((0 : Int32) + 1) (own_ad (0 : Int32) (own_cl (0 : Int32) (p1 % (40 : Int32)))))), .unset, .unset] [])) (fun t k => XS.istore X27.here hx rfl (hb hby at_94) rfl (l' := #[.val (.int p1), .val (.int p2), .val (.int p3), .val (.long q4), .second, .val (.long q5), .second, .val (.ref b1), .val (.int (p1 % (40 : Int32))), .val (.int (own_cl (0 : Int32) (p1 % (40 : Int32)))), .val (.int (1 : Int32)), .val (.int (p3 &&& (3 : Int32))), .val (.int (own_ad ((0 : Int32) + 1) (own_ad (0 : Int32) (own_cl (0 : Int32) (p1 % (40 : Int32)))))), .unset, .unset]) rfl k) ?_
        refine own_st (T' := T27) (g' := (mkF m 97 #[.val (.int p1), .val (.int p2), .val (.int p3), .val (.long q4), .second, .val (.long q5), .second, .val (.ref b1), .val (.int (p1 % (40 : Int32))), .val (.int (own_cl (0 : Int32) (p1 % (40 : Int32)))), .val (.int (1 : Int32)), .val (.int (p3 &&& (3 : Int32))), .val (.int (own_ad ((0 : Int32) + 1) (own_ad (0 : Int32) (own_cl (0 : Int32) (p1 % (40 : Int32)))))), .unset, .unset] [(.int p2)])) (fun t k => XS.iloadN X27.here hx rfl (hb hby at_96) rfl k) ?_
        refine own_st (T' := T27) (g' := (mkF m 99 #[.val (.int p1), .val (.int p2), .val (.int p3), .val (.long q4), .second, .val (.long q5), .second, .val (.ref b1), .val (.int (p1 % (40 : Int32))), .val (.int (own_cl (0 : Int32) (p1 % (40 : Int32)))), .val (.int (1 : Int32)), .val (.int (p3 &&& (3 : Int32))), .val (.int (own_ad ((0 : Int32) + 1) (own_ad (0 : Int32) (own_cl (0 : Int32) (p1 % (40 : Int32)))))), .unset, .unset] [(.int (40 : Int32)), (.int p2)])) (fun t k => XS.bipush X27.here hx rfl (hb hby at_97) k) ?_
        refine own_st (T' := T27) (g' := (mkF m 100 #[.val (.int p1), .val (.int p2), .val (.int p3), .val (.long q4), .second, .val (.long q5), .second, .val (.ref b1), .val (.int (p1 % (40 : Int32))), .val (.int (own_cl (0 : Int32) (p1 % (40 : Int32)))), .val (.int (1 : Int32)), .val (.int (p3 &&& (3 : Int32))), .val (.int (own_ad ((0 : Int32) + 1) (own_ad (0 : Int32) (own_cl (0 : Int32) (p1 % (40 : Int32)))))), .unset, .unset] [(.int (p2 % (40 : Int32)))])) (fun t k => iremM (g := (mkF m 99 #[.val (.int p1), .val (.int p2), .val (.int p3), .val (.long q4), .second, .val (.long q5), .second, .val (.ref b1), .val (.int (p1 % (40 : Int32))), .val (.int (own_cl (0 : Int32) (p1 % (40 : Int32)))), .val (.int (1 : Int32)), .val (.int (p3 &&& (3 : Int32))), .val (.int (own_ad ((0 : Int32) + 1) (own_ad (0 : Int32) (own_cl (0 : Int32) (p1 % (40 : Int32)))))), .unset, .unset] [(.int (40 : Int32)), (.int p2)])) X27 hx rfl (hb hby at_99) rfl (by decide) k) ?_
        refine own_st (T' := T27) (g' := (mkF m 102 #[.val (.int p1), .val (.int p2), .val (.int p3), .val (.long q4), .second, .val (.long q5), .second, .val (.ref b1), .val (.int (p1 % (40 : Int32))), .val (.int (own_cl (0 : Int32) (p1 % (40 : Int32)))), .val (.int (1 : Int32)), .val (.int (p3 &&& (3 : Int32))), .val (.int (own_ad ((0 : Int32) + 1) (own_ad (0 : Int32) (own_cl (0 : Int32) (p1 % (40 : Int32)))))), .val (.int (p2 % (40 : Int32))), .unset] [])) (fun t k => XS.istore X27.here hx rfl (hb hby at_100) rfl (l' := #[.val (.int p1), .val (.int p2), .val (.int p3), .val (.long q4), .second, .val (.long q5), .second, .val (.ref b1), .val (.int (p1 % (40 : Int32))), .val (.int (own_cl (0 : Int32) (p1 % (40 : Int32)))), .val (.int (1 : Int32)), .val (.int (p3 &&& (3 : Int32))), .val (.int (own_ad ((0 : Int32) + 1) (own_ad (0 : Int32) (own_cl (0 : Int32) (p1 % (40 : Int32)))))), .val (.int (p2 % (40 : Int32))), .unset]) rfl k) ?_
        refine own_st (T' := T27) (g' := (mkF m 104 #[.val (.int p1), .val (.int p2), .val (.int p3), .val (.long q4), .second, .val (.long q5), .second, .val (.ref b1), .val (.int (p1 % (40 : Int32))), .val (.int (own_cl (0 : Int32) (p1 % (40 : Int32)))), .val (.int (1 : Int32)), .val (.int (p3 &&& (3 : Int32))), .val (.int (own_ad ((0 : Int32) + 1) (own_ad (0 : Int32) (own_cl (0 : Int32) (p1 % (40 : Int32)))))), .val (.int (p2 % (40 : Int32))), .unset] [(.ref b1)])) (fun t k => XS.aload X27.here hx rfl (hb hby at_102) rfl rfl k) ?_
        refine own_st (T' := T27) (g' := (mkF m 106 #[.val (.int p1), .val (.int p2), .val (.int p3), .val (.long q4), .second, .val (.long q5), .second, .val (.ref b1), .val (.int (p1 % (40 : Int32))), .val (.int (own_cl (0 : Int32) (p1 % (40 : Int32)))), .val (.int (1 : Int32)), .val (.int (p3 &&& (3 : Int32))), .val (.int (own_ad ((0 : Int32) + 1) (own_ad (0 : Int32) (own_cl (0 : Int32) (p1 % (40 : Int32)))))), .val (.int (p2 % (40 : Int32))), .unset] [(.int (p2 % (40 : Int32))), (.ref b1)])) (fun t k => XS.iload X27.here hx rfl (hb hby at_104) rfl k) ?_
        obtain ⟨_, T28, L28, hQ28, X28, st28⟩ := own_callV (y := (⟨"com/example/seriate/seriate/LongList", "clear", "(I)V"⟩ : MethodName)) (z := (⟨"com/example/seriate/seriate/LongList", "clear", "(I)V"⟩ : MethodName)) (argsL := [(.int (p2 % (40 : Int32)))]) 0 [] (K := "com/example/seriate/seriate/LongList") (own_rm3 l Z a0 hw T25.heap n0 Z25 b1 (p2 % (40 : Int32)) O s_NO S_NO A_NO g_b1 (own_rem _) _ _ LL) X27 hx hZ hown (hw _ (List.mem_of_getElem? (i := 13) rfl)) (hw _ (List.mem_of_getElem? (i := 14) rfl)) (notFace_of_selects (args := #[]) (mvT hZ (hw _ (List.mem_of_getElem? (i := 16) rfl)))) (hw _ (List.mem_of_getElem? (i := 16) rfl)) (hw _ (List.mem_of_getElem? (i := 15) rfl)) (hw _ (List.mem_of_getElem? (i := 17) rfl)) (hw _ (List.mem_of_getElem? (i := 2) rfl)) (by decide) (by decide) (by decide) (by decide) (by decide) e27 LL.exa (g := (mkF m 106 #[.val (.int p1), .val (.int p2), .val (.int p3), .val (.long q4), .second, .val (.long q5), .second, .val (.ref b1), .val (.int (p1 % (40 : Int32))), .val (.int (own_cl (0 : Int32) (p1 % (40 : Int32)))), .val (.int (1 : Int32)), .val (.int (p3 &&& (3 : Int32))), .val (.int (own_ad ((0 : Int32) + 1) (own_ad (0 : Int32) (own_cl (0 : Int32) (p1 % (40 : Int32)))))), .val (.int (p2 % (40 : Int32))), .unset] [(.int (p2 % (40 : Int32))), (.ref b1)])) rfl (by rw [hml]; rfl) (lenOf own_pd3 rfl) rfl (by show 2 * 0 + _ ≤ _; exact Nat.le_of_eq rfl) (hb hby at_106)
        obtain ⟨rfl, N28q, O, LL⟩ := hQ28
        have Z28 : n0 ≤ T28.heap.size := by rw [← O.1]; exact O.2.1
        have N28 := Fr.app N25 N28q
        generalize hlc28 : (lc25 ++ L28 : List Loc) = lc28 at X28 N28
        have X28 : Stand p l e room_1 s m #[(.int p1), (.int p2), (.int p3), (.long q4), (.long q5)] below meth c T28 lc28 5 112 := X28
        refine own_st (T' := T28) (g' := (mkF m 109 #[.val (.int p1), .val (.int p2), .val (.int p3), .val (.long q4), .second, .val (.long q5), .second, .val (.ref b1), .val (.int (p1 % (40 : Int32))), .val (.int (own_cl (0 : Int32) (p1 % (40 : Int32)))), .val (.int (1 : Int32)), .val (.int (p3 &&& (3 : Int32))), .val (.int (own_ad ((0 : Int32) + 1) (own_ad (0 : Int32) (own_cl (0 : Int32) (p1 % (40 : Int32)))))), .val (.int (p2 % (40 : Int32))), .unset] [])) st28 ?_
        refine own_st (T' := T28) (g' := (mkF m 111 #[.val (.int p1), .val (.int p2), .val (.int p3), .val (.long q4), .second, .val (.long q5), .second, .val (.ref b1), .val (.int (p1 % (40 : Int32))), .val (.int (own_cl (0 : Int32) (p1 % (40 : Int32)))), .val (.int (1 : Int32)), .val (.int (p3 &&& (3 : Int32))), .val (.int (own_ad ((0 : Int32) + 1) (own_ad (0 : Int32) (own_cl (0 : Int32) (p1 % (40 : Int32)))))), .val (.int (p2 % (40 : Int32))), .unset] [(.ref b1)])) (fun t k => XS.aload X28.here hx rfl (hb hby at_109) rfl rfl k) ?_
        obtain ⟨_, T29, L29, hQ29, X29, st29⟩ := own_callV (y := (⟨"com/example/seriate/seriate/LongList", "size", "()I"⟩ : MethodName)) (z := (⟨"com/example/seriate/seriate/LongList", "size", "()I"⟩ : MethodName)) (argsL := []) 0 [] (K := "com/example/seriate/seriate/LongList") (own_rm9 l Z a0 hw T28.heap n0 Z28 b1 _ _ LL) X28 hx hZ hown (hw _ (List.mem_of_getElem? (i := 47) rfl)) (hw _ (List.mem_of_getElem? (i := 48) rfl)) (notFace_of_selects (args := #[]) (mvT hZ (hw _ (List.mem_of_getElem? (i := 50) rfl)))) (hw _ (List.mem_of_getElem? (i := 50) rfl)) (hw _ (List.mem_of_getElem? (i := 49) rfl)) (hw _ (List.mem_of_getElem? (i := 51) rfl)) (hw _ (List.mem_of_getElem? (i := 2) rfl)) (by decide) (by decide) (by decide) (by decide) (by decide) rfl LL.exa (g := (mkF m 111 #[.val (.int p1), .val (.int p2), .val (.int p3), .val (.long q4), .second, .val (.long q5), .second, .val (.ref b1), .val (.int (p1 % (40 : Int32))), .val (.int (own_cl (0 : Int32) (p1 % (40 : Int32)))), .val (.int (1 : Int32)), .val (.int (p3 &&& (3 : Int32))), .val (.int (own_ad ((0 : Int32) + 1) (own_ad (0 : Int32) (own_cl (0 : Int32) (p1 % (40 : Int32)))))), .val (.int (p2 % (40 : Int32))), .unset] [(.ref b1)])) rfl (by rw [hml]; rfl) (lenOf own_pd4 rfl) rfl (by show 2 * 0 + _ ≤ _; exact Nat.le_of_eq rfl) (hb hby at_111)
        obtain ⟨rfl, e29, rfl⟩ := hQ29
        have X29 : Stand p l e room_1 s m #[(.int p1), (.int p2), (.int p3), (.long q4), (.long q5)] below meth c T29 lc28 5 112 := by have := X29; rwa [List.append_nil] at this
        refine own_st (T' := T29) (g' := (mkF m 114 #[.val (.int p1), .val (.int p2), .val (.int p3), .val (.long q4), .second, .val (.long q5), .second, .val (.ref b1), .val (.int (p1 % (40 : Int32))), .val (.int (own_cl (0 : Int32) (p1 % (40 : Int32)))), .val (.int (1 : Int32)), .val (.int (p3 &&& (3 : Int32))), .val (.int (own_ad ((0 : Int32) + 1) (own_ad (0 : Int32) (own_cl (0 : Int32) (p1 % (40 : Int32)))))), .val (.int (p2 % (40 : Int32))), .unset] [(.int (0 : Int32))])) st29 ?_
        refine own_st (T' := T29) (g' := (mkF m 117 #[.val (.int p1), .val (.int p2), .val (.int p3), .val (.long q4), .second, .val (.long q5), .second, .val (.ref b1), .val (.int (p1 % (40 : Int32))), .val (.int (own_cl (0 : Int32) (p1 % (40 : Int32)))), .val (.int (1 : Int32)), .val (.int (p3 &&& (3 : Int32))), .val (.int (own_ad ((0 : Int32) + 1) (own_ad (0 : Int32) (own_cl (0 : Int32) (p1 % (40 : Int32)))))), .val (.int (p2 % (40 : Int32))), .unset] [])) (fun t k => XS.ifNo X29.here hx rfl (hb hby at_114) rfl ((if0 _ _).trans (teq (by decide)).2) k) ?_
        refine own_st (T' := T29) (g' := (mkF m 119 #[.val (.int p1), .val (.int p2), .val (.int p3), .val (.long q4), .second, .val (.long q5), .second, .val (.ref b1), .val (.int (p1 % (40 : Int32))), .val (.int (own_cl (0 : Int32) (p1 % (40 : Int32)))), .val (.int (1 : Int32)), .val (.int (p3 &&& (3 : Int32))), .val (.int (own_ad ((0 : Int32) + 1) (own_ad (0 : Int32) (own_cl (0 : Int32) (p1 % (40 : Int32)))))), .val (.int (p2 % (40 : Int32))), .unset] [(.ref b1)])) (fun t k => XS.aload X29.here hx rfl (hb hby at_117) rfl rfl k) ?_
        obtain ⟨_, T30, L30, hQ30, X30, st30⟩ := own_callV (y := (⟨"com/example/seriate/seriate/LongList", "capacity", "()I"⟩ : MethodName)) (z := (⟨"com/example/seriate/seriate/LongList", "capacity", "()I"⟩ : MethodName)) (argsL := []) 0 [] (K := "com/example/seriate/seriate/LongList") (own_rm4 l Z a0 hw T28.heap n0 Z28 b1 _ _ LL) X29 hx hZ hown (hw _ (List.mem_of_getElem? (i := 20) rfl)) (hw _ (List.mem_of_getElem? (i := 21) rfl)) (notFace_of_selects (args := #[]) (mvT hZ (hw _ (List.mem_of_getElem? (i := 23) rfl)))) (hw _ (List.mem_of_getElem? (i := 23) rfl)) (hw _ (List.mem_of_getElem? (i := 22) rfl)) (hw _ (List.mem_of_getElem? (i := 24) rfl)) (hw _ (List.mem_of_getElem? (i := 2) rfl)) (by decide) (by decide) (by decide) (by decide) (by decide) e29 LL.exa (g := (mkF m 119 #[.val (.int p1), .val (.int p2), .val (.int p3), .val (.long q4), .second, .val (.long q5), .second, .val (.ref b1), .val (.int (p1 % (40 : Int32))), .val (.int (own_cl (0 : Int32) (p1 % (40 : Int32)))), .val (.int (1 : Int32)), .val (.int (p3 &&& (3 : Int32))), .val (.int (own_ad ((0 : Int32) + 1) (own_ad (0 : Int32) (own_cl (0 : Int32) (p1 % (40 : Int32)))))), .val (.int (p2 % (40 : Int32))), .unset] [(.ref b1)])) rfl (by rw [hml]; rfl) (lenOf own_pd4 rfl) rfl (by show 2 * 0 + _ ≤ _; exact Nat.le_of_eq rfl) (hb hby at_119)
        obtain ⟨rfl, e30, rfl⟩ := hQ30
        have X30 : Stand p l e room_1 s m #[(.int p1), (.int p2), (.int p3), (.long q4), (.long q5)] below meth c T30 lc28 5 112 := by have := X30; rwa [List.append_nil] at this
        refine own_st (T' := T30) (g' := (mkF m 122 #[.val (.int p1), .val (.int p2), .val (.int p3), .val (.long q4), .second, .val (.long q5), .second, .val (.ref b1), .val (.int (p1 % (40 : Int32))), .val (.int (own_cl (0 : Int32) (p1 % (40 : Int32)))), .val (.int (1 : Int32)), .val (.int (p3 &&& (3 : Int32))), .val (.int (own_ad ((0 : Int32) + 1) (own_ad (0 : Int32) (own_cl (0 : Int32) (p1 % (40 : Int32)))))), .val (.int (p2 % (40 : Int32))), .unset] [(.int (own_cl (own_ad ((0 : Int32) + 1) (own_ad (0 : Int32) (own_cl (0 : Int32) (p1 % (40 : Int32))))) (p2 % (40 : Int32))))])) st30 ?_
        refine own_st (T' := T30) (g' := (mkF m 124 #[.val (.int p1), .val (.int p2), .val (.int p3), .val (.long q4), .second, .val (.long q5), .second, .val (.ref b1), .val (.int (p1 % (40 : Int32))), .val (.int (own_cl (0 : Int32) (p1 % (40 : Int32)))), .val (.int (1 : Int32)), .val (.int (p3 &&& (3 : Int32))), .val (.int (own_ad ((0 : Int32) + 1) (own_ad (0 : Int32) (own_cl (0 : Int32) (p1 % (40 : Int32)))))), .val (.int (p2 % (40 : Int32))), .unset] [(.int (own_ad ((0 : Int32) + 1) (own_ad (0 : Int32) (own_cl (0 : Int32) (p1 % (40 : Int32)))))), (.int (own_cl (own_ad ((0 : Int32) + 1) (own_ad (0 : Int32) (own_cl (0 : Int32) (p1 % (40 : Int32))))) (p2 % (40 : Int32))))])) (fun t k => XS.iload X30.here hx rfl (hb hby at_122) rfl k) ?_
        refine own_st (T' := T30) (g' := (mkF m 126 #[.val (.int p1), .val (.int p2), .val (.int p3), .val (.long q4), .second, .val (.long q5), .second, .val (.ref b1), .val (.int (p1 % (40 : Int32))), .val (.int (own_cl (0 : Int32) (p1 % (40 : Int32)))), .val (.int (1 : Int32)), .val (.int (p3 &&& (3 : Int32))), .val (.int (own_ad ((0 : Int32) + 1) (own_ad (0 : Int32) (own_cl (0 : Int32) (p1 % (40 : Int32)))))), .val (.int (p2 % (40 : Int32))), .unset] [(.int (p2 % (40 : Int32))), (.int (own_ad ((0 : Int32) + 1) (own_ad (0 : Int32) (own_cl (0 : Int32) (p1 % (40 : Int32)))))), (.int (own_cl (own_ad ((0 : Int32) + 1) (own_ad (0 : Int32) (own_cl (0 : Int32) (p1 % (40 : Int32))))) (p2 % (40 : Int32))))])) (fun t k => XS.iload X30.here hx rfl (hb hby at_124) rfl k) ?_
        obtain ⟨r31, hr31⟩ : ∃ q, q = own_max (own_ad ((0 : Int32) + 1) (own_ad (0 : Int32) (own_cl (0 : Int32) (p1 % (40 : Int32))))) (p2 % (40 : Int32)) := ⟨_, rfl⟩
        obtain ⟨_, T31, L31, hQ31, X31, st31⟩ := own_callS (y := (⟨"java/lang/Math", "max", "(II)I"⟩ : MethodName)) (argsL := [(.int (own_ad ((0 : Int32) + 1) (own_ad (0 : Int32) (own_cl (0 : Int32) (p1 % (40 : Int32)))))), (.int (p2 % (40 : Int32)))]) 1 [(.int (own_cl (own_ad ((0 : Int32) + 1) (own_ad (0 : Int32) (own_cl (0 : Int32) (p1 % (40 : Int32))))) (p2 % (40 : Int32))))] (own_rm5 l Z a0 hw T28.heap n0 Z28 (own_ad ((0 : Int32) + 1) (own_ad (0 : Int32) (own_cl (0 : Int32) (p1 % (40 : Int32))))) (p2 % (40 : Int32)) _ hr31) X30 hx hZ hown (hw _ (List.mem_of_getElem? (i := 25) rfl)) (hw _ (List.mem_of_getElem? (i := 26) rfl)) (hw _ (List.mem_of_getElem? (i := 27) rfl)) (hw _ (List.mem_of_getElem? (i := 28) rfl)) (by decide) (by decide) (by decide) (by decide) (by decide) e30 (g := (mkF m 126 #[.val (.int p1), .val (.int p2), .val (.int p3), .val (.long q4), .second, .val (.long q5), .second, .val (.ref b1), .val (.int (p1 % (40 : Int32))), .val (.int (own_cl (0 : Int32) (p1 % (40 : Int32)))), .val (.int (1 : Int32)), .val (.int (p3 &&& (3 : Int32))), .val (.int (own_ad ((0 : Int32) + 1) (own_ad (0 : Int32) (own_cl (0 : Int32) (p1 % (40 : Int32)))))), .val (.int (p2 % (40 : Int32))), .unset] [(.int (p2 % (40 : Int32))), (.int (own_ad ((0 : Int32) + 1) (own_ad (0 : Int32) (own_cl (0 : Int32) (p1 % (40 : Int32)))))), (.int (own_cl (own_ad ((0 : Int32) + 1) (own_ad (0 : Int32) (own_cl (0 : Int32) (p1 % (40 : Int32))))) (p2 % (40 : Int32))))])) rfl (by rw [hml]; rfl) (lenOf own_pd0 rfl) rfl (by show 2 * 0 + _ ≤ _; exact Nat.le_of_eq rfl) (hb hby at_126)
        obtain ⟨rfl, e31, rfl⟩ := hQ31
        have X31 : Stand p l e room_1 s m #[(.int p1), (.int p2), (.int p3), (.long q4), (.long q5)] below meth c T31 lc28 5 112 := by have := X31; rwa [List.append_nil] at this
        refine own_st (T' := T31) (g' := (mkF m 129 #[.val (.int p1), .val (.int p2), .val (.int p3), .val (.long q4), .second, .val (.long q5), .second, .val (.ref b1), .val (.int (p1 % (40 : Int32))), .val (.int (own_cl (0 : Int32) (p1 % (40 : Int32)))), .val (.int (1 : Int32)), .val (.int (p3 &&& (3 : Int32))), .val (.int (own_ad ((0 : Int32) + 1) (own_ad (0 : Int32) (own_cl (0 : Int32) (p1 % (40 : Int32)))))), .val (.int (p2 % (40 : Int32))), .unset] [(.int r31), (.int (own_cl (own_ad ((0 : Int32) + 1) (own_ad (0 : Int32) (own_cl (0 : Int32) (p1 % (40 : Int32))))) (p2 % (40 : Int32))))])) st31 ?_
        have hk32 : (own_cl (own_ad ((0 : Int32) + 1) (own_ad (0 : Int32) (own_cl (0 : Int32) (p1 % (40 : Int32))))) (p2 % (40 : Int32))) = r31 := by rw [hr31]; rfl
        refine own_st (T' := T31) (g' := (mkF m 132 #[.val (.int p1), .val (.int p2), .val (.int p3), .val (.long q4), .second, .val (.long q5), .second, .val (.ref b1), .val (.int (p1 % (40 : Int32))), .val (.int (own_cl (0 : Int32) (p1 % (40 : Int32)))), .val (.int (1 : Int32)), .val (.int (p3 &&& (3 : Int32))), .val (.int (own_ad ((0 : Int32) + 1) (own_ad (0 : Int32) (own_cl (0 : Int32) (p1 % (40 : Int32)))))), .val (.int (p2 % (40 : Int32))), .unset] [])) (fun t k => XS.icmpNo X31.here hx rfl (hb hby at_129) rfl (teq hk32).2 k) ?_
        refine own_st (T' := T31) (g' := (mkF m 133 #[.val (.int p1), .val (.int p2), .val (.int p3), .val (.long q4), .second, .val (.long q5), .second, .val (.ref b1), .val (.int (p1 % (40 : Int32))), .val (.int (own_cl (0 : Int32) (p1 % (40 : Int32)))), .val (.int (1 : Int32)), .val (.int (p3 &&& (3 : Int32))), .val (.int (own_ad ((0 : Int32) + 1) (own_ad (0 : Int32) (own_cl (0 : Int32) (p1 % (40 : Int32)))))), .val (.int (p2 % (40 : Int32))), .unset] [(.int (1 : Int32))])) (fun t k => XS.iconst X31.here hx rfl (hb hby at_132) k) ?_
        refine own_st (T' := T31) (g' := (mkF m 137 #[.val (.int p1), .val (.int p2), .val (.int p3), .val (.long q4), .second, .val (.long q5), .second, .val (.ref b1), .val (.int (p1 % (40 : Int32))), .val (.int (own_cl (0 : Int32) (p1 % (40 : Int32)))), .val (.int (1 : Int32)), .val (.int (p3 &&& (3 : Int32))), .val (.int (own_ad ((0 : Int32) + 1) (own_ad (0 : Int32) (own_cl (0 : Int32) (p1 % (40 : Int32)))))), .val (.int (p2 % (40 : Int32))), .unset] [(.int (1 : Int32))])) (fun t k => XS.goto X31.here hx rfl (pc0 := 133) (pc' := 137) rfl (hb hby at_133) (by decide) (by decide) k) ?_
        refine own_st (T' := T31) (g' := (mkF m 139 #[.val (.int p1), .val (.int p2), .val (.int p3), .val (.long q4), .second, .val (.long q5), .second, .val (.ref b1), .val (.int (p1 % (40 : Int32))), .val (.int (own_cl (0 : Int32) (p1 % (40 : Int32)))), .val (.int (1 : Int32)), .val (.int (p3 &&& (3 : Int32))), .val (.int (own_ad ((0 : Int32) + 1) (own_ad (0 : Int32) (own_cl (0 : Int32) (p1 % (40 : Int32)))))), .val (.int (p2 % (40 : Int32))), .val (.int (1 : Int32))] [])) (fun t k => XS.istore X31.here hx rfl (hb hby at_137) rfl (l' := #[.val (.int p1), .val (.int p2), .val (.int p3), .val (.long q4), .second, .val (.long q5), .second, .val (.ref b1), .val (.int (p1 % (40 : Int32))), .val (.int (own_cl (0 : Int32) (p1 % (40 : Int32)))), .val (.int (1 : Int32)), .val (.int (p3 &&& (3 : Int32))), .val (.int (own_ad ((0 : Int32) + 1) (own_ad (0 : Int32) (own_cl (0 : Int32) (p1 % (40 : Int32)))))), .val (.int (p2 % (40 : Int32))), .val (.int (1 : Int32))]) rfl k) ?_
        refine own_st (T' := T31) (g' := (mkF m 141 #[.val (.int p1), .val (.int p2), .val (.int p3), .val (.long q4), .second, .val (.long q5), .second, .val (.ref b1), .val (.int (p1 % (40 : Int32))), .val (.int (own_cl (0 : Int32) (p1 % (40 : Int32)))), .val (.int (1 : Int32)), .val (.int (p3 &&& (3 : Int32))), .val (.int (own_ad ((0 : Int32) + 1) (own_ad (0 : Int32) (own_cl (0 : Int32) (p1 % (40 : Int32)))))), .val (.int (p2 % (40 : Int32))), .val (.int (1 : Int32))] [(.int (1 : Int32))])) (fun t k => XS.iload X31.here hx rfl (hb hby at_139) rfl k) ?_
        refine own_st (T' := T31) (g' := (mkF m 144 #[.val (.int p1), .val (.int p2), .val (.int p3), .val (.long q4), .second, .val (.long q5), .second, .val (.ref b1), .val (.int (p1 % (40 : Int32))), .val (.int (own_cl (0 : Int32) (p1 % (40 : Int32)))), .val (.int (1 : Int32)), .val (.int (p3 &&& (3 : Int32))), .val (.int (own_ad ((0 : Int32) + 1) (own_ad (0 : Int32) (own_cl (0 : Int32) (p1 % (40 : Int32)))))), .val (.int (p2 % (40 : Int32))), .val (.int (1 : Int32))] [])) (fun t k => XS.ifNo X31.here hx rfl (hb hby at_141) rfl ((if0 _ _).trans (feq (by decide)).1) k) ?_
        refine own_st (T' := T31) (g' := (mkF m 146 #[.val (.int p1), .val (.int p2), .val (.int p3), .val (.long q4), .second, .val (.long q5), .second, .val (.ref b1), .val (.int (p1 % (40 : Int32))), .val (.int (own_cl (0 : Int32) (p1 % (40 : Int32)))), .val (.int (1 : Int32)), .val (.int (p3 &&& (3 : Int32))), .val (.int (own_ad ((0 : Int32) + 1) (own_ad (0 : Int32) (own_cl (0 : Int32) (p1 % (40 : Int32)))))), .val (.int (p2 % (40 : Int32))), .val (.int (1 : Int32))] [(.int (1 : Int32))])) (fun t k => XS.iload X31.here hx rfl (hb hby at_144) rfl k) ?_
        refine own_st (T' := T31) (g' := (mkF m 149 #[.val (.int p1), .val (.int p2), .val (.int p3), .val (.long q4), .second, .val (.long q5), .second, .val (.ref b1), .val (.int (p1 % (40 : Int32))), .val (.int (own_cl (0 : Int32) (p1 % (40 : Int32)))), .val (.int (1 : Int32)), .val (.int (p3 &&& (3 : Int32))), .val (.int (own_ad ((0 : Int32) + 1) (own_ad (0 : Int32) (own_cl (0 : Int32) (p1 % (40 : Int32)))))), .val (.int (p2 % (40 : Int32))), .val (.int (1 : Int32))] [])) (fun t k => XS.ifNo X31.here hx rfl (hb hby at_146) rfl ((if0 _ _).trans (feq (by decide)).1) k) ?_
        refine own_st (T' := T31) (g' := (mkF m 150 #[.val (.int p1), .val (.int p2), .val (.int p3), .val (.long q4), .second, .val (.long q5), .second, .val (.ref b1), .val (.int (p1 % (40 : Int32))), .val (.int (own_cl (0 : Int32) (p1 % (40 : Int32)))), .val (.int (1 : Int32)), .val (.int (p3 &&& (3 : Int32))), .val (.int (own_ad ((0 : Int32) + 1) (own_ad (0 : Int32) (own_cl (0 : Int32) (p1 % (40 : Int32)))))), .val (.int (p2 % (40 : Int32))), .val (.int (1 : Int32))] [(.int (1 : Int32))])) (fun t k => XS.iconst X31.here hx rfl (hb hby at_149) k) ?_
        refine own_st (T' := T31) (g' := (mkF m 154 #[.val (.int p1), .val (.int p2), .val (.int p3), .val (.long q4), .second, .val (.long q5), .second, .val (.ref b1), .val (.int (p1 % (40 : Int32))), .val (.int (own_cl (0 : Int32) (p1 % (40 : Int32)))), .val (.int (1 : Int32)), .val (.int (p3 &&& (3 : Int32))), .val (.int (own_ad ((0 : Int32) + 1) (own_ad (0 : Int32) (own_cl (0 : Int32) (p1 % (40 : Int32)))))), .val (.int (p2 % (40 : Int32))), .val (.int (1 : Int32))] [(.int (1 : Int32))])) (fun t k => XS.goto X31.here hx rfl (pc0 := 150) (pc' := 154) rfl (hb hby at_150) (by decide) (by decide) k) ?_
        exact own_retB X31 hx hlk hret (hb hby at_154) (by decide) (by decide) rfl ⟨rfl, N28⟩
      ·
        refine own_st (T' := T25) (g' := (mkF m 83 #[.val (.int p1), .val (.int p2), .val (.int p3), .val (.long q4), .second, .val (.long q5), .second, .val (.ref b1), .val (.int (p1 % (40 : Int32))), .val (.int (own_cl (0 : Int32) (p1 % (40 : Int32)))), .val (.int (1 : Int32)), .val (.int (p3 &&& (3 : Int32))), .unset, .unset, .unset] [])) (fun t k => XS.icmpNo X25.here hx rfl (hb hby at_80) rfl (flt hc80_26).1 k) ?_
        refine own_st (T' := T25) (g' := (mkF m 85 #[.val (.int p1), .val (.int p2), .val (.int p3), .val (.long q4), .second, .val (.long q5), .second, .val (.ref b1), .val (.int (p1 % (40 : Int32))), .val (.int (own_cl (0 : Int32) (p1 % (40 : Int32)))), .val (.int (1 : Int32)), .val (.int (p3 &&& (3 : Int32))), .unset, .unset, .unset] [(.ref b1)])) (fun t k => XS.aload X25.here hx rfl (hb hby at_83) rfl rfl k) ?_
        refine own_st (T' := T25) (g' := (mkF m 86 #[.val (.int p1), .val (.int p2), .val (.int p3), .val (.long q4), .second, .val (.long q5), .second, .val (.ref b1), .val (.int (p1 % (40 : Int32))), .val (.int (own_cl (0 : Int32) (p1 % (40 : Int32)))), .val (.int (1 : Int32)), .val (.int (p3 &&& (3 : Int32))), .unset, .unset, .unset] [(.long q4), (.ref b1)])) (fun t k => XS.lloadN X25.here hx rfl (hb hby at_85) rfl k) ?_
        have hz33 : ¬ (own_ad ((0 : Int32) + 1) (own_ad (0 : Int32) (own_cl (0 : Int32) (p1 % (40 : Int32))))) < (((0 : Int32) + 1) + 1) := own_ad_ge hz25 (by decide)
        obtain ⟨_, T33, L33, hQ33, X33, st33⟩ := own_callV (y := (⟨"com/example/seriate/seriate/LongList", "add", "(J)V"⟩ : MethodName)) (z := (⟨"com/example/seriate/seriate/LongList", "add", "(J)V"⟩ : MethodName)) (argsL := [(.long q4)]) 0 [] (K := "com/example/seriate/seriate/LongList") (own_rm6 l Z a0 hw T25.heap n0 Z25 b1 q4 O s_NO S_NO A_NO g_b1 (((0 : Int32) + 1) + 1) (own_ad ((0 : Int32) + 1) (own_ad (0 : Int32) (own_cl (0 : Int32) (p1 % (40 : Int32))))) LL (by decide) (by decide) hz33) X25 hx hZ hown (hw _ (List.mem_of_getElem? (i := 29) rfl)) (hw _ (List.mem_of_getElem? (i := 30) rfl)) (notFace_of_selects (args := #[]) (mvT hZ (hw _ (List.mem_of_getElem? (i := 32) rfl)))) (hw _ (List.mem_of_getElem? (i := 32) rfl)) (hw _ (List.mem_of_getElem? (i := 31) rfl)) (hw _ (List.mem_of_getElem? (i := 33) rfl)) (hw _ (List.mem_of_getElem? (i := 2) rfl)) (by decide) (by decide) (by decide) (by decide) (by decide) rfl LL.exa (g := (mkF m 86 #[.val (.int p1), .val (.int p2), .val (.int p3), .val (.long q4), .second, .val (.long q5), .second, .val (.ref b1), .val (.int (p1 % (40 : Int32))), .val (.int (own_cl (0 : Int32) (p1 % (40 : Int32)))), .val (.int (1 : Int32)), .val (.int (p3 &&& (3 : Int32))), .unset, .unset, .unset] [(.long q4), (.ref b1)])) rfl (by rw [hml]; rfl) (lenOf own_pd5 rfl) rfl (by show 2 * 0 + _ ≤ _; exact Nat.le_of_eq rfl) (hb hby at_86)
        obtain ⟨rfl, N33q, O, LL⟩ := hQ33
        have Z33 : n0 ≤ T33.heap.size := by rw [← O.1]; exact O.2.1
        have N33 := Fr.app N25 N33q
        generalize hlc33 : (lc25 ++ L33 : List Loc) = lc33 at X33 N33
        have X33 : Stand p l e room_1 s m #[(.int p1), (.int p2), (.int p3), (.long q4), (.long q5)] below meth c T33 lc33 5 89 := X33
        refine own_st (T' := T33) (g' := (mkF m 89 #[.val (.int p1), .val (.int p2), .val (.int p3), .val (.long q4), .second, .val (.long q5), .second, .val (.ref b1), .val (.int (p1 % (40 : Int32))), .val (.int (own_cl (0 : Int32) (p1 % (40 : Int32)))), .val (.int (1 : Int32)), .val (.int (p3 &&& (3 : Int32))), .unset, .unset, .unset] [])) st33 ?_
        refine own_st (T' := T33) (g' := (mkF m 91 #[.val (.int p1), .val (.int p2), .val (.int p3), .val (.long q4), .second, .val (.long q5), .second, .val (.ref b1), .val (.int (p1 % (40 : Int32))), .val (.int (own_cl (0 : Int32) (p1 % (40 : Int32)))), .val (.int (1 : Int32)), .val (.int (p3 &&& (3 : Int32))), .unset, .unset, .unset] [(.ref b1)])) (fun t k => XS.aload X33.here hx rfl (hb hby at_89) rfl rfl k) ?_
        obtain ⟨_, T34, L34, hQ34, X34, st34⟩ := own_callV (y := (⟨"com/example/seriate/seriate/LongList", "capacity", "()I"⟩ : MethodName)) (z := (⟨"com/example/seriate/seriate/LongList", "capacity", "()I"⟩ : MethodName)) (argsL := []) 0 [] (K := "com/example/seriate/seriate/LongList") (own_rm4 l Z a0 hw T33.heap n0 Z33 b1 _ _ LL) X33 hx hZ hown (hw _ (List.mem_of_getElem? (i := 20) rfl)) (hw _ (List.mem_of_getElem? (i := 21) rfl)) (notFace_of_selects (args := #[]) (mvT hZ (hw _ (List.mem_of_getElem? (i := 23) rfl)))) (hw _ (List.mem_of_getElem? (i := 23) rfl)) (hw _ (List.mem_of_getElem? (i := 22) rfl)) (hw _ (List.mem_of_getElem? (i := 24) rfl)) (hw _ (List.mem_of_getElem? (i := 2) rfl)) (by decide) (by decide) (by decide) (by decide) (by decide) rfl LL.exa (g := (mkF m 91 #[.val (.int p1), .val (.int p2), .val (.int p3), .val (.long q4), .second, .val (.long q5), .second, .val (.ref b1), .val (.int (p1 % (40 : Int32))), .val (.int (own_cl (0 : Int32) (p1 % (40 : Int32)))), .val (.int (1 : Int32)), .val (.int (p3 &&& (3 : Int32))), .unset, .unset, .unset] [(.ref b1)])) rfl (by rw [hml]; rfl) (lenOf own_pd4 rfl) rfl (by show 2 * 0 + _ ≤ _; exact Nat.le_of_eq rfl) (hb hby at_91)
        obtain ⟨rfl, e34, rfl⟩ := hQ34
        have X34 : Stand p l e room_1 s m #[(.int p1), (.int p2), (.int p3), (.long q4), (.long q5)] below meth c T34 lc33 5 89 := by have := X34; rwa [List.append_nil] at this
        refine own_st (T' := T34) (g' := (mkF m 94 #[.val (.int p1), .val (.int p2), .val (.int p3), .val (.long q4), .second, .val (.long q5), .second, .val (.ref b1), .val (.int (p1 % (40 : Int32))), .val (.int (own_cl (0 : Int32) (p1 % (40 : Int32)))), .val (.int (1 : Int32)), .val (.int (p3 &&& (3 : Int32))), .unset, .unset, .unset] [(.int (own_ad (((0 : Int32) + 1) + 1) (own_ad ((0 : Int32) + 1) (own_ad (0 : Int32) (own_cl (0 : Int32) (p1 % (40 : Int32)))))))])) st34 ?_
        refine own_st (T' := T34) (g' := (mkF m 96 #[.val (.int p1), .val (.int p2), .val (.int p3), .val (.long q4), .second, .val (.long q5), .second, .val (.ref b1), .val (.int (p1 % (40 : Int32))), .val (.int (own_cl (0 : Int32) (p1 % (40 : Int32)))), .val (.int (1 : Int32)), .val (.int (p3 &&& (3 : Int32))), .val (.int (own_ad (((0 : Int32) + 1) + 1) (own_ad ((0 : Int32) + 1) (own_ad (0 : Int32) (own_cl (0 : Int32) (p1 % (40 : Int32))))))), .unset, .unset] [])) (fun t k => XS.istore X34.here hx rfl (hb hby at_94) rfl (l' := #[.val (.int p1), .val (.int p2), .val (.int p3), .val (.long q4), .second, .val (.long q5), .second, .val (.ref b1), .val (.int (p1 % (40 : Int32))), .val (.int (own_cl (0 : Int32) (p1 % (40 : Int32)))), .val (.int (1 : Int32)), .val (.int (p3 &&& (3 : Int32))), .val (.int (own_ad (((0 : Int32) + 1) + 1) (own_ad ((0 : Int32) + 1) (own_ad (0 : Int32) (own_cl (0 : Int32) (p1 % (40 : Int32))))))), .unset, .unset]) rfl k) ?_
        refine own_st (T' := T34) (g' := (mkF m 97 #[.val (.int p1), .val (.int p2), .val (.int p3), .val (.long q4), .second, .val (.long q5), .second, .val (.ref b1), .val (.int (p1 % (40 : Int32))), .val (.int (own_cl (0 : Int32) (p1 % (40 : Int32)))), .val (.int (1 : Int32)), .val (.int (p3 &&& (3 : Int32))), .val (.int (own_ad (((0 : Int32) + 1) + 1) (own_ad ((0 : Int32) + 1) (own_ad (0 : Int32) (own_cl (0 : Int32) (p1 % (40 : Int32))))))), .unset, .unset] [(.int p2)])) (fun t k => XS.iloadN X34.here hx rfl (hb hby at_96) rfl k) ?_
        refine own_st (T' := T34) (g' := (mkF m 99 #[.val (.int p1), .val (.int p2), .val (.int p3), .val (.long q4), .second, .val (.long q5), .second, .val (.ref b1), .val (.int (p1 % (40 : Int32))), .val (.int (own_cl (0 : Int32) (p1 % (40 : Int32)))), .val (.int (1 : Int32)), .val (.int (p3 &&& (3 : Int32))), .val (.int (own_ad (((0 : Int32) + 1) + 1) (own_ad ((0 : Int32) + 1) (own_ad (0 : Int32) (own_cl (0 : Int32) (p1 % (40 : Int32))))))), .unset, .unset] [(.int (40 : Int32)), (.int p2)])) (fun t k => XS.bipush X34.here hx rfl (hb hby at_97) k) ?_
        refine own_st (T' := T34) (g' := (mkF m 100 #[.val (.int p1), .val (.int p2), .val (.int p3), .val (.long q4), .second, .val (.long q5), .second, .val (.ref b1), .val (.int (p1 % (40 : Int32))), .val (.int (own_cl (0 : Int32) (p1 % (40 : Int32)))), .val (.int (1 : Int32)), .val (.int (p3 &&& (3 : Int32))), .val (.int (own_ad (((0 : Int32) + 1) + 1) (own_ad ((0 : Int32) + 1) (own_ad (0 : Int32) (own_cl (0 : Int32) (p1 % (40 : Int32))))))), .unset, .unset] [(.int (p2 % (40 : Int32)))])) (fun t k => iremM (g := (mkF m 99 #[.val (.int p1), .val (.int p2), .val (.int p3), .val (.long q4), .second, .val (.long q5), .second, .val (.ref b1), .val (.int (p1 % (40 : Int32))), .val (.int (own_cl (0 : Int32) (p1 % (40 : Int32)))), .val (.int (1 : Int32)), .val (.int (p3 &&& (3 : Int32))), .val (.int (own_ad (((0 : Int32) + 1) + 1) (own_ad ((0 : Int32) + 1) (own_ad (0 : Int32) (own_cl (0 : Int32) (p1 % (40 : Int32))))))), .unset, .unset] [(.int (40 : Int32)), (.int p2)])) X34 hx rfl (hb hby at_99) rfl (by decide) k) ?_
        refine own_st (T' := T34) (g' := (mkF m 102 #[.val (.int p1), .val (.int p2), .val (.int p3), .val (.long q4), .second, .val (.long q5), .second, .val (.ref b1), .val (.int (p1 % (40 : Int32))), .val (.int (own_cl (0 : Int32) (p1 % (40 : Int32)))), .val (.int (1 : Int32)), .val (.int (p3 &&& (3 : Int32))), .val (.int (own_ad (((0 : Int32) + 1) + 1) (own_ad ((0 : Int32) + 1) (own_ad (0 : Int32) (own_cl (0 : Int32) (p1 % (40 : Int32))))))), .val (.int (p2 % (40 : Int32))), .unset] [])) (fun t k => XS.istore X34.here hx rfl (hb hby at_100) rfl (l' := #[.val (.int p1), .val (.int p2), .val (.int p3), .val (.long q4), .second, .val (.long q5), .second, .val (.ref b1), .val (.int (p1 % (40 : Int32))), .val (.int (own_cl (0 : Int32) (p1 % (40 : Int32)))), .val (.int (1 : Int32)), .val (.int (p3 &&& (3 : Int32))), .val (.int (own_ad (((0 : Int32) + 1) + 1) (own_ad ((0 : Int32) + 1) (own_ad (0 : Int32) (own_cl (0 : Int32) (p1 % (40 : Int32))))))), .val (.int (p2 % (40 : Int32))), .unset]) rfl k) ?_
        refine own_st (T' := T34) (g' := (mkF m 104 #[.val (.int p1), .val (.int p2), .val (.int p3), .val (.long q4), .second, .val (.long q5), .second, .val (.ref b1), .val (.int (p1 % (40 : Int32))), .val (.int (own_cl (0 : Int32) (p1 % (40 : Int32)))), .val (.int (1 : Int32)), .val (.int (p3 &&& (3 : Int32))), .val (.int (own_ad (((0 : Int32) + 1) + 1) (own_ad ((0 : Int32) + 1) (own_ad (0 : Int32) (own_cl (0 : Int32) (p1 % (40 : Int32))))))), .val (.int (p2 % (40 : Int32))), .unset] [(.ref b1)])) (fun t k => XS.aload X34.here hx rfl (hb hby at_102) rfl rfl k) ?_
        refine own_st (T' := T34) (g' := (mkF m 106 #[.val (.int p1), .val (.int p2), .val (.int p3), .val (.long q4), .second, .val (.long q5), .second, .val (.ref b1), .val (.int (p1 % (40 : Int32))), .val (.int (own_cl (0 : Int32) (p1 % (40 : Int32)))), .val (.int (1 : Int32)), .val (.int (p3 &&& (3 : Int32))), .val (.int (own_ad (((0 : Int32) + 1) + 1) (own_ad ((0 : Int32) + 1) (own_ad (0 : Int32) (own_cl (0 : Int32) (p1 % (40 : Int32))))))), .val (.int (p2 % (40 : Int32))), .unset] [(.int (p2 % (40 : Int32))), (.ref b1)])) (fun t k => XS.iload X34.here hx rfl (hb hby at_104) rfl k) ?_
        obtain ⟨_, T35, L35, hQ35, X35, st35⟩ := own_callV (y := (⟨"com/example/seriate/seriate/LongList", "clear", "(I)V"⟩ : MethodName)) (z := (⟨"com/example/seriate/seriate/LongList", "clear", "(I)V"⟩ : MethodName)) (argsL := [(.int (p2 % (40 : Int32)))]) 0 [] (K := "com/example/seriate/seriate/LongList") (own_rm3 l Z a0 hw T33.heap n0 Z33 b1 (p2 % (40 : Int32)) O s_NO S_NO A_NO g_b1 (own_rem _) _ _ LL) X34 hx hZ hown (hw _ (List.mem_of_getElem? (i := 13) rfl)) (hw _ (List.mem_of_getElem? (i := 14) rfl)) (notFace_of_selects (args := #[]) (mvT hZ (hw _ (List.mem_of_getElem? (i := 16) rfl)))) (hw _ (List.mem_of_getElem? (i := 16) rfl)) (hw _ (List.mem_of_getElem? (i := 15) rfl)) (hw _ (List.mem_of_getElem? (i := 17) rfl)) (hw _ (List.mem_of_getElem? (i := 2) rfl)) (by decide) (by decide) (by decide) (by decide) (by decide) e34 LL.exa (g := (mkF m 106 #[.val (.int p1), .val (.int p2), .val (.int p3), .val (.long q4), .second, .val (.long q5), .second, .val (.ref b1), .val (.int (p1 % (40 : Int32))), .val (.int (own_cl (0 : Int32) (p1 % (40 : Int32)))), .val (.int (1 : Int32)), .val (.int (p3 &&& (3 : Int32))), .val (.int (own_ad (((0 : Int32) + 1) + 1) (own_ad ((0 : Int32) + 1) (own_ad (0 : Int32) (own_cl (0 : Int32) (p1 % (40 : Int32))))))), .val (.int (p2 % (40 : Int32))), .unset] [(.int (p2 % (40 : Int32))), (.ref b1)])) rfl (by rw [hml]; rfl) (lenOf own_pd3 rfl) rfl (by show 2 * 0 + _ ≤ _; exact Nat.le_of_eq rfl) (hb hby at_106)
        obtain ⟨rfl, N35q, O, LL⟩ := hQ35
        have Z35 : n0 ≤ T35.heap.size := by rw [← O.1]; exact O.2.1
        have N35 := Fr.app N33 N35q
        generalize hlc35 : (lc33 ++ L35 : List Loc) = lc35 at X35 N35
        have X35 : Stand p l e room_1 s m #[(.int p1), (.int p2), (.int p3), (.long q4), (.long q5)] below meth c T35 lc35 6 128 := X35
        refine own_st (T' := T35) (g' := (mkF m 109 #[.val (.int p1), .val (.int p2), .val (.int p3), .val (.long q4), .second, .val (.long q5), .second, .val (.ref b1), .val (.int (p1 % (40 : Int32))), .val (.int (own_cl (0 : Int32) (p1 % (40 : Int32)))), .val (.int (1 : Int32)), .val (.int (p3 &&& (3 : Int32))), .val (.int (own_ad (((0 : Int32) + 1) + 1) (own_ad ((0 : Int32) + 1) (own_ad (0 : Int32) (own_cl (0 : Int32) (p1 % (40 : Int32))))))), .val (.int (p2 % (40 : Int32))), .unset] [])) st35 ?_
        refine own_st (T' := T35) (g' := (mkF m 111 #[.val (.int p1), .val (.int p2), .val (.int p3), .val (.long q4), .second, .val (.long q5), .second, .val (.ref b1), .val (.int (p1 % (40 : Int32))), .val (.int (own_cl (0 : Int32) (p1 % (40 : Int32)))), .val (.int (1 : Int32)), .val (.int (p3 &&& (3 : Int32))), .val (.int (own_ad (((0 : Int32) + 1) + 1) (own_ad ((0 : Int32) + 1) (own_ad (0 : Int32) (own_cl (0 : Int32) (p1 % (40 : Int32))))))), .val (.int (p2 % (40 : Int32))), .unset] [(.ref b1)])) (fun t k => XS.aload X35.here hx rfl (hb hby at_109) rfl rfl k) ?_
        obtain ⟨_, T36, L36, hQ36, X36, st36⟩ := own_callV (y := (⟨"com/example/seriate/seriate/LongList", "size", "()I"⟩ : MethodName)) (z := (⟨"com/example/seriate/seriate/LongList", "size", "()I"⟩ : MethodName)) (argsL := []) 0 [] (K := "com/example/seriate/seriate/LongList") (own_rm9 l Z a0 hw T35.heap n0 Z35 b1 _ _ LL) X35 hx hZ hown (hw _ (List.mem_of_getElem? (i := 47) rfl)) (hw _ (List.mem_of_getElem? (i := 48) rfl)) (notFace_of_selects (args := #[]) (mvT hZ (hw _ (List.mem_of_getElem? (i := 50) rfl)))) (hw _ (List.mem_of_getElem? (i := 50) rfl)) (hw _ (List.mem_of_getElem? (i := 49) rfl)) (hw _ (List.mem_of_getElem? (i := 51) rfl)) (hw _ (List.mem_of_getElem? (i := 2) rfl)) (by decide) (by decide) (by decide) (by decide) (by decide) rfl LL.exa (g := (mkF m 111 #[.val (.int p1), .val (.int p2), .val (.int p3), .val (.long q4), .second, .val (.long q5), .second, .val (.ref b1), .val (.int (p1 % (40 : Int32))), .val (.int (own_cl (0 : Int32) (p1 % (40 : Int32)))), .val (.int (1 : Int32)), .val (.int (p3 &&& (3 : Int32))), .val (.int (own_ad (((0 : Int32) + 1) + 1) (own_ad ((0 : Int32) + 1) (own_ad (0 : Int32) (own_cl (0 : Int32) (p1 % (40 : Int32))))))), .val (.int (p2 % (40 : Int32))), .unset] [(.ref b1)])) rfl (by rw [hml]; rfl) (lenOf own_pd4 rfl) rfl (by show 2 * 0 + _ ≤ _; exact Nat.le_of_eq rfl) (hb hby at_111)
        obtain ⟨rfl, e36, rfl⟩ := hQ36
        have X36 : Stand p l e room_1 s m #[(.int p1), (.int p2), (.int p3), (.long q4), (.long q5)] below meth c T36 lc35 6 128 := by have := X36; rwa [List.append_nil] at this
        refine own_st (T' := T36) (g' := (mkF m 114 #[.val (.int p1), .val (.int p2), .val (.int p3), .val (.long q4), .second, .val (.long q5), .second, .val (.ref b1), .val (.int (p1 % (40 : Int32))), .val (.int (own_cl (0 : Int32) (p1 % (40 : Int32)))), .val (.int (1 : Int32)), .val (.int (p3 &&& (3 : Int32))), .val (.int (own_ad (((0 : Int32) + 1) + 1) (own_ad ((0 : Int32) + 1) (own_ad (0 : Int32) (own_cl (0 : Int32) (p1 % (40 : Int32))))))), .val (.int (p2 % (40 : Int32))), .unset] [(.int (0 : Int32))])) st36 ?_
        refine own_st (T' := T36) (g' := (mkF m 117 #[.val (.int p1), .val (.int p2), .val (.int p3), .val (.long q4), .second, .val (.long q5), .second, .val (.ref b1), .val (.int (p1 % (40 : Int32))), .val (.int (own_cl (0 : Int32) (p1 % (40 : Int32)))), .val (.int (1 : Int32)), .val (.int (p3 &&& (3 : Int32))), .val (.int (own_ad (((0 : Int32) + 1) + 1) (own_ad ((0 : Int32) + 1) (own_ad (0 : Int32) (own_cl (0 : Int32) (p1 % (40 : Int32))))))), .val (.int (p2 % (40 : Int32))), .unset] [])) (fun t k => XS.ifNo X36.here hx rfl (hb hby at_114) rfl ((if0 _ _).trans (teq (by decide)).2) k) ?_
        refine own_st (T' := T36) (g' := (mkF m 119 #[.val (.int p1), .val (.int p2), .val (.int p3), .val (.long q4), .second, .val (.long q5), .second, .val (.ref b1), .val (.int (p1 % (40 : Int32))), .val (.int (own_cl (0 : Int32) (p1 % (40 : Int32)))), .val (.int (1 : Int32)), .val (.int (p3 &&& (3 : Int32))), .val (.int (own_ad (((0 : Int32) + 1) + 1) (own_ad ((0 : Int32) + 1) (own_ad (0 : Int32) (own_cl (0 : Int32) (p1 % (40 : Int32))))))), .val (.int (p2 % (40 : Int32))), .unset] [(.ref b1)])) (fun t k => XS.aload X36.here hx rfl (hb hby at_117) rfl rfl k) ?_
        obtain ⟨_, T37, L37, hQ37, X37, st37⟩ := own_callV (y := (⟨"com/example/seriate/seriate/LongList", "capacity", "()I"⟩ : MethodName)) (z := (⟨"com/example/seriate/seriate/LongList", "capacity", "()I"⟩ : MethodName)) (argsL := []) 0 [] (K := "com/example/seriate/seriate/LongList") (own_rm4 l Z a0 hw T35.heap n0 Z35 b1 _ _ LL) X36 hx hZ hown (hw _ (List.mem_of_getElem? (i := 20) rfl)) (hw _ (List.mem_of_getElem? (i := 21) rfl)) (notFace_of_selects (args := #[]) (mvT hZ (hw _ (List.mem_of_getElem? (i := 23) rfl)))) (hw _ (List.mem_of_getElem? (i := 23) rfl)) (hw _ (List.mem_of_getElem? (i := 22) rfl)) (hw _ (List.mem_of_getElem? (i := 24) rfl)) (hw _ (List.mem_of_getElem? (i := 2) rfl)) (by decide) (by decide) (by decide) (by decide) (by decide) e36 LL.exa (g := (mkF m 119 #[.val (.int p1), .val (.int p2), .val (.int p3), .val (.long q4), .second, .val (.long q5), .second, .val (.ref b1), .val (.int (p1 % (40 : Int32))), .val (.int (own_cl (0 : Int32) (p1 % (40 : Int32)))), .val (.int (1 : Int32)), .val (.int (p3 &&& (3 : Int32))), .val (.int (own_ad (((0 : Int32) + 1) + 1) (own_ad ((0 : Int32) + 1) (own_ad (0 : Int32) (own_cl (0 : Int32) (p1 % (40 : Int32))))))), .val (.int (p2 % (40 : Int32))), .unset] [(.ref b1)])) rfl (by rw [hml]; rfl) (lenOf own_pd4 rfl) rfl (by show 2 * 0 + _ ≤ _; exact Nat.le_of_eq rfl) (hb hby at_119)
        obtain ⟨rfl, e37, rfl⟩ := hQ37
        have X37 : Stand p l e room_1 s m #[(.int p1), (.int p2), (.int p3), (.long q4), (.long q5)] below meth c T37 lc35 6 128 := by have := X37; rwa [List.append_nil] at this
        refine own_st (T' := T37) (g' := (mkF m 122 #[.val (.int p1), .val (.int p2), .val (.int p3), .val (.long q4), .second, .val (.long q5), .second, .val (.ref b1), .val (.int (p1 % (40 : Int32))), .val (.int (own_cl (0 : Int32) (p1 % (40 : Int32)))), .val (.int (1 : Int32)), .val (.int (p3 &&& (3 : Int32))), .val (.int (own_ad (((0 : Int32) + 1) + 1) (own_ad ((0 : Int32) + 1) (own_ad (0 : Int32) (own_cl (0 : Int32) (p1 % (40 : Int32))))))), .val (.int (p2 % (40 : Int32))), .unset] [(.int (own_cl (own_ad (((0 : Int32) + 1) + 1) (own_ad ((0 : Int32) + 1) (own_ad (0 : Int32) (own_cl (0 : Int32) (p1 % (40 : Int32)))))) (p2 % (40 : Int32))))])) st37 ?_
        refine own_st (T' := T37) (g' := (mkF m 124 #[.val (.int p1), .val (.int p2), .val (.int p3), .val (.long q4), .second, .val (.long q5), .second, .val (.ref b1), .val (.int (p1 % (40 : Int32))), .val (.int (own_cl (0 : Int32) (p1 % (40 : Int32)))), .val (.int (1 : Int32)), .val (.int (p3 &&& (3 : Int32))), .val (.int (own_ad (((0 : Int32) + 1) + 1) (own_ad ((0 : Int32) + 1) (own_ad (0 : Int32) (own_cl (0 : Int32) (p1 % (40 : Int32))))))), .val (.int (p2 % (40 : Int32))), .unset] [(.int (own_ad (((0 : Int32) + 1) + 1) (own_ad ((0 : Int32) + 1) (own_ad (0 : Int32) (own_cl (0 : Int32) (p1 % (40 : Int32))))))), (.int (own_cl (own_ad (((0 : Int32) + 1) + 1) (own_ad ((0 : Int32) + 1) (own_ad (0 : Int32) (own_cl (0 : Int32) (p1 % (40 : Int32)))))) (p2 % (40 : Int32))))])) (fun t k => XS.iload X37.here hx rfl (hb hby at_122) rfl k) ?_
        refine own_st (T' := T37) (g' := (mkF m 126 #[.val (.int p1), .val (.int p2), .val (.int p3), .val (.long q4), .second, .val (.long q5), .second, .val (.ref b1), .val (.int (p1 % (40 : Int32))), .val (.int (own_cl (0 : Int32) (p1 % (40 : Int32)))), .val (.int (1 : Int32)), .val (.int (p3 &&& (3 : Int32))), .val (.int (own_ad (((0 : Int32) + 1) + 1) (own_ad ((0 : Int32) + 1) (own_ad (0 : Int32) (own_cl (0 : Int32) (p1 % (40 : Int32))))))), .val (.int (p2 % (40 : Int32))), .unset] [(.int (p2 % (40 : Int32))), (.int (own_ad (((0 : Int32) + 1) + 1) (own_ad ((0 : Int32) + 1) (own_ad (0 : Int32) (own_cl (0 : Int32) (p1 % (40 : Int32))))))), (.int (own_cl (own_ad (((0 : Int32) + 1) + 1) (own_ad ((0 : Int32) + 1) (own_ad (0 : Int32) (own_cl (0 : Int32) (p1 % (40 : Int32)))))) (p2 % (40 : Int32))))])) (fun t k => XS.iload X37.here hx rfl (hb hby at_124) rfl k) ?_
        obtain ⟨r38, hr38⟩ : ∃ q, q = own_max (own_ad (((0 : Int32) + 1) + 1) (own_ad ((0 : Int32) + 1) (own_ad (0 : Int32) (own_cl (0 : Int32) (p1 % (40 : Int32)))))) (p2 % (40 : Int32)) := ⟨_, rfl⟩
        obtain ⟨_, T38, L38, hQ38, X38, st38⟩ := own_callS (y := (⟨"java/lang/Math", "max", "(II)I"⟩ : MethodName)) (argsL := [(.int (own_ad (((0 : Int32) + 1) + 1) (own_ad ((0 : Int32) + 1) (own_ad (0 : Int32) (own_cl (0 : Int32) (p1 % (40 : Int32))))))), (.int (p2 % (40 : Int32)))]) 1 [(.int (own_cl (own_ad (((0 : Int32) + 1) + 1) (own_ad ((0 : Int32) + 1) (own_ad (0 : Int32) (own_cl (0 : Int32) (p1 % (40 : Int32)))))) (p2 % (40 : Int32))))] (own_rm5 l Z a0 hw T35.heap n0 Z35 (own_ad (((0 : Int32) + 1) + 1) (own_ad ((0 : Int32) + 1) (own_ad (0 : Int32) (own_cl (0 : Int32) (p1 % (40 : Int32)))))) (p2 % (40 : Int32)) _ hr38) X37 hx hZ hown (hw _ (List.mem_of_getElem? (i := 25) rfl)) (hw _ (List.mem_of_getElem? (i := 26) rfl)) (hw _ (List.mem_of_getElem? (i := 27) rfl)) (hw _ (List.mem_of_getElem? (i := 28) rfl)) (by decide) (by decide) (by decide) (by decide) (by decide) e37 (g := (mkF m 126 #[.val (.int p1), .val (.int p2), .val (.int p3), .val (.long q4), .second, .val (.long q5), .second, .val (.ref b1), .val (.int (p1 % (40 : Int32))), .val (.int (own_cl (0 : Int32) (p1 % (40 : Int32)))), .val (.int (1 : Int32)), .val (.int (p3 &&& (3 : Int32))), .val (.int (own_ad (((0 : Int32) + 1) + 1) (own_ad ((0 : Int32) + 1) (own_ad (0 : Int32) (own_cl (0 : Int32) (p1 % (40 : Int32))))))), .val (.int (p2 % (40 : Int32))), .unset] [(.int (p2 % (40 : Int32))), (.int (own_ad (((0 : Int32) + 1) + 1) (own_ad ((0 : Int32) + 1) (own_ad (0 : Int32) (own_cl (0 : Int32) (p1 % (40 : Int32))))))), (.int (own_cl (own_ad (((0 : Int32) + 1) + 1) (own_ad ((0 : Int32) + 1) (own_ad (0 : Int32) (own_cl (0 : Int32) (p1 % (40 : Int32)))))) (p2 % (40 : Int32))))])) rfl (by rw [hml]; rfl) (lenOf own_pd0 rfl) rfl (by show 2 * 0 + _ ≤ _; exact Nat.le_of_eq rfl) (hb hby at_126)
        obtain ⟨rfl, e38, rfl⟩ := hQ38
        have X38 : Stand p l e room_1 s m #[(.int p1), (.int p2), (.int p3), (.long q4), (.long q5)] below meth c T38 lc35 6 128 := by have := X38; rwa [List.append_nil] at this
        refine own_st (T' := T38) (g' := (mkF m 129 #[.val (.int p1), .val (.int p2), .val (.int p3), .val (.long q4), .second, .val (.long q5), .second, .val (.ref b1), .val (.int (p1 % (40 : Int32))), .val (.int (own_cl (0 : Int32) (p1 % (40 : Int32)))), .val (.int (1 : Int32)), .val (.int (p3 &&& (3 : Int32))), .val (.int (own_ad (((0 : Int32) + 1) + 1) (own_ad ((0 : Int32) + 1) (own_ad (0 : Int32) (own_cl (0 : Int32) (p1 % (40 : Int32))))))), .val (.int (p2 % (40 : Int32))), .unset] [(.int r38), (.int (own_cl (own_ad (((0 : Int32) + 1) + 1) (own_ad ((0 : Int32) + 1) (own_ad (0 : Int32) (own_cl (0 : Int32) (p1 % (40 : Int32)))))) (p2 % (40 : Int32))))])) st38 ?_
        have hk39 : (own_cl (own_ad (((0 : Int32) + 1) + 1) (own_ad ((0 : Int32) + 1) (own_ad (0 : Int32) (own_cl (0 : Int32) (p1 % (40 : Int32)))))) (p2 % (40 : Int32))) = r38 := by rw [hr38]; rfl
        refine own_st (T' := T38) (g' := (mkF m 132 #[.val (.int p1), .val (.int p2), .val (.int p3), .val (.long q4), .second, .val (.long q5), .second, .val (.ref b1), .val (.int (p1 % (40 : Int32))), .val (.int (own_cl (0 : Int32) (p1 % (40 : Int32)))), .val (.int (1 : Int32)), .val (.int (p3 &&& (3 : Int32))), .val (.int (own_ad (((0 : Int32) + 1) + 1) (own_ad ((0 : Int32) + 1) (own_ad (0 : Int32) (own_cl (0 : Int32) (p1 % (40 : Int32))))))), .val (.int (p2 % (40 : Int32))), .unset] [])) (fun t k => XS.icmpNo X38.here hx rfl (hb hby at_129) rfl (teq hk39).2 k) ?_
        refine own_st (T' := T38) (g' := (mkF m 133 #[.val (.int p1), .val (.int p2), .val (.int p3), .val (.long q4), .second, .val (.long q5), .second, .val (.ref b1), .val (.int (p1 % (40 : Int32))), .val (.int (own_cl (0 : Int32) (p1 % (40 : Int32)))), .val (.int (1 : Int32)), .val (.int (p3 &&& (3 : Int32))), .val (.int (own_ad (((0 : Int32) + 1) + 1) (own_ad ((0 : Int32) + 1) (own_ad (0 : Int32) (own_cl (0 : Int32) (p1 % (40 : Int32))))))), .val (.int (p2 % (40 : Int32))), .unset] [(.int (1 : Int32))])) (fun t k => XS.iconst X38.here hx rfl (hb hby at_132) k) ?_
        refine own_st (T' := T38) (g' := (mkF m 137 #[.val (.int p1), .val (.int p2), .val (.int p3), .val (.long q4), .second, .val (.long q5), .second, .val (.ref b1), .val (.int (p1 % (40 : Int32))), .val (.int (own_cl (0 : Int32) (p1 % (40 : Int32)))), .val (.int (1 : Int32)), .val (.int (p3 &&& (3 : Int32))), .val (.int (own_ad (((0 : Int32) + 1) + 1) (own_ad ((0 : Int32) + 1) (own_ad (0 : Int32) (own_cl (0 : Int32) (p1 % (40 : Int32))))))), .val (.int (p2 % (40 : Int32))), .unset] [(.int (1 : Int32))])) (fun t k => XS.goto X38.here hx rfl (pc0 := 133) (pc' := 137) rfl (hb hby at_133) (by decide) (by decide) k) ?_
        refine own_st (T' := T38) (g' := (mkF m 139 #[.val (.int p1), .val (.int p2), .val (.int p3), .val (.long q4), .second, .val (.long q5), .second, .val (.ref b1), .val (.int (p1 % (40 : Int32))), .val (.int (own_cl (0 : Int32) (p1 % (40 : Int32)))), .val (.int (1 : Int32)), .val (.int (p3 &&& (3 : Int32))), .val (.int (own_ad (((0 : Int32) + 1) + 1) (own_ad ((0 : Int32) + 1) (own_ad (0 : Int32) (own_cl (0 : Int32) (p1 % (40 : Int32))))))), .val (.int (p2 % (40 : Int32))), .val (.int (1 : Int32))] [])) (fun t k => XS.istore X38.here hx rfl (hb hby at_137) rfl (l' := #[.val (.int p1), .val (.int p2), .val (.int p3), .val (.long q4), .second, .val (.long q5), .second, .val (.ref b1), .val (.int (p1 % (40 : Int32))), .val (.int (own_cl (0 : Int32) (p1 % (40 : Int32)))), .val (.int (1 : Int32)), .val (.int (p3 &&& (3 : Int32))), .val (.int (own_ad (((0 : Int32) + 1) + 1) (own_ad ((0 : Int32) + 1) (own_ad (0 : Int32) (own_cl (0 : Int32) (p1 % (40 : Int32))))))), .val (.int (p2 % (40 : Int32))), .val (.int (1 : Int32))]) rfl k) ?_
        refine own_st (T' := T38) (g' := (mkF m 141 #[.val (.int p1), .val (.int p2), .val (.int p3), .val (.long q4), .second, .val (.long q5), .second, .val (.ref b1), .val (.int (p1 % (40 : Int32))), .val (.int (own_cl (0 : Int32) (p1 % (40 : Int32)))), .val (.int (1 : Int32)), .val (.int (p3 &&& (3 : Int32))), .val (.int (own_ad (((0 : Int32) + 1) + 1) (own_ad ((0 : Int32) + 1) (own_ad (0 : Int32) (own_cl (0 : Int32) (p1 % (40 : Int32))))))), .val (.int (p2 % (40 : Int32))), .val (.int (1 : Int32))] [(.int (1 : Int32))])) (fun t k => XS.iload X38.here hx rfl (hb hby at_139) rfl k) ?_
        refine own_st (T' := T38) (g' := (mkF m 144 #[.val (.int p1), .val (.int p2), .val (.int p3), .val (.long q4), .second, .val (.long q5), .second, .val (.ref b1), .val (.int (p1 % (40 : Int32))), .val (.int (own_cl (0 : Int32) (p1 % (40 : Int32)))), .val (.int (1 : Int32)), .val (.int (p3 &&& (3 : Int32))), .val (.int (own_ad (((0 : Int32) + 1) + 1) (own_ad ((0 : Int32) + 1) (own_ad (0 : Int32) (own_cl (0 : Int32) (p1 % (40 : Int32))))))), .val (.int (p2 % (40 : Int32))), .val (.int (1 : Int32))] [])) (fun t k => XS.ifNo X38.here hx rfl (hb hby at_141) rfl ((if0 _ _).trans (feq (by decide)).1) k) ?_
        refine own_st (T' := T38) (g' := (mkF m 146 #[.val (.int p1), .val (.int p2), .val (.int p3), .val (.long q4), .second, .val (.long q5), .second, .val (.ref b1), .val (.int (p1 % (40 : Int32))), .val (.int (own_cl (0 : Int32) (p1 % (40 : Int32)))), .val (.int (1 : Int32)), .val (.int (p3 &&& (3 : Int32))), .val (.int (own_ad (((0 : Int32) + 1) + 1) (own_ad ((0 : Int32) + 1) (own_ad (0 : Int32) (own_cl (0 : Int32) (p1 % (40 : Int32))))))), .val (.int (p2 % (40 : Int32))), .val (.int (1 : Int32))] [(.int (1 : Int32))])) (fun t k => XS.iload X38.here hx rfl (hb hby at_144) rfl k) ?_
        refine own_st (T' := T38) (g' := (mkF m 149 #[.val (.int p1), .val (.int p2), .val (.int p3), .val (.long q4), .second, .val (.long q5), .second, .val (.ref b1), .val (.int (p1 % (40 : Int32))), .val (.int (own_cl (0 : Int32) (p1 % (40 : Int32)))), .val (.int (1 : Int32)), .val (.int (p3 &&& (3 : Int32))), .val (.int (own_ad (((0 : Int32) + 1) + 1) (own_ad ((0 : Int32) + 1) (own_ad (0 : Int32) (own_cl (0 : Int32) (p1 % (40 : Int32))))))), .val (.int (p2 % (40 : Int32))), .val (.int (1 : Int32))] [])) (fun t k => XS.ifNo X38.here hx rfl (hb hby at_146) rfl ((if0 _ _).trans (feq (by decide)).1) k) ?_
        refine own_st (T' := T38) (g' := (mkF m 150 #[.val (.int p1), .val (.int p2), .val (.int p3), .val (.long q4), .second, .val (.long q5), .second, .val (.ref b1), .val (.int (p1 % (40 : Int32))), .val (.int (own_cl (0 : Int32) (p1 % (40 : Int32)))), .val (.int (1 : Int32)), .val (.int (p3 &&& (3 : Int32))), .val (.int (own_ad (((0 : Int32) + 1) + 1) (own_ad ((0 : Int32) + 1) (own_ad (0 : Int32) (own_cl (0 : Int32) (p1 % (40 : Int32))))))), .val (.int (p2 % (40 : Int32))), .val (.int (1 : Int32))] [(.int (1 : Int32))])) (fun t k => XS.iconst X38.here hx rfl (hb hby at_149) k) ?_
        refine own_st (T' := T38) (g' := (mkF m 154 #[.val (.int p1), .val (.int p2), .val (.int p3), .val (.long q4), .second, .val (.long q5), .second, .val (.ref b1), .val (.int (p1 % (40 : Int32))), .val (.int (own_cl (0 : Int32) (p1 % (40 : Int32)))), .val (.int (1 : Int32)), .val (.int (p3 &&& (3 : Int32))), .val (.int (own_ad (((0 : Int32) + 1) + 1) (own_ad ((0 : Int32) + 1) (own_ad (0 : Int32) (own_cl (0 : Int32) (p1 % (40 : Int32))))))), .val (.int (p2 % (40 : Int32))), .val (.int (1 : Int32))] [(.int (1 : Int32))])) (fun t k => XS.goto X38.here hx rfl (pc0 := 150) (pc' := 154) rfl (hb hby at_150) (by decide) (by decide) k) ?_
        exact own_retB X38 hx hlk hret (hb hby at_154) (by decide) (by decide) rfl ⟨rfl, N35⟩
set_option maxRecDepth 65536 in
set_option maxHeartbeats 40000000 in
theorem own_comes {Post : Tables → Env → Array Value → State → Outcome → State → Prop} (hpost : ∀ tb e args s v u, (limb_1_1.after args s (.returned v) u = true ∧ limb_1_2.after args s (.returned v) u = true ∧ True) → FrameEnd s (.returned v) u (Jvm.fieldLocs frame_1_writes args s ++ Jvm.arrayLocs frame_1_arrays args s ++ Jvm.staticLocs frame_1_statics s) 16 256 → Post tb e args s (.returned v) u) :
    ArmFor flags0 classFile x code maxLocals ret World_1 tables_1 room_1 Calls_1 rest_1 Pre_1 Post := by
  intro l hfl _ _ p e ha hc hk s m args below hf hA hF happ hP
  obtain ⟨hcalls, hrest, hpre⟩ := hP
  obtain ⟨-, -, -, hnamed, -, -, -, hat⟩ := (Spec.applies_iff hf).mp happ
  obtain ⟨hg, hn⟩ := and_e (Cond.before_iff.mp (show (Jvm.Cond.and given_1 narrow_1).before args s = true from hpre))
  obtain ⟨hcount, hg⟩ := and_e hg
  obtain ⟨w0, w1, w2, w3, w4, rfl⟩ : ∃ w0 w1 w2 w3 w4 : Value, args = #[w0, w1, w2, w3, w4] := by
    have hs : args.size = 5 := by simpa [Cond.value, given_1] using hcount
    obtain ⟨L⟩ := args
    match L, hs with
    | [w0, w1, w2, w3, w4], _ => exact ⟨w0, w1, w2, w3, w4, rfl⟩
  have hw := fun d (hd : d ∈ tables_1) => atoms_spec (ws := Jvm.Cond.code x code maxLocals ret :: tables_1) hat d (List.mem_cons_of_mem _ hd)
  have hfit : Fit s := fun {y c} hc i hi => by
    obtain ⟨ha, rfl⟩ := Array.getElem?_eq_some_iff.mp hc
    have q := List.all_eq_true.mp ((Array.all_eq_true_iff_forall_mem.mp hF) _ (Array.getElem_mem ha)) i (List.mem_range.mpr hi)
    simpa [Array.getElem?_eq_getElem hi] using q
  obtain ⟨g0, hg⟩ := and_e hg
  obtain ⟨i0, ei0⟩ := is_v g0
  obtain rfl : w0 = (.int i0) := Option.some.inj ei0
  obtain ⟨g1, hg⟩ := and_e hg
  obtain ⟨i1, ei1⟩ := is_v g1
  obtain rfl : w1 = (.int i1) := Option.some.inj ei1
  obtain ⟨g2, hg⟩ := and_e hg
  obtain ⟨i2, ei2⟩ := is_v g2
  obtain rfl : w2 = (.int i2) := Option.some.inj ei2
  obtain ⟨g3, hg⟩ := and_e hg
  obtain ⟨i3, ei3⟩ := isL_v g3
  obtain rfl : w3 = (.long i3) := Option.some.inj ei3
  have g4 := hg
  obtain ⟨i4, ei4⟩ := isL_v g4
  obtain rfl : w4 = (.long i4) := Option.some.inj ei4
  obtain ⟨n0, hn⟩ := and_e hn
  obtain ⟨n1, hn⟩ := and_e hn
  have n2 := hn
  obtain ⟨s_NO, _, _, _, e_NO, -⟩ := Cond.exactly_spec (Cond.before_iff.mpr n1)
  have S_NO : Sta s s.heap "com/example/seriate/seriate/LongList" "NO_VALUES" "[J" (.ref s_NO) := Sta.start e_NO (Or.inr ⟨(hw _ (List.mem_of_getElem? (i := 2) rfl)), (hw _ (List.mem_of_getElem? (i := 10) rfl))⟩)
  obtain ⟨cc, Ac⟩ := Arr.start e_NO n0
  obtain ⟨q1, q2⟩ := Jvm.Free.IntBox.length_fwd (Cond.before_iff.mpr n2) e_NO Ac.1 Ac.2.1 Ac.2.2
  have A_NO : own_LA s s.heap s_NO 0 := ⟨_, [], .long 0, Arv.start hfit Ac q1 q2 (by decide) rfl trivial, by decide⟩
  obtain ⟨n, o, h1, h2, h3, _, L, rfl, ⟨rfl, N⟩, hq⟩ := own_rm0 l s _ hw s.heap     s.heap.size (Nat.le_refl _) i0 i1 i2 i3 i4 (Old.start s) s_NO S_NO A_NO p e ha hc hk s m _ below hf ((Spec.applies_iff_loose hf).mp happ).1 ⟨rfl, State.Warmed39.refl s, rfl⟩ trivial
  exact ⟨n, _, h1, h2, h3, hpost _ _ _ _ _ _ ⟨Cond.after_iff.mpr rfl, Cond.after_iff.mpr (eq_i res_at (Term.int_eval (1)) rfl), trivial⟩ ⟨hq.1, hq.2.1, (hq.2.2.sift fun y hy => Or.inr (N y hy)).mono (by decide) (by decide)⟩⟩
theorem main_1_1 : Claimed_1_1 := own_comes fun _ _ _ _ _ _ h hF => ⟨h.1, hF⟩
theorem main_1_2 : Claimed_1_2 := own_comes fun _ _ _ _ _ _ h hF => ⟨h.2.1, hF⟩
end Jvm.Pilot.@@N@@
namespace Jvm.Pilot.@@N@@
open Jvm Jvm.ClassFile Sem Op Lib Jvm.Free Jvm.Stand Jvm.Pilot.@@N@@.Jvm.D
/-! MADE BY PROGRAM (witnessworld.py) out of the Statement's table words and the real class files: 14 classes; the members and pool entries that the words name. The judged class is class 1, her method 1. -/
namespace start1
open Jvm.ClassFile
def u (s : String) : CpInfo := .utf8 (stringToUtf16 s)
/-- a pool by its gaps: so many unusable entries, then the entry; so many at the end -/
def gap : Nat → List CpInfo → List CpInfo
  | 0, r => r
  | n + 1, r => .unusable :: gap n r
def poolList (es : List (Nat × CpInfo)) (last : Nat) : List CpInfo := es.foldr (fun e r => gap e.1 (e.2 :: r)) (gap last [])
def pool (es : List (Nat × CpInfo)) (last : Nat) : Array CpInfo := ⟨poolList es last⟩
def fileOf (pool : Array CpInfo) (this : Nat) (attrs : Array Attribute := #[]) (ms : Array MethodInfo := #[]) (fl : Nat := 33) (sup : Nat := 0) (ifs : Array Nat := #[]) (fds : Array FieldInfo := #[]) : ClassFile where
  minorVersion := 0
  majorVersion := 65
  constantPool := pool
  accessFlags := fl
  thisClass := this
  superClass := sup
  interfaces := ifs
  fields := fds
  methods := ms
  attributes := attrs
def plain (name : String) (sup : Option ClassId) : Class where
  name := name
  kind := .ordinary
  loader := none
  accessFlags := 33
  super := sup
  interfaces := #[]
  cf := none
  fields := #[]
  methods := #[]
  instanceTypes := #[]
  staticTypes := #[]
  resolved := #[]
  callSites := []
  init := .initialized
  statics := none
  mirror := none

def pool0 : Array CpInfo := pool [(5, u "<init>"), (0, u "()V"), (1, .class_ 10), (1, u "java/lang/Object")] 113

def k0c0 : Code := { maxStack := 0, maxLocals := 1, code := object_method_1_code, exceptionTable := #[], attributes := #[] }
def k0m0 : Method := { name := "<init>", desc := "()V", sig := { parameters := [], returnType := none }, accessFlags := 1, code := some k0c0 }
/-- java/lang/Object -/
def k0 : Class := { plain "java/lang/Object" none with
  accessFlags := 33
  interfaces := #[]
  cf := some (fileOf pool0 8 #[] #[{ accessFlags := 1, nameIndex := 5, descriptorIndex := 6, attributes := #[] }] 33 0 #[] #[])
  fields := #[]
  methods := #[k0m0]
  instanceTypes := #[]
  staticTypes := #[]
  resolved := Array.replicate 124 none
  statics := none }

def pool1 : Array CpInfo := pool [(2, .class_ 4), (0, .nameAndType 5 6), (0, u "java/lang/Object"), (0, u "<init>"), (0, u "()V"), (0, .class_ 8), (0, u "com/example/seriate/seriate/LongList"), (0, .methodref 7 3), (0, .methodref 7 11), (0, .nameAndType 12 13), (0, u "clear"), (0, u "(I)V"), (0, .methodref 7 15), (0, .nameAndType 16 17), (0, u "capacity"), (0, u "()I"), (0, .methodref 19 20), (0, .class_ 21), (0, .nameAndType 22 23), (0, u "java/lang/Math"), (0, u "max"), (0, u "(II)I"), (0, .methodref 7 25), (0, .nameAndType 26 27), (0, u "add"), (0, u "(J)V"), (0, .methodref 7 29), (0, .nameAndType 30 17), (0, u "size"), (0, .class_ 32), (0, u "com/example/seriate/seriate/LongListClearPinLaw"), (2, u "law"), (0, u "(IIIJJ)Z")] 3

def k1m0 : Method := { name := "<init>", desc := "()V", sig := { parameters := [], returnType := none }, accessFlags := 1, code := none }
def k1c1 : Code := { maxStack := 3, maxLocals := 15, code := code, exceptionTable := #[], attributes := #[] }
def k1m1 : Method := { name := "law", desc := "(IIIJJ)Z", sig := { parameters := [.int, .int, .int, .long, .long], returnType := some .boolean }, accessFlags := 9, code := some k1c1 }
/-- com/example/seriate/seriate/LongListClearPinLaw -/
def k1 : Class := { plain "com/example/seriate/seriate/LongListClearPinLaw" (some 0) with
  accessFlags := 49
  interfaces := #[]
  cf := some (fileOf pool1 31 #[] #[{ accessFlags := 1, nameIndex := 5, descriptorIndex := 6, attributes := #[] }, { accessFlags := 9, nameIndex := 35, descriptorIndex := 36, attributes := #[] }] 49 2 #[] #[])
  fields := #[]
  methods := #[k1m0, k1m1]
  instanceTypes := #[]
  staticTypes := #[]
  resolved := Array.replicate 40 none
  statics := none }

def pool2 : Array CpInfo := pool [(1, .methodref 2 3), (0, .class_ 4), (0, .nameAndType 5 6), (0, u "java/lang/Object"), (0, u "<init>"), (0, u "()V"), (0, .fieldref 8 9), (0, .class_ 10), (0, .nameAndType 11 12), (0, u "com/example/seriate/seriate/LongList"), (0, u "NO_VALUES"), (0, u "[J"), (0, .fieldref 8 14), (0, .nameAndType 15 12), (0, u "values"), (0, .fieldref 8 17), (0, .nameAndType 18 19), (0, u "size"), (0, u "I"), (4, u "(I)V"), (0, .methodref 26 27), (0, .class_ 28), (0, .nameAndType 29 30), (0, u "java/lang/Math"), (0, u "max"), (0, u "(II)I"), (0, .methodref 32 33), (0, .class_ 34), (0, .nameAndType 35 36), (0, u "java/util/Arrays"), (0, u "copyOf"), (0, u "([JI)[J"), (0, u "FIRST_CAPACITY"), (4, u "()I"), (0, u "capacity"), (3, u "clear"), (0, u "add"), (0, u "(J)V")] 3

def k2c0 : Code := { maxStack := 2, maxLocals := 1, code := prog_26_method_1_code, exceptionTable := #[], attributes := #[] }
def k2m0 : Method := { name := "<init>", desc := "()V", sig := { parameters := [], returnType := none }, accessFlags := 0, code := some k2c0 }
def k2c1 : Code := { maxStack := 1, maxLocals := 1, code := prog_26_method_2_code, exceptionTable := #[], attributes := #[] }
def k2m1 : Method := { name := "size", desc := "()I", sig := { parameters := [], returnType := some .int }, accessFlags := 0, code := some k2c1 }
def k2c2 : Code := { maxStack := 1, maxLocals := 1, code := prog_26_method_3_code, exceptionTable := #[], attributes := #[] }
def k2m2 : Method := { name := "capacity", desc := "()I", sig := { parameters := [], returnType := some .int }, accessFlags := 0, code := some k2c2 }
def k2c3 : Code := { maxStack := 2, maxLocals := 2, code := prog_26_method_5_code, exceptionTable := #[], attributes := #[] }
def k2m3 : Method := { name := "clear", desc := "(I)V", sig := { parameters := [.int], returnType := none }, accessFlags := 0, code := some k2c3 }
def k2c4 : Code := { maxStack := 5, maxLocals := 3, code := prog_26_method_6_code, exceptionTable := #[], attributes := #[] }
def k2m4 : Method := { name := "add", desc := "(J)V", sig := { parameters := [.long], returnType := none }, accessFlags := 0, code := some k2c4 }
/-- com/example/seriate/seriate/LongList -/
def k2 : Class := { plain "com/example/seriate/seriate/LongList" (some 0) with
  accessFlags := 48
  interfaces := #[]
  cf := some (fileOf pool2 8 #[] #[{ accessFlags := 0, nameIndex := 5, descriptorIndex := 6, attributes := #[] }, { accessFlags := 0, nameIndex := 18, descriptorIndex := 42, attributes := #[] }, { accessFlags := 0, nameIndex := 43, descriptorIndex := 42, attributes := #[] }, { accessFlags := 0, nameIndex := 47, descriptorIndex := 24, attributes := #[] }, { accessFlags := 0, nameIndex := 48, descriptorIndex := 49, attributes := #[] }] 48 2 #[] #[{ accessFlags := 26, nameIndex := 37, descriptorIndex := 19, attributes := #[] }, { accessFlags := 26, nameIndex := 11, descriptorIndex := 12, attributes := #[] }, { accessFlags := 2, nameIndex := 15, descriptorIndex := 12, attributes := #[] }, { accessFlags := 2, nameIndex := 18, descriptorIndex := 19, attributes := #[] }])
  fields := #[{ name := "FIRST_CAPACITY", type := .int, accessFlags := 26, slot := 0, constantValue := 0 }, { name := "NO_VALUES", type := (.array .long), accessFlags := 26, slot := 1, constantValue := 0 }, { name := "values", type := (.array .long), accessFlags := 2, slot := 0, constantValue := 0 }, { name := "size", type := .int, accessFlags := 2, slot := 1, constantValue := 0 }]
  methods := #[k2m0, k2m1, k2m2, k2m3, k2m4]
  instanceTypes := #[(.array .long), .int]
  staticTypes := #[.int, (.array .long)]
  resolved := Array.replicate 53 none
  statics := some 0 }

def pool3 : Array CpInfo := pool [(1, .class_ 2), (0, u "java/lang/Math"), (1, .class_ 6), (1, u "java/lang/Object"), (0, u "<init>"), (0, u "()V"), (89, .class_ 100), (1, u "java/lang/Math$RandomNumberGeneratorHolder"), (71, u "negativeZeroFloatBits"), (0, u "J"), (2, u "negativeZeroDoubleBits"), (21, u "max"), (2, u "min"), (43, u "$assertionsDisabled"), (0, u "Z"), (88, u "(II)I"), (2, u "twoToTheDoubleScaleDown"), (0, u "D"), (4, u "twoToTheDoubleScaleUp"), (9, u "E"), (3, u "PI"), (2, u "TAU"), (2, u "DEGREES_TO_RADIANS"), (0, u "RADIANS_TO_DEGREES")] 94

def k3m0 : Method := { name := "<init>", desc := "()V", sig := { parameters := [], returnType := none }, accessFlags := 2, code := none }
def k3c1 : Code := { maxStack := 2, maxLocals := 2, code := jdk_29_method_65_code, exceptionTable := #[], attributes := #[] }
def k3m1 : Method := { name := "max", desc := "(II)I", sig := { parameters := [.int, .int], returnType := some .int }, accessFlags := 9, code := some k3c1 }
def k3c2 : Code := { maxStack := 2, maxLocals := 2, code := jdk_29_method_69_code, exceptionTable := #[], attributes := #[] }
def k3m2 : Method := { name := "min", desc := "(II)I", sig := { parameters := [.int, .int], returnType := some .int }, accessFlags := 9, code := some k3c2 }
/-- java/lang/Math -/
def k3 : Class := { plain "java/lang/Math" (some 0) with
  accessFlags := 49
  interfaces := #[]
  cf := some (fileOf pool3 1 #[.nestMembers #[98]] #[{ accessFlags := 2, nameIndex := 7, descriptorIndex := 8, attributes := #[] }, { accessFlags := 9, nameIndex := 198, descriptorIndex := 335, attributes := #[] }, { accessFlags := 9, nameIndex := 201, descriptorIndex := 335, attributes := #[] }] 49 4 #[] #[{ accessFlags := 25, nameIndex := 354, descriptorIndex := 339, attributes := #[] }, { accessFlags := 25, nameIndex := 358, descriptorIndex := 339, attributes := #[] }, { accessFlags := 25, nameIndex := 361, descriptorIndex := 339, attributes := #[] }, { accessFlags := 26, nameIndex := 364, descriptorIndex := 339, attributes := #[] }, { accessFlags := 26, nameIndex := 365, descriptorIndex := 339, attributes := #[] }, { accessFlags := 26, nameIndex := 172, descriptorIndex := 173, attributes := #[] }, { accessFlags := 26, nameIndex := 176, descriptorIndex := 173, attributes := #[] }, { accessFlags := 8, nameIndex := 344, descriptorIndex := 339, attributes := #[] }, { accessFlags := 8, nameIndex := 338, descriptorIndex := 339, attributes := #[] }, { accessFlags := 4120, nameIndex := 245, descriptorIndex := 246, attributes := #[] }])
  fields := #[{ name := "E", type := .double, accessFlags := 25, slot := 0, constantValue := 0 }, { name := "PI", type := .double, accessFlags := 25, slot := 1, constantValue := 0 }, { name := "TAU", type := .double, accessFlags := 25, slot := 2, constantValue := 0 }, { name := "DEGREES_TO_RADIANS", type := .double, accessFlags := 26, slot := 3, constantValue := 0 }, { name := "RADIANS_TO_DEGREES", type := .double, accessFlags := 26, slot := 4, constantValue := 0 }, { name := "negativeZeroFloatBits", type := .long, accessFlags := 26, slot := 5, constantValue := 0 }, { name := "negativeZeroDoubleBits", type := .long, accessFlags := 26, slot := 6, constantValue := 0 }, { name := "twoToTheDoubleScaleUp", type := .double, accessFlags := 8, slot := 7, constantValue := 0 }, { name := "twoToTheDoubleScaleDown", type := .double, accessFlags := 8, slot := 8, constantValue := 0 }, { name := "$assertionsDisabled", type := .boolean, accessFlags := 4120, slot := 9, constantValue := 0 }]
  methods := #[k3m0, k3m1, k3m2]
  instanceTypes := #[]
  staticTypes := #[.double, .double, .double, .double, .double, .long, .long, .double, .double, .boolean]
  resolved := Array.replicate 460 none
  statics := none }

def pool4 : Array CpInfo := pool [(2, .class_ 4), (1, u "java/lang/Object"), (0, u "<init>"), (0, u "()V"), (7, .class_ 16), (1, u "java/util/Arrays"), (57, .class_ 76), (1, u "java/util/Arrays$NaturalOrder"), (36, .class_ 115), (1, u "java/util/Arrays$LegacyMergeSort"), (1, u "Z"), (32, .methodref 151 152), (0, .class_ 153), (0, .nameAndType 154 155), (0, u "java/lang/System"), (0, u "arraycopy"), (0, u "(Ljava/lang/Object;ILjava/lang/Object;II)V"), (146, u "copyOf"), (1, .methodref 305 306), (0, .class_ 307), (0, .nameAndType 308 309), (0, u "java/lang/Math"), (0, u "min"), (0, u "(II)I"), (65, .class_ 376), (0, u "java/util/Arrays$ArrayList"), (68, u "$assertionsDisabled"), (269, u "MIN_ARRAY_SORT_GRAN"), (0, u "I"), (2, u "INSERTIONSORT_THRESHOLD"), (152, u "([JI)[J"), (102, .class_ 976), (0, u "java/util/Arrays$ArrayItr")] 52

def k4m0 : Method := { name := "<init>", desc := "()V", sig := { parameters := [], returnType := none }, accessFlags := 2, code := none }
def k4c1 : Code := { maxStack := 6, maxLocals := 3, code := jdk_65_method_124_code, exceptionTable := #[], attributes := #[] }
def k4m1 : Method := { name := "copyOf", desc := "([JI)[J", sig := { parameters := [(.array .long), .int], returnType := some (.array .long) }, accessFlags := 9, code := some k4c1 }
/-- java/util/Arrays -/
def k4 : Class := { plain "java/util/Arrays" (some 0) with
  accessFlags := 49
  interfaces := #[]
  cf := some (fileOf pool4 14 #[.nestMembers #[975, 375, 113, 74]] #[{ accessFlags := 2, nameIndex := 5, descriptorIndex := 6, attributes := #[] }, { accessFlags := 9, nameIndex := 302, descriptorIndex := 872, attributes := #[] }] 49 2 #[] #[{ accessFlags := 26, nameIndex := 715, descriptorIndex := 716, attributes := #[] }, { accessFlags := 26, nameIndex := 719, descriptorIndex := 716, attributes := #[] }, { accessFlags := 4120, nameIndex := 445, descriptorIndex := 117, attributes := #[] }])
  fields := #[{ name := "MIN_ARRAY_SORT_GRAN", type := .int, accessFlags := 26, slot := 0, constantValue := 0 }, { name := "INSERTIONSORT_THRESHOLD", type := .int, accessFlags := 26, slot := 1, constantValue := 0 }, { name := "$assertionsDisabled", type := .boolean, accessFlags := 4120, slot := 2, constantValue := 0 }]
  methods := #[k4m0, k4m1]
  instanceTypes := #[]
  staticTypes := #[.int, .int, .boolean]
  resolved := Array.replicate 1029 none
  statics := none }

def pool5 : Array CpInfo := pool [(2, .class_ 4), (1, u "java/lang/Object"), (0, u "<init>"), (0, u "()V"), (1, .class_ 10), (1, u "java/lang/System"), (0, u "allowSecurityManager"), (0, u "I"), (16, u "cons"), (0, u "Ljava/io/Console;"), (77, .class_ 110), (1, u "java/lang/System$CallersHolder"), (43, u "initialErrStream"), (0, u "Ljava/io/PrintStream;"), (19, u "security"), (0, u "Ljava/lang/SecurityManager;"), (31, .class_ 209), (0, u "java/lang/System$1"), (7, u "props"), (0, u "Ljava/util/Properties;"), (2, u "lineSeparator"), (0, u "Ljava/lang/String;"), (96, .class_ 321), (1, u "java/lang/System$LoggerFinder"), (5, .class_ 328), (0, u "java/lang/System$Logger"), (67, u "err"), (2, u "out"), (91, u "notSupportedJnuEncoding"), (15, u "in"), (17, u "initialIn"), (0, u "Ljava/io/InputStream;"), (35, u "bootLayer"), (0, u "Ljava/lang/ModuleLayer;"), (99, .class_ 664), (0, u "java/lang/System$2"), (9, u "NEVER"), (2, u "MAYBE"), (49, u "arraycopy"), (0, u "(Ljava/lang/Object;ILjava/lang/Object;II)V"), (72, .class_ 802), (0, u "java/lang/System$Logger$Level")] 31

def k5m0 : Method := { name := "<init>", desc := "()V", sig := { parameters := [], returnType := none }, accessFlags := 2, code := none }
def k5m1 : Method := { name := "arraycopy", desc := "(Ljava/lang/Object;ILjava/lang/Object;II)V", sig := { parameters := [(.object "java/lang/Object"), .int, (.object "java/lang/Object"), .int, .int], returnType := none }, accessFlags := 265, code := none }
/-- java/lang/System -/
def k5 : Class := { plain "java/lang/System" (some 0) with
  accessFlags := 49
  interfaces := #[]
  cf := some (fileOf pool5 8 #[.nestMembers #[319, 327, 801, 108, 663, 208]] #[{ accessFlags := 2, nameIndex := 5, descriptorIndex := 6, attributes := #[] }, { accessFlags := 265, nameIndex := 727, descriptorIndex := 728, attributes := #[] }] 49 2 #[] #[{ accessFlags := 25, nameIndex := 507, descriptorIndex := 526, attributes := #[] }, { accessFlags := 25, nameIndex := 399, descriptorIndex := 155, attributes := #[] }, { accessFlags := 25, nameIndex := 396, descriptorIndex := 155, attributes := #[] }, { accessFlags := 10, nameIndex := 525, descriptorIndex := 526, attributes := #[] }, { accessFlags := 26, nameIndex := 674, descriptorIndex := 12, attributes := #[] }, { accessFlags := 26, nameIndex := 677, descriptorIndex := 12, attributes := #[] }, { accessFlags := 10, nameIndex := 11, descriptorIndex := 12, attributes := #[] }, { accessFlags := 74, nameIndex := 175, descriptorIndex := 176, attributes := #[] }, { accessFlags := 10, nameIndex := 491, descriptorIndex := 222, attributes := #[] }, { accessFlags := 74, nameIndex := 29, descriptorIndex := 30, attributes := #[] }, { accessFlags := 74, nameIndex := 154, descriptorIndex := 155, attributes := #[] }, { accessFlags := 10, nameIndex := 217, descriptorIndex := 218, attributes := #[] }, { accessFlags := 10, nameIndex := 221, descriptorIndex := 222, attributes := #[] }, { accessFlags := 8, nameIndex := 562, descriptorIndex := 563, attributes := #[] }])
  fields := #[{ name := "in", type := (.object "java/io/InputStream"), accessFlags := 25, slot := 0, constantValue := 0 }, { name := "out", type := (.object "java/io/PrintStream"), accessFlags := 25, slot := 1, constantValue := 0 }, { name := "err", type := (.object "java/io/PrintStream"), accessFlags := 25, slot := 2, constantValue := 0 }, { name := "initialIn", type := (.object "java/io/InputStream"), accessFlags := 10, slot := 3, constantValue := 0 }, { name := "NEVER", type := .int, accessFlags := 26, slot := 4, constantValue := 0 }, { name := "MAYBE", type := .int, accessFlags := 26, slot := 5, constantValue := 0 }, { name := "allowSecurityManager", type := .int, accessFlags := 10, slot := 6, constantValue := 0 }, { name := "security", type := (.object "java/lang/SecurityManager"), accessFlags := 74, slot := 7, constantValue := 0 }, { name := "notSupportedJnuEncoding", type := (.object "java/lang/String"), accessFlags := 10, slot := 8, constantValue := 0 }, { name := "cons", type := (.object "java/io/Console"), accessFlags := 74, slot := 9, constantValue := 0 }, { name := "initialErrStream", type := (.object "java/io/PrintStream"), accessFlags := 74, slot := 10, constantValue := 0 }, { name := "props", type := (.object "java/util/Properties"), accessFlags := 10, slot := 11, constantValue := 0 }, { name := "lineSeparator", type := (.object "java/lang/String"), accessFlags := 10, slot := 12, constantValue := 0 }, { name := "bootLayer", type := (.object "java/lang/ModuleLayer"), accessFlags := 8, slot := 13, constantValue := 0 }]
  methods := #[k5m0, k5m1]
  instanceTypes := #[]
  staticTypes := #[(.object "java/io/InputStream"), (.object "java/io/PrintStream"), (.object "java/io/PrintStream"), (.object "java/io/InputStream"), .int, .int, .int, (.object "java/lang/SecurityManager"), (.object "java/lang/String"), (.object "java/io/Console"), (.object "java/io/PrintStream"), (.object "java/util/Properties"), (.object "java/lang/String"), (.object "java/lang/ModuleLayer")]
  resolved := Array.replicate 834 none
  statics := none }

def pool6 : Array CpInfo := pool [(1, u "java/lang/Cloneable"), (0, .class_ 1), (0, u "java/lang/Object"), (0, .class_ 3)] 3

/-- java/lang/Cloneable -/
def k6 : Class := { plain "java/lang/Cloneable" (some 0) with
  accessFlags := 1537
  interfaces := #[]
  cf := some (fileOf pool6 2 #[] #[] 1537 4 #[] #[])
  fields := #[]
  methods := #[]
  instanceTypes := #[]
  staticTypes := #[]
  resolved := Array.replicate 8 none
  statics := none }

def pool7 : Array CpInfo := pool [(1, u "java/io/Serializable"), (0, .class_ 1), (0, u "java/lang/Object"), (0, .class_ 3)] 3

/-- java/io/Serializable -/
def k7 : Class := { plain "java/io/Serializable" (some 0) with
  accessFlags := 1537
  interfaces := #[]
  cf := some (fileOf pool7 2 #[] #[] 1537 4 #[] #[])
  fields := #[]
  methods := #[]
  instanceTypes := #[]
  staticTypes := #[]
  resolved := Array.replicate 8 none
  statics := none }

/-- the primitive byte -/
def k8 : Class := { plain "byte" none with kind := .primitive 'B', accessFlags := 0x411 }
/-- [B -/
def k9 : Class := { plain "[B" (some 0) with kind := .array 8 .byte, interfaces := #[6, 7], accessFlags := 1041 }

/-- the primitive int -/
def k10 : Class := { plain "int" none with kind := .primitive 'I', accessFlags := 0x411 }
/-- [I -/
def k11 : Class := { plain "[I" (some 0) with kind := .array 10 .int, interfaces := #[6, 7], accessFlags := 1041 }

/-- the primitive long -/
def k12 : Class := { plain "long" none with kind := .primitive 'J', accessFlags := 0x411 }
/-- [J -/
def k13 : Class := { plain "[J" (some 0) with kind := .array 12 .long, interfaces := #[6, 7], accessFlags := 1041 }

def heap : Heap := #[{ cls := 2, slots := #[.int 0, .ref 1], vm := .statics 2 },
  { cls := 13, slots := #[], vm := .none }]
def classes : Array Class := #[k0, k1, k2, k3, k4, k5, k6, k7, k8, k9, k10, k11, k12, k13]
def interned : List (Array UInt16 × Addr) := []
def slotsUsed : Nat := 2
def theMethod : MethodId := ⟨1, 1⟩
def args0 : Array Value := #[.int 5, .int 6, .int 1, .long 2, .long 3]
def aboutOver (below : List Frame) : State where
  vm := { classes := classes, interned := interned.toArray }
  heap := heap
  slotsUsed := slotsUsed
  threads := #[{ frames := .invoking theMethod args0 :: below }]
def below0 : List Frame := [.native { method := ⟨0, 0⟩, args := #[] }]
def about1 : State := aboutOver below0
def p0 : Program := .bare "" "" ""
def e0 : Env := launch0.env 0 0 0
theorem w_frames : about1.frames = Frame.invoking theMethod args0 :: below0 := rfl
set_option maxRecDepth 65536 in
theorem w_args : argsFit about1.vm theMethod args0 = true := by decide +kernel
set_option maxRecDepth 65536 in
theorem w_heap : heapFits about1 = true := by decide +kernel
set_option maxRecDepth 65536 in
theorem w_runnable : about1.curStatus? = some .runnable := by decide +kernel
set_option maxRecDepth 65536 in
theorem w_alone : about1.alone = true := by decide +kernel
set_option maxRecDepth 65536 in
theorem w_named : about1.methodNamed? x = some theMethod := by decide +kernel
set_option maxRecDepth 65536 in
theorem w_hears : about1.hears theMethod below0 = true := by decide +kernel
set_option maxRecDepth 65536 in
theorem w_ripe : about1.ripe theMethod args0 below0 = true := by decide +kernel
theorem w_running : about1.status = .running := rfl
set_option maxRecDepth 65536 in
theorem w_room : about1.hasRoom e0.platform room_1 = true :=
  launch0.hasRoom_least _ room_1 (by decide +kernel) (by decide +kernel) (by decide +kernel) (by decide +kernel) (by decide +kernel) (by decide +kernel)
theorem allAtoms_all (ts : List Jvm.Cond) (a : Array Jvm.Value) (st : Jvm.State) : (allAtoms ts).before a st = ts.all (fun c => c.before a st) := by
  induction ts with
  | nil => rfl
  | cons c t ih =>
    show (Jvm.Cond.and c (allAtoms t)).before a st = _
    rw [Jvm.Cond.before_and, ih, List.all_cons]
def words1 : List Jvm.Cond := Jvm.Cond.code x code maxLocals ret :: tables_1
/-- a 'code' word, met by the world's own term for the bytes: nothing is compared byte by byte -/
theorem code_word {y : MethodName} {bytes : ByteArray} {mx : Nat} {rt : Option FieldType} {a : Array Value} {s : State} {m : MethodId} {meth : Method} {c : Code} (h1 : s.methodNamed? y = some m) (h2 : s.vm.method? m = some meth) (h3 : meth.code = some c) (h4 : c.code = bytes)
    (h5 : (c.maxLocals == mx && c.exceptionTable.isEmpty && decide (c.maxStack ≤ mostOperands) && decide (meth.sig.returnType = rt) && !meth.locks && decide (parseMethodDescriptor y.desc = some meth.sig)) = true) : (Jvm.Cond.code y bytes mx rt).before a s = true := by
  simp only [Bool.and_eq_true, beq_iff_eq, Bool.not_eq_true', decide_eq_true_eq] at h5
  obtain ⟨⟨⟨⟨⟨g1, g2⟩, g3⟩, g4⟩, g5⟩, g6⟩ := h5
  simp [Cond.before, Cond.holds, Cond.value, h1, h2, h3, h4, g1, g2, g3, g4, g5, g6]
def isCode : Jvm.Cond → Bool
  | .code _ _ _ _ => true
  | _ => false
theorem all_split {L : List Jvm.Cond} {P : Jvm.Cond → Bool} (h1 : L.all (fun c => isCode c || P c) = true) (h2 : ∀ c ∈ L.filter isCode, P c = true) : L.all P = true := by
  refine List.all_eq_true.mpr fun c hc => ?_
  have h := List.all_eq_true.mp h1 c hc
  rcases Bool.eq_false_or_eq_true (isCode c) with hi | hi
  · exact h2 c (List.mem_filter.mpr ⟨hc, hi⟩)
  · simpa [hi] using h
set_option maxRecDepth 65536 in
theorem w_c0 : (Jvm.Cond.code x code maxLocals ret).before args0 about1 = true := code_word (m := ⟨1, 1⟩) (meth := k1m1) (c := k1c1) (by decide +kernel) rfl rfl rfl (by decide +kernel)
set_option maxRecDepth 65536 in
theorem w_c1 : (Jvm.Cond.code ({ cls := "com/example/seriate/seriate/LongList", name := "<init>", desc := "()V" } : Jvm.MethodName) prog_26_method_1_code (1 : Nat) (Option.none : Option Jvm.ClassFile.FieldType)).before args0 about1 = true := code_word (m := ⟨2, 0⟩) (meth := k2m0) (c := k2c0) (by decide +kernel) rfl rfl rfl (by decide +kernel)
set_option maxRecDepth 65536 in
theorem w_c2 : (Jvm.Cond.code ({ cls := "java/lang/Object", name := "<init>", desc := "()V" } : Jvm.MethodName) object_method_1_code (1 : Nat) (Option.none : Option Jvm.ClassFile.FieldType)).before args0 about1 = true := code_word (m := ⟨0, 0⟩) (meth := k0m0) (c := k0c0) (by decide +kernel) rfl rfl rfl (by decide +kernel)
set_option maxRecDepth 65536 in
theorem w_c3 : (Jvm.Cond.code ({ cls := "com/example/seriate/seriate/LongList", name := "clear", desc := "(I)V" } : Jvm.MethodName) prog_26_method_5_code (2 : Nat) (Option.none : Option Jvm.ClassFile.FieldType)).before args0 about1 = true := code_word (m := ⟨2, 3⟩) (meth := k2m3) (c := k2c3) (by decide +kernel) rfl rfl rfl (by decide +kernel)
set_option maxRecDepth 65536 in
theorem w_c4 : (Jvm.Cond.code ({ cls := "com/example/seriate/seriate/LongList", name := "capacity", desc := "()I" } : Jvm.MethodName) prog_26_method_3_code (1 : Nat) (Option.some Jvm.ClassFile.FieldType.int)).before args0 about1 = true := code_word (m := ⟨2, 2⟩) (meth := k2m2) (c := k2c2) (by decide +kernel) rfl rfl rfl (by decide +kernel)
set_option maxRecDepth 65536 in
theorem w_c5 : (Jvm.Cond.code ({ cls := "java/lang/Math", name := "max", desc := "(II)I" } : Jvm.MethodName) jdk_29_method_65_code (2 : Nat) (Option.some Jvm.ClassFile.FieldType.int)).before args0 about1 = true := code_word (m := ⟨3, 1⟩) (meth := k3m1) (c := k3c1) (by decide +kernel) rfl rfl rfl (by decide +kernel)
set_option maxRecDepth 65536 in
theorem w_c6 : (Jvm.Cond.code ({ cls := "com/example/seriate/seriate/LongList", name := "add", desc := "(J)V" } : Jvm.MethodName) prog_26_method_6_code (3 : Nat) (Option.none : Option Jvm.ClassFile.FieldType)).before args0 about1 = true := code_word (m := ⟨2, 4⟩) (meth := k2m4) (c := k2c4) (by decide +kernel) rfl rfl rfl (by decide +kernel)
set_option maxRecDepth 65536 in
theorem w_c7 : (Jvm.Cond.code ({ cls := "java/util/Arrays", name := "copyOf", desc := "([JI)[J" } : Jvm.MethodName) jdk_65_method_124_code (3 : Nat) (Option.some (Jvm.ClassFile.FieldType.array Jvm.ClassFile.FieldType.long))).before args0 about1 = true := code_word (m := ⟨4, 1⟩) (meth := k4m1) (c := k4c1) (by decide +kernel) rfl rfl rfl (by decide +kernel)
set_option maxRecDepth 65536 in
theorem w_c8 : (Jvm.Cond.code ({ cls := "java/lang/Math", name := "min", desc := "(II)I" } : Jvm.MethodName) jdk_29_method_69_code (2 : Nat) (Option.some Jvm.ClassFile.FieldType.int)).before args0 about1 = true := code_word (m := ⟨3, 2⟩) (meth := k3m2) (c := k3c2) (by decide +kernel) rfl rfl rfl (by decide +kernel)
set_option maxRecDepth 65536 in
theorem w_c9 : (Jvm.Cond.code ({ cls := "com/example/seriate/seriate/LongList", name := "size", desc := "()I" } : Jvm.MethodName) prog_26_method_2_code (1 : Nat) (Option.some Jvm.ClassFile.FieldType.int)).before args0 about1 = true := code_word (m := ⟨2, 1⟩) (meth := k2m1) (c := k2c1) (by decide +kernel) rfl rfl rfl (by decide +kernel)
def codes1 : List Jvm.Cond := [Jvm.Cond.code x code maxLocals ret, Jvm.Cond.code ({ cls := "com/example/seriate/seriate/LongList", name := "<init>", desc := "()V" } : Jvm.MethodName) prog_26_method_1_code (1 : Nat) (Option.none : Option Jvm.ClassFile.FieldType), Jvm.Cond.code ({ cls := "java/lang/Object", name := "<init>", desc := "()V" } : Jvm.MethodName) object_method_1_code (1 : Nat) (Option.none : Option Jvm.ClassFile.FieldType), Jvm.Cond.code ({ cls := "com/example/seriate/seriate/LongList", name := "clear", desc := "(I)V" } : Jvm.MethodName) prog_26_method_5_code (2 : Nat) (Option.none : Option Jvm.ClassFile.FieldType), Jvm.Cond.code ({ cls := "com/example/seriate/seriate/LongList", name := "capacity", desc := "()I" } : Jvm.MethodName) prog_26_method_3_code (1 : Nat) (Option.some Jvm.ClassFile.FieldType.int), Jvm.Cond.code ({ cls := "java/lang/Math", name := "max", desc := "(II)I" } : Jvm.MethodName) jdk_29_method_65_code (2 : Nat) (Option.some Jvm.ClassFile.FieldType.int), Jvm.Cond.code ({ cls := "com/example/seriate/seriate/LongList", name := "add", desc := "(J)V" } : Jvm.MethodName) prog_26_method_6_code (3 : Nat) (Option.none : Option Jvm.ClassFile.FieldType), Jvm.Cond.code ({ cls := "java/util/Arrays", name := "copyOf", desc := "([JI)[J" } : Jvm.MethodName) jdk_65_method_124_code (3 : Nat) (Option.some (Jvm.ClassFile.FieldType.array Jvm.ClassFile.FieldType.long)), Jvm.Cond.code ({ cls := "java/lang/Math", name := "min", desc := "(II)I" } : Jvm.MethodName) jdk_29_method_69_code (2 : Nat) (Option.some Jvm.ClassFile.FieldType.int), Jvm.Cond.code ({ cls := "com/example/seriate/seriate/LongList", name := "size", desc := "()I" } : Jvm.MethodName) prog_26_method_2_code (1 : Nat) (Option.some Jvm.ClassFile.FieldType.int)]
set_option maxRecDepth 65536 in
theorem codes_eq : words1.filter isCode = codes1 := rfl
theorem w_codes : ∀ c ∈ words1.filter isCode, c.before args0 about1 = true := by
  rw [codes_eq]
  intro c hc
  simp only [codes1, List.mem_cons, List.not_mem_nil, or_false] at hc
  rcases hc with rfl | rfl | rfl | rfl | rfl | rfl | rfl | rfl | rfl | rfl
  · exact w_c0
  · exact w_c1
  · exact w_c2
  · exact w_c3
  · exact w_c4
  · exact w_c5
  · exact w_c6
  · exact w_c7
  · exact w_c8
  · exact w_c9
set_option maxRecDepth 65536 in
theorem w_t1 : (words1.take 24).all (fun c => isCode c || c.before args0 about1) = true := by decide +kernel
set_option maxRecDepth 65536 in
theorem w_t2 : ((words1.drop 24).take 24).all (fun c => isCode c || c.before args0 about1) = true := by decide +kernel
set_option maxRecDepth 65536 in
theorem w_t3 : ((words1.drop 24).drop 24).all (fun c => isCode c || c.before args0 about1) = true := by decide +kernel
theorem w_tables : (allAtoms (Jvm.Cond.code x code maxLocals ret :: tables_1)).before args0 about1 = true := by
  rw [allAtoms_all]
  show words1.all (fun c => c.before args0 about1) = true
  refine all_split ?_ w_codes
  rw [← List.take_append_drop 24 words1, List.all_append, w_t1, ← List.take_append_drop 24 (words1.drop 24), List.all_append, w_t2, w_t3]
  rfl
set_option maxRecDepth 65536 in
theorem w_case : (Jvm.Cond.and given_1 narrow_1).before args0 about1 = true := by decide +kernel
theorem w_applies : (headSpec (Jvm.Cond.code x code maxLocals ret :: tables_1) room_1).applies x e0.platform about1 = true :=
  (Spec.applies_iff w_frames).mpr ⟨w_running, w_runnable, w_alone, w_named, w_hears, w_ripe, w_room, w_tables⟩
theorem atStart : AtStart classFile x code maxLocals ret World_1 tables_1 room_1 Calls_1 rest_1 Pre_1 launch0 p0 e0 about1 theMethod args0 below0 :=
  ⟨lists_1, trivial, launch0.admits_env _ _ _, launch0.least_env, fairChoices_fair.cas, fairChoices_fair.clock, w_frames, w_args, w_heap, w_applies, trivial, trivial, w_case⟩
end start1
theorem witness_1 : WitnessClaimed_1 := ⟨start1.p0, start1.e0, start1.about1, start1.theMethod, start1.args0, start1.below0, start1.atStart⟩
end Jvm.Pilot.@@N@@
