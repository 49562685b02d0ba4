import JvmDerived
import JvmDerived.Pilot.@@N@@Statement
import JvmDerived.Pilot.@@N@@Code
set_option linter.unusedVariables false
set_option linter.unusedSimpArgs false
namespace Jvm.Pilot.@@N@@
open Jvm Jvm.ClassFile Sem Op Lib Jvm.Free Jvm.Stand Jvm.LawKit Jvm.RoadKit Bundle Jvm.Pilot.@@N@@.Jvm.D
section Own
variable {p : Program} {l : Launch} {e : Env} {R : Room} {s : State} {m : MethodId} {args : Array Value} {below : List Frame} {meth : Method} {c : Code} {T T' : State} {locs : List Loc} {cells slots : Nat} {F : State → Outcome → Prop} {g g' : JFrame} {Z : State} {a0 : Array Value} {h h0 : Heap}
/-- the run from T with g on top ends, and F holds of its end -/
def own_G (p : Program) (e : Env) (below : List Frame) (F : State → Outcome → Prop) (T : State) (g : JFrame) : Prop := ∃ t o, Steps p.tables e below (T.setTop g) t ∧ t.status = .running ∧ Ended t below o ∧ F t o
theorem own_st (h : ∀ t, Steps p.tables e below (T'.setTop g') t → Steps p.tables e below (T.setTop g) t) (k : own_G p e below F T' g') : own_G p e below F T g := by
  obtain ⟨t, o, h1, h2⟩ := k
  exact ⟨t, o, h t h1, h2⟩
theorem own_tr (h : Steps p.tables e below (T.setTop g) (T'.setTop g')) (k : own_G p e below F T' g') : own_G p e below F T g := own_st (fun _ q => h.trans q) k
def own_F (Q : Option Value → Heap → List Loc → Prop) (s : State) (k n : Nat) (t : State) (o : Outcome) : Prop := ∃ v L, o = .returned v ∧ Q v t.heap L ∧ FrameEnd s o t L k n
theorem own_ret {Q : Option Value → Heap → List Loc → Prop} {k n : Nat} {v : Option Value} (X : Stand p l e R s m args below meth c T locs cells slots) (hlk : meth.locks = false) (hv : meth.sig.returnType = none → v = none) (hq : Q v T.heap locs) (h1 : cells ≤ k) (h2 : slots ≤ n)
    (hs : ∀ fs, (∀ (f : JFrame) (acts : List Action), f.method = m → f.locked = none → f.entered = [] → (doReturn e (T.setTop f) acts v).1 = T.setFrames fs) → Steps p.tables e below (T.setTop g) (T.setFrames fs)) : own_G p e below (own_F Q s k n) T g := by
  obtain ⟨fs, hr, hrun, hended, hW, hsame⟩ := X.leave (v := v) hv hlk
  exact ⟨_, _, hs fs hr, hrun, hended, v, locs, rfl, hq, ⟨_, rfl⟩, hW, hsame.mono h1 h2⟩
theorem own_retI {Q : Option Value → Heap → List Loc → Prop} {k n pc : Nat} {Ls : Array Slot} {z : Int32} {rest : List Value} (X : Stand p l e R s m args below meth c T locs cells slots) (hx : p.tables.exec = Jvm.exec) (hlk : meth.locks = false) (hret : meth.sig.returnType = some .int) (hd : decode c.code pc = .ok (.ireturn, 1)) (h1 : cells ≤ k) (h2 : slots ≤ n) (hq : Q (some (.int z)) T.heap locs) :
    own_G p e below (own_F Q s k n) T (mkF m pc Ls (.int z :: rest)) :=
  own_ret X hlk (fun q => by rw [hret] at q; cases q) hq h1 h2 fun fs hr => retOut X hx hret rfl (Or.inl ⟨rfl, Or.inl rfl, _, rfl⟩) hd hr
theorem own_retB {Q : Option Value → Heap → List Loc → Prop} {k n pc : Nat} {Ls : Array Slot} {z w : Int32} {rest : List Value} (X : Stand p l e R s m args below meth c T locs cells slots) (hx : p.tables.exec = Jvm.exec) (hlk : meth.locks = false) (hret : meth.sig.returnType = some .boolean) (hd : decode c.code pc = .ok (.ireturn, 1)) (h1 : cells ≤ k) (h2 : slots ≤ n) (hz : nar .boolean z = w) (hq : Q (some (.int w)) T.heap locs) :
    own_G p e below (own_F Q s k n) T (mkF m pc Ls (.int z :: rest)) := by
  subst hz
  exact own_ret X hlk (fun q => by rw [hret] at q; cases q) hq h1 h2 fun fs hr => retN X hx (t := .boolean) hret (by simp) hd hr
theorem own_retR {Q : Option Value → Heap → List Loc → Prop} {k n pc : Nat} {Ls : Array Slot} {w : Value} {C : String} {rest : List Value} (X : Stand p l e R s m args below meth c T locs cells slots) (hx : p.tables.exec = Jvm.exec) (hlk : meth.locks = false) (hret : meth.sig.returnType = some (.object C)) (hd : decode c.code pc = .ok (.areturn, 1)) (h1 : cells ≤ k) (h2 : slots ≤ n) (hw : w.isRef = true) (hq : Q (some w) T.heap locs) :
    own_G p e below (own_F Q s k n) T (mkF m pc Ls (w :: rest)) :=
  own_ret X hlk (fun q => by rw [hret] at q; cases q) hq h1 h2 fun fs hr => retOut X hx hret rfl (Or.inr (Or.inr (Or.inr (Or.inr ⟨rfl, rfl, hw⟩)))) hd hr
theorem own_retA {Q : Option Value → Heap → List Loc → Prop} {k n pc : Nat} {Ls : Array Slot} {w : Value} {ty : FieldType} {rest : List Value} (X : Stand p l e R s m args below meth c T locs cells slots) (hx : p.tables.exec = Jvm.exec) (hlk : meth.locks = false) (hret : meth.sig.returnType = some (.array ty)) (hd : decode c.code pc = .ok (.areturn, 1)) (h1 : cells ≤ k) (h2 : slots ≤ n) (hw : w.isRef = true) (hq : Q (some w) T.heap locs) :
    own_G p e below (own_F Q s k n) T (mkF m pc Ls (w :: rest)) :=
  own_ret X hlk (fun q => by rw [hret] at q; cases q) hq h1 h2 fun fs hr => retOut X hx hret rfl (Or.inr (Or.inr (Or.inr (Or.inr ⟨rfl, rfl, hw⟩)))) hd hr
theorem own_retJ {Q : Option Value → Heap → List Loc → Prop} {k n pc : Nat} {Ls : Array Slot} {z : Int64} {rest : List Value} (X : Stand p l e R s m args below meth c T locs cells slots) (hx : p.tables.exec = Jvm.exec) (hlk : meth.locks = false) (hret : meth.sig.returnType = some .long) (hd : decode c.code pc = .ok (.lreturn, 1)) (h1 : cells ≤ k) (h2 : slots ≤ n) (hq : Q (some (.long z)) T.heap locs) :
    own_G p e below (own_F Q s k n) T (mkF m pc Ls (.long z :: rest)) :=
  own_ret X hlk (fun q => by rw [hret] at q; cases q) hq h1 h2 fun fs hr => retOut X hx hret rfl (Or.inr (Or.inl ⟨rfl, rfl, _, rfl⟩)) hd hr
theorem own_retV {Q : Option Value → Heap → List Loc → Prop} {k n pc : Nat} {Ls : Array Slot} (X : Stand p l e R s m args below meth c T locs cells slots) (hx : p.tables.exec = Jvm.exec) (hlk : meth.locks = false) (hret : meth.sig.returnType = none) (hd : decode c.code pc = .ok (.return_, 1)) (h1 : cells ≤ k) (h2 : slots ≤ n) (hq : Q none T.heap locs) :
    own_G p e below (own_F Q s k n) T (mkF m pc Ls []) :=
  own_ret X hlk (fun _ => rfl) hq h1 h2 fun fs hr => X.returnOut hx hret hd hr
/-- what a body promises at the heap h0 -/
abbrev own_C (l : Launch) (Z : State) (y : MethodName) (bytes : ByteArray) (ml : Nat) (rt : Option FieldType) (ws : List Jvm.Cond) (rm : Room) (as' : Array Value) (h0 : Heap) (Q : Option Value → Heap → List Loc → Prop) : Prop :=
  MetFree l y (head1 (Jvm.Cond.code y bytes ml rt :: ws) rm) (fun a U => a = as' ∧ Z.Warmed39 U.vm ∧ U.heap = h0) (fun _ _ _ _ _ => True) (fun _ U o U' => ∃ v L, o = .returned v ∧ Q v U'.heap L ∧ FrameEnd U o U' L rm.cells rm.slots)
theorem own_body {y : MethodName} {bytes : ByteArray} {ml : Nat} {rt : Option FieldType} {ws : List Jvm.Cond} {rm : Room} {as' : Array Value} {Q : Option Value → Heap → List Loc → Prop} (pn : plainFor y = true) {f0 : MethodId → JFrame} (hef : ∀ m, entryFrame m as' ml = f0 m)
    (body : ∀ (p : Program) (e : Env) (s : State) (m : MethodId) (below : List Frame) (meth : Method) (c : Code) (s₁ : State), p.tables.exec = Jvm.exec → c.code = bytes → c.maxLocals = ml → s.vm.findClass y.cls = some m.cls → meth.name = y.name → meth.sig.returnType = rt → meth.locks = false → Z.Warmed39 s.vm → Stand p l e rm s m as' below meth c s₁ [] 0 0 → s₁.heap = h0 →
      own_G p e below (own_F Q s rm.cells rm.slots) s₁ (f0 m)) : own_C l Z y bytes ml rt ws rm as' h0 Q := by
  refine MetFree.of_bodySF pn hisR ?_
  intro p e s m args below meth c s₁ Bd hml0 hP hK
  obtain ⟨rfl, hZ, hh⟩ := hP
  have e0 : s₁.heap = h0 := by rw [← hh, Bd.state]; rfl
  have hnm := (name_of_methodNamed Bd.named Bd.method).1
  have q := body p e s m below meth c s₁ Bd.exec Bd.bytes hml0 (findClass_of_methodNamed Bd.named) hnm Bd.returns Bd.notSynchronized hZ (Stand.of_body Bd) e0
  rw [← hef m] at q
  exact q
theorem own_callS {own : String} {index : Nat} {y : MethodName} {bytes : ByteArray} {ml : Nat} {rt : Option FieldType} {rm : Room} {Q : Option Value → Heap → List Loc → Prop} {argsL : List Value} (W : Nat) (rest : List Value)
    (C : own_C l Z y bytes ml rt [] rm argsL.toArray h Q) (X : Stand p l e R s m args below meth c T locs cells slots) (hx : p.tables.exec = Jvm.exec) (hZ : Z.Warmed39 s.vm) (hown : s.vm.findClass own = some m.cls)
    (w1 : (Jvm.Cond.methodLink own index y).before a0 Z = true) (w2 : (Jvm.Cond.static y).before a0 Z = true) (w3 : (Jvm.Cond.initialized y.cls).before a0 Z = true) (w4 : (Jvm.Cond.code y bytes ml rt).before a0 Z = true) (hy : y.cls ≠ "java/lang/invoke/MethodHandle" ∧ y.cls ≠ "java/lang/invoke/VarHandle")
    (hf : rm.frames + 1 ≤ R.frames) (hlo : W + (ml + 11) + rm.locals ≤ R.locals) (hc : cells + rm.cells ≤ R.cells) (hsl : slots + rm.slots ≤ R.slots) (eT : T.heap = h)
    (hg : g.method = m) (hsize : g.locals.size = c.maxLocals) (hlen : ∀ sig, parseMethodDescriptor y.desc = some sig → argsL.length = sig.parameters.length) (hstack : g.stack = argsL.reverse ++ rest) (hW : 2 * g.monitorRoom + (rest.map fun v => v.category).sum ≤ W)
    (hd : decode c.code g.pc = .ok (.invokestatic index, 3)) :
    ∃ v T' L, Q v T'.heap L ∧ Stand p l e R s m args below meth c T' (locs ++ L) (cells + rm.cells) (slots + rm.slots) ∧ ∀ t, Steps p.tables e below (T'.setTop { g with pc := g.pc + 3, stack := v.toList ++ rest }) t → Steps p.tables e below (T.setTop g) t := by
  obtain ⟨v, _, ⟨T4, L4, k4, n4⟩, -, X4, ⟨Lc4, hQ4, l4, y4, z4⟩, st4⟩ := Jvm.LawKit.callS X hx (y := y) hown (mvT hZ w1) (mvT hZ w2) (mvT hZ w3) (mvT hZ w4) hy (backOf (W := W) C hZ w4 w3 hf hlo) hg hsize hlen hstack hW hd (fun _ _ => ⟨rfl, eT, hc, hsl⟩)
  dsimp only [Pt.U, Pt.locs, Pt.cells, Pt.slots] at X4 l4 y4 z4 st4 hQ4
  subst l4 y4 z4
  exact ⟨v, T4, Lc4, hQ4, X4, st4⟩
theorem own_callV {own : String} {index : Nat} {y z : MethodName} {bytes : ByteArray} {ml : Nat} {rt : Option FieldType} {rm : Room} {Q : Option Value → Heap → List Loc → Prop} {b : Addr} {argsL : List Value} (W : Nat) (rest : List Value) {K : String}
    (C : own_C l Z z bytes ml rt [] rm (.ref b :: argsL).toArray h Q) (X : Stand p l e R s m args below meth c T locs cells slots) (hx : p.tables.exec = Jvm.exec) (hZ : Z.Warmed39 s.vm) (hown : s.vm.findClass own = some m.cls)
    (w1 : (Jvm.Cond.methodLink own index y).before a0 Z = true) (w2 : (Jvm.Cond.declares y).before a0 Z = true) (hnf : NotFace s y) (w3 : (Jvm.Cond.selects K y z).before a0 Z = true) (w5 : (Jvm.Cond.instanceMethod z).before a0 Z = true) (w4 : (Jvm.Cond.code z bytes ml rt).before a0 Z = true) (w6 : (Jvm.Cond.initialized z.cls).before a0 Z = true) (hy : y.cls ≠ "java/lang/invoke/MethodHandle" ∧ y.cls ≠ "java/lang/invoke/VarHandle")
    (hf : rm.frames + 1 ≤ R.frames) (hlo : W + (ml + 11) + rm.locals ≤ R.locals) (hc : cells + rm.cells ≤ R.cells) (hsl : slots + rm.slots ≤ R.slots) (eT : T.heap = h) (E : Exa Z h b K)
    (hg : g.method = m) (hsize : g.locals.size = c.maxLocals) (hlen : ∀ sig, parseMethodDescriptor y.desc = some sig → argsL.length = sig.parameters.length) (hstack : g.stack = argsL.reverse ++ .ref b :: rest) (hW : 2 * g.monitorRoom + (rest.map fun v => v.category).sum ≤ W)
    (hd : decode c.code g.pc = .ok (.invokevirtual index, 3)) :
    ∃ v T' L, Q v T'.heap L ∧ Stand p l e R s m args below meth c T' (locs ++ L) (cells + rm.cells) (slots + rm.slots) ∧ ∀ t, Steps p.tables e below (T'.setTop { g with pc := g.pc + 3, stack := v.toList ++ rest }) t → Steps p.tables e below (T.setTop g) t := by
  obtain ⟨cq4, kq4, q4a, q4b, q4c⟩ := isOf hZ eT E
  obtain ⟨v, _, ⟨T4, L4, k4, n4⟩, -, X4, ⟨Lc4, hQ4, l4, y4, z4⟩, st4⟩ := X.virtualBack hx (y := y) (z := z) hown (mvT hZ w1) (mvT hZ w2) hnf (mvT hZ w3) (mvT hZ w5) hy (backOf (W := W) C hZ w4 w6 hf hlo) q4a q4c hg hsize (Steps.refl _) hlen hstack hW hd (fun _ _ => ⟨rfl, eT, hc, hsl⟩)
  dsimp only [Pt.U, Pt.locs, Pt.cells, Pt.slots] at X4 l4 y4 z4 st4 hQ4
  subst l4 y4 z4
  exact ⟨v, T4, Lc4, hQ4, X4, fun t k => st4.trans k⟩
theorem own_callI {own : String} {index : Nat} {y : MethodName} {bytes : ByteArray} {ml : Nat} {rm : Room} {Q : Option Value → Heap → List Loc → Prop} {b : Addr} {argsL : List Value} (W : Nat) (rest : List Value)
    (C : own_C l Z y bytes ml none [] rm (.ref b :: argsL).toArray h Q) (X : Stand p l e R s m args below meth c T locs cells slots) (hx : p.tables.exec = Jvm.exec) (hZ : Z.Warmed39 s.vm) (hown : s.vm.findClass own = some m.cls) (hy1 : y.name = "<init>")
    (w1 : (Jvm.Cond.methodLink own index y).before a0 Z = true) (w5 : (Jvm.Cond.instanceMethod y).before a0 Z = true) (w4 : (Jvm.Cond.code y bytes ml none).before a0 Z = true) (w6 : (Jvm.Cond.initialized y.cls).before a0 Z = true) (hy : y.cls ≠ "java/lang/invoke/MethodHandle" ∧ y.cls ≠ "java/lang/invoke/VarHandle")
    (hf : rm.frames + 1 ≤ R.frames) (hlo : W + (ml + 11) + rm.locals ≤ R.locals) (hc : cells + rm.cells ≤ R.cells) (hsl : slots + rm.slots ≤ R.slots) (eT : T.heap = h)
    (hg : g.method = m) (hsize : g.locals.size = c.maxLocals) (hlen : ∀ sig, parseMethodDescriptor y.desc = some sig → argsL.length = sig.parameters.length) (hstack : g.stack = argsL.reverse ++ .ref b :: rest) (hW : 2 * g.monitorRoom + (rest.map fun v => v.category).sum ≤ W)
    (hd : decode c.code g.pc = .ok (.invokespecial index, 3)) :
    ∃ v T' L, Q v T'.heap L ∧ Stand p l e R s m args below meth c T' (locs ++ L) (cells + rm.cells) (slots + rm.slots) ∧ ∀ t, Steps p.tables e below (T'.setTop { g with pc := g.pc + 3, stack := v.toList ++ rest }) t → Steps p.tables e below (T.setTop g) t := by
  obtain ⟨v, _, ⟨T4, L4, k4, n4⟩, -, X4, ⟨Lc4, hQ4, l4, y4, z4⟩, st4⟩ := X.specialBack hx (y := y) hy1 hown (mvT hZ w1) (mvT hZ w5) (mvT hZ w4) hy (backOf (W := W) C hZ w4 w6 hf hlo) hg hsize (Steps.refl _) (a := b) hlen hstack hW hd (fun _ _ => ⟨rfl, eT, hc, hsl⟩)
  dsimp only [Pt.U, Pt.locs, Pt.cells, Pt.slots] at X4 l4 y4 z4 st4 hQ4
  subst l4 y4 z4
  exact ⟨v, T4, Lc4, hQ4, X4, fun t k => st4.trans k⟩
theorem own_sta {C n d K : String} {args : Array Value} (hx : (Jvm.Cond.exactly (Term.static C n d) K).value args Z none Z [] = some true) (hi : (Jvm.Cond.initialized C).before args Z = true) (hl : (Jvm.Cond.laysStatic C n d).before args Z = true) :
    ∃ a, (Term.static C n d).eval args Z none [] Z = some (.ref a) ∧ Sta Z Z.heap C n d (.ref a) ∧ Exa Z Z.heap a K := by
  obtain ⟨a', c', cell, k, e1, -⟩ := Cond.exactly_spec (Cond.before_iff.mpr hx)
  exact ⟨a', e1, Sta.start e1 (Or.inr ⟨hi, hl⟩), Exa.start e1 hx⟩
theorem own_fld {args : Array Value} {t : Term} {a : Addr} {C n d : String} {z : Int32} (ev : t.eval args Z none [] Z = some (.ref a)) (hx : (Jvm.Cond.eq (Term.field t C n d) (Term.int z)).value args Z none Z [] = some true) : Fld Z Z.heap a C n d (.int z) := by
  apply Fld.start
  cases hf : Z.fieldOf? a C n d with
  | none => simp [Cond.value, Term.eval, ev, hf] at hx
  | some v => cases v <;> simp [Cond.value, Term.eval, ev, hf] at hx ⊢; exact hx
/-- a body that writes nothing: it returns r -/
def own_P (r : Value) (h0 : Heap) (v : Option Value) (h : Heap) (L : List Loc) : Prop := v = some r ∧ h = h0 ∧ L = []
theorem own_ite {q : Prop} [Decidable q] {x y : Addr} {K : String} (h1 : Exa Z h x K) (h2 : Exa Z h y K) : Exa Z h (if q then x else y) K := by split <;> assumption
theorem own_or {q : Prop} [Decidable q] {r x y : α} (h : r = if q then x else y) : r = x ∨ r = y := by rw [h]; split <;> simp
theorem own_bit (x : Int32) : x &&& 1 = 0 ∨ x &&& 1 = 1 := by
  have h1 : (x &&& 1).toBitVec = x.toBitVec &&& 1#32 := rfl
  have h2 : (x.toBitVec &&& 1#32).toNat = x.toBitVec.toNat % 2 := by rw [BitVec.toNat_and]; exact Nat.and_two_pow_sub_one_eq_mod _ 1
  rcases Nat.mod_two_eq_zero_or_one x.toBitVec.toNat with h | h
  · left; apply Int32.toBitVec_inj.mp; apply BitVec.eq_of_toNat_eq; rw [h1, h2, h]; rfl
  · right; apply Int32.toBitVec_inj.mp; apply BitVec.eq_of_toNat_eq; rw [h1, h2, h]; rfl
theorem own_plain {a : Addr} {C : String} (E : Exa Z h a C) : ∀ cell : Cell, h[a]? = some cell → cell.vm.isStatics = false := fun cell hc => by
  obtain ⟨c1, _, h1, -, -, h4, -⟩ := E
  cases h1.symm.trans hc; exact h4
theorem own_sta_keep {h' : Heap} {ws : List Addr} {C n d : String} {v : Value} (F : Sta Z h C n d v) (K : Keep h h' ws) (q : ∀ x ∈ ws, ∀ cell : Cell, h'[x]? = some cell → cell.vm.isStatics = false) : Sta Z h' C n d v := by
  obtain ⟨cf, i, k, f, st, cell, h1, h2, h3, h4, h5, h6, h7⟩ := F
  refine ⟨cf, i, k, f, st, cell, h1, h2, h3, h4, K.2.1 st cell h5 (fun m => ?_), h6, h7⟩
  obtain ⟨c', e1, -, e3, -⟩ := K.2.2 st cell h5
  have := q st m c' e1
  rw [e3, h6] at this; cases this
theorem own_ext {h' : Heap} (K : Keep h h' []) : Ext h h' := ⟨K.1, fun a c q => K.2.1 a c q nin0⟩
theorem own_keep {h' : Heap} (E : Ext h h') : Keep h h' [] := (Keep.refl h []).ext E
/-- a body that returns nothing and writes nothing -/
def own_V (h0 : Heap) (v : Option Value) (h : Heap) (L : List Loc) : Prop := v = none ∧ h = h0 ∧ L = []
theorem own_nar {z : Int32} (h : z = 0 ∨ z = 1) : nar .boolean z = z := by rcases h with rfl | rfl <;> rfl
theorem own_01 {q : Prop} [Decidable q] {x y : Int32} (h1 : x = 0 ∨ x = 1) (h2 : y = 0 ∨ y = 1) : (if q then x else y) = 0 ∨ (if q then x else y) = 1 := by split <;> assumption
end Own
def own_pick (f s t : Addr) (p : Int32) : Addr := if p = 0 then f else if p = 1 then s else t
def own_and (f s t a b : Addr) : Addr := if a = f then f else if b = f then f else if a = t then (if b = t then t else s) else s
def own_min (a b : Int32) : Int32 := if b < a then b else a
theorem own_three (x : Int32) : (x &&& 2147483647) % 3 = 0 ∨ (x &&& 2147483647) % 3 = 1 ∨ (x &&& 2147483647) % 3 = 2 := by
  have h1 := (c_andS x 2147483647).2.2 (by decide)
  have h2 := (c_irem (x &&& 2147483647) 3 3 (by decide)).1 h1
  have h3 : 0 ≤ ((x &&& 2147483647) % 3).toInt ∧ ((x &&& 2147483647) % 3).toInt < 3 := by rw [h2]; omega
  generalize (x &&& 2147483647) % 3 = y at h3
  have e : y.toInt = 0 ∨ y.toInt = 1 ∨ y.toInt = 2 := by omega
  rcases e with e | e | e
  · left; exact Int32.toInt_inj.mp e
  · right; left; exact Int32.toInt_inj.mp e
  · right; right; exact Int32.toInt_inj.mp e
theorem own_law {f s t : Addr} {i j : Int32} (n1 : f ≠ s) (n2 : f ≠ t) (n3 : s ≠ t) (hi : i = 0 ∨ i = 1 ∨ i = 2) (hj : j = 0 ∨ j = 1 ∨ j = 2) : own_and f s t (own_pick f s t i) (own_pick f s t j) = own_pick f s t (own_min i j) := by
  rcases hi with rfl | rfl | rfl <;> rcases hj with rfl | rfl | rfl <;> simp [own_and, own_pick, own_min, n1, n2, n3, n1.symm, n2.symm, n3.symm]
theorem own_pick_all {P : Addr → Prop} {f s t : Addr} {p : Int32} (h1 : P f) (h2 : P s) (h3 : P t) : P (own_pick f s t p) := by
  unfold own_pick; repeat' (first | assumption | split)
theorem own_pd0 : parseMethodDescriptor "(I)Lcom/example/astraea/astraea/numeric/Truth;" = some ⟨[.int], some (.object "com/example/astraea/astraea/numeric/Truth")⟩ := by decide +kernel
theorem own_pd1 : parseMethodDescriptor "(Lcom/example/astraea/astraea/numeric/Truth;)Lcom/example/astraea/astraea/numeric/Truth;" = some ⟨[(.object "com/example/astraea/astraea/numeric/Truth")], some (.object "com/example/astraea/astraea/numeric/Truth")⟩ := by decide +kernel
theorem own_pd2 : parseMethodDescriptor "(II)I" = some ⟨[.int, .int], some .int⟩ := by decide +kernel
theorem own_d1_0 : decode method_3_code 0 = .ok (.iload_n 0, 1) := by decide +kernel
theorem own_d1_1 : decode method_3_code 1 = .ok (.ifCond .ne 7, 3) := by decide +kernel
theorem own_d1_4 : decode method_3_code 4 = .ok (.getstatic 26, 3) := by decide +kernel
theorem own_d1_7 : decode method_3_code 7 = .ok (.areturn, 1) := by decide +kernel
theorem own_d1_8 : decode method_3_code 8 = .ok (.iload_n 0, 1) := by decide +kernel
theorem own_d1_9 : decode method_3_code 9 = .ok (.iconst 1, 1) := by decide +kernel
theorem own_d1_10 : decode method_3_code 10 = .ok (.if_icmp .ne 7, 3) := by decide +kernel
theorem own_d1_13 : decode method_3_code 13 = .ok (.getstatic 30, 3) := by decide +kernel
theorem own_d1_16 : decode method_3_code 16 = .ok (.areturn, 1) := by decide +kernel
theorem own_d1_17 : decode method_3_code 17 = .ok (.getstatic 33, 3) := by decide +kernel
theorem own_d1_20 : decode method_3_code 20 = .ok (.areturn, 1) := by decide +kernel
theorem own_pn1 : plainFor (⟨"com/example/astraea/astraea/numeric/TruthAndPinLaw", "pick", "(I)Lcom/example/astraea/astraea/numeric/Truth;"⟩ : MethodName) = true := plainFor_of_name (show plainName "com/example/astraea/astraea/numeric/TruthAndPinLaw" = true by first | (simp [plainName, overriddenIn]; done) | decide +kernel)
theorem own_ef1 (m : MethodId) (p1 : Int32) : entryFrame m #[(.int p1)] 1 = (mkF m 0 #[.val (.int p1)] []) := by first | (simp [entryFrame, mkF, argsToLocals, Value.category]; done) | rfl
set_option maxRecDepth 65536 in
set_option maxHeartbeats 40000000 in
theorem own_rm1 (l : Launch) (Z : State) (a0 : Array Value) (hw : ∀ d ∈ tables_1, d.before a0 Z = true) (h0 : Heap) (s_FALSE : Addr) (s_TRUE : Addr) (s_SOME : Addr) (S_FALSE : Sta Z h0 "com/example/astraea/astraea/numeric/Truth" "FALSE" "Lcom/example/astraea/astraea/numeric/Truth;" (.ref s_FALSE)) (S_TRUE : Sta Z h0 "com/example/astraea/astraea/numeric/Truth" "TRUE" "Lcom/example/astraea/astraea/numeric/Truth;" (.ref s_TRUE)) (S_SOME : Sta Z h0 "com/example/astraea/astraea/numeric/Truth" "SOME" "Lcom/example/astraea/astraea/numeric/Truth;" (.ref s_SOME)) (E_FALSE : Exa Z h0 s_FALSE "com/example/astraea/astraea/numeric/Truth") (E_TRUE : Exa Z h0 s_TRUE "com/example/astraea/astraea/numeric/Truth") (E_SOME : Exa Z h0 s_SOME "com/example/astraea/astraea/numeric/Truth") (p1 : Int32)  (r : Addr) (hr : r = own_pick s_FALSE s_SOME s_TRUE p1) :
    own_C l Z (⟨"com/example/astraea/astraea/numeric/TruthAndPinLaw", "pick", "(I)Lcom/example/astraea/astraea/numeric/Truth;"⟩ : MethodName) method_3_code 1 (some (.object "com/example/astraea/astraea/numeric/Truth")) [] ({ frames := 0, cells := 0, slots := 0, locals := 0 } : Room) #[(.int p1)] h0 (own_P (.ref r) h0) := by
  refine own_body own_pn1 (f0 := fun m => (mkF m 0 #[.val (.int p1)] [])) (fun m => own_ef1 m p1) ?_
  intro p e s m below meth c s₁ hx hby hml hown hnm hret hlk hZ X0 e0
  change own_G p e below (own_F (own_P (.ref r) h0) s 0 0) s₁ (mkF m 0 #[.val (.int p1)] [])
  refine own_st (T' := s₁) (g' := (mkF m 1 #[.val (.int p1)] [(.int p1)])) (fun t k => XS.iloadN X0.here hx rfl (hb hby own_d1_0) rfl k) ?_
  by_cases hc1_1 : p1 = (0 : Int32)
  ·
    refine own_st (T' := s₁) (g' := (mkF m 4 #[.val (.int p1)] [])) (fun t k => XS.ifNo X0.here hx rfl (hb hby own_d1_1) rfl ((if0 _ _).trans (teq hc1_1).2) k) ?_
    obtain ⟨T2, X2, e2, st2⟩ := getS2 X0 hx hZ hown (host := "") (Or.inl (hw _ (List.mem_of_getElem? (i := 5) rfl))) Via.refl e0 S_FALSE (g := (mkF m 4 #[.val (.int p1)] [])) rfl (hb hby own_d1_4)
    refine own_st (T' := T2) (g' := (mkF m 7 #[.val (.int p1)] [(.ref s_FALSE)])) st2 ?_
    exact own_retR X2 hx hlk hret (hb hby own_d1_7) (by decide) (by decide) rfl ⟨by rw [hr]; simp [own_pick, hc1_1], e2, rfl⟩
  ·
    refine own_st (T' := s₁) (g' := (mkF m 8 #[.val (.int p1)] [])) (fun t k => XS.ifYes X0.here hx rfl (pc0 := 1) (pc' := 8) rfl (hb hby own_d1_1) rfl ((if0 _ _).trans (feq hc1_1).2) (by decide) (by decide) k) ?_
    refine own_st (T' := s₁) (g' := (mkF m 9 #[.val (.int p1)] [(.int p1)])) (fun t k => XS.iloadN X0.here hx rfl (hb hby own_d1_8) rfl k) ?_
    refine own_st (T' := s₁) (g' := (mkF m 10 #[.val (.int p1)] [(.int (1 : Int32)), (.int p1)])) (fun t k => XS.iconst X0.here hx rfl (hb hby own_d1_9) k) ?_
    by_cases hc10_3 : p1 = (1 : Int32)
    ·
      refine own_st (T' := s₁) (g' := (mkF m 13 #[.val (.int p1)] [])) (fun t k => XS.icmpNo X0.here hx rfl (hb hby own_d1_10) rfl (teq hc10_3).2 k) ?_
      obtain ⟨T4, X4, e4, st4⟩ := getS2 X0 hx hZ hown (host := "") (Or.inl (hw _ (List.mem_of_getElem? (i := 20) rfl))) Via.refl e0 S_SOME (g := (mkF m 13 #[.val (.int p1)] [])) rfl (hb hby own_d1_13)
      refine own_st (T' := T4) (g' := (mkF m 16 #[.val (.int p1)] [(.ref s_SOME)])) st4 ?_
      exact own_retR X4 hx hlk hret (hb hby own_d1_16) (by decide) (by decide) rfl ⟨by rw [hr]; simp [own_pick, hc1_1, hc10_3], e4, rfl⟩
    ·
      refine own_st (T' := s₁) (g' := (mkF m 17 #[.val (.int p1)] [])) (fun t k => XS.icmpYes X0.here hx rfl (pc0 := 10) (pc' := 17) rfl (hb hby own_d1_10) rfl (feq hc10_3).2 (by decide) (by decide) k) ?_
      obtain ⟨T5, X5, e5, st5⟩ := getS2 X0 hx hZ hown (host := "") (Or.inl (hw _ (List.mem_of_getElem? (i := 18) rfl))) Via.refl e0 S_TRUE (g := (mkF m 17 #[.val (.int p1)] [])) rfl (hb hby own_d1_17)
      refine own_st (T' := T5) (g' := (mkF m 20 #[.val (.int p1)] [(.ref s_TRUE)])) st5 ?_
      exact own_retR X5 hx hlk hret (hb hby own_d1_20) (by decide) (by decide) rfl ⟨by rw [hr]; simp [own_pick, hc1_1, hc10_3], e5, rfl⟩
theorem own_d2_0 : decode prog_139_method_6_code 0 = .ok (.aload_n 0, 1) := by decide +kernel
theorem own_d2_1 : decode prog_139_method_6_code 1 = .ok (.getstatic 3, 3) := by decide +kernel
theorem own_d2_4 : decode prog_139_method_6_code 4 = .ok (.if_acmp .eq 10, 3) := by decide +kernel
theorem own_d2_7 : decode prog_139_method_6_code 7 = .ok (.aload_n 1, 1) := by decide +kernel
theorem own_d2_8 : decode prog_139_method_6_code 8 = .ok (.getstatic 3, 3) := by decide +kernel
theorem own_d2_11 : decode prog_139_method_6_code 11 = .ok (.if_acmp .ne 10, 3) := by decide +kernel
theorem own_d2_14 : decode prog_139_method_6_code 14 = .ok (.getstatic 3, 3) := by decide +kernel
theorem own_d2_17 : decode prog_139_method_6_code 17 = .ok (.astore_n 2, 1) := by decide +kernel
theorem own_d2_18 : decode prog_139_method_6_code 18 = .ok (.goto 28, 3) := by decide +kernel
theorem own_d2_21 : decode prog_139_method_6_code 21 = .ok (.aload_n 0, 1) := by decide +kernel
theorem own_d2_22 : decode prog_139_method_6_code 22 = .ok (.getstatic 10, 3) := by decide +kernel
theorem own_d2_25 : decode prog_139_method_6_code 25 = .ok (.if_acmp .ne 17, 3) := by decide +kernel
theorem own_d2_28 : decode prog_139_method_6_code 28 = .ok (.aload_n 1, 1) := by decide +kernel
theorem own_d2_29 : decode prog_139_method_6_code 29 = .ok (.getstatic 10, 3) := by decide +kernel
theorem own_d2_32 : decode prog_139_method_6_code 32 = .ok (.if_acmp .ne 10, 3) := by decide +kernel
theorem own_d2_35 : decode prog_139_method_6_code 35 = .ok (.getstatic 10, 3) := by decide +kernel
theorem own_d2_38 : decode prog_139_method_6_code 38 = .ok (.astore_n 2, 1) := by decide +kernel
theorem own_d2_39 : decode prog_139_method_6_code 39 = .ok (.goto 7, 3) := by decide +kernel
theorem own_d2_42 : decode prog_139_method_6_code 42 = .ok (.getstatic 7, 3) := by decide +kernel
theorem own_d2_45 : decode prog_139_method_6_code 45 = .ok (.astore_n 2, 1) := by decide +kernel
theorem own_d2_46 : decode prog_139_method_6_code 46 = .ok (.aload_n 2, 1) := by decide +kernel
theorem own_d2_47 : decode prog_139_method_6_code 47 = .ok (.areturn, 1) := by decide +kernel
theorem own_pn2 : plainFor (⟨"com/example/astraea/astraea/numeric/Truth", "and", "(Lcom/example/astraea/astraea/numeric/Truth;)Lcom/example/astraea/astraea/numeric/Truth;"⟩ : MethodName) = true := plainFor_of_name (show plainName "com/example/astraea/astraea/numeric/Truth" = true by first | (simp [plainName, overriddenIn]; done) | decide +kernel)
theorem own_ef2 (m : MethodId) (a1 : Addr) (a2 : Addr) : entryFrame m #[(.ref a1), (.ref a2)] 3 = (mkF m 0 #[.val (.ref a1), .val (.ref a2), .unset] []) := by first | (simp [entryFrame, mkF, argsToLocals, Value.category]; done) | rfl
set_option maxRecDepth 65536 in
set_option maxHeartbeats 40000000 in
theorem own_rm2 (l : Launch) (Z : State) (a0 : Array Value) (hw : ∀ d ∈ tables_1, d.before a0 Z = true) (h0 : Heap) (s_FALSE : Addr) (s_TRUE : Addr) (s_SOME : Addr) (S_FALSE : Sta Z h0 "com/example/astraea/astraea/numeric/Truth" "FALSE" "Lcom/example/astraea/astraea/numeric/Truth;" (.ref s_FALSE)) (S_TRUE : Sta Z h0 "com/example/astraea/astraea/numeric/Truth" "TRUE" "Lcom/example/astraea/astraea/numeric/Truth;" (.ref s_TRUE)) (S_SOME : Sta Z h0 "com/example/astraea/astraea/numeric/Truth" "SOME" "Lcom/example/astraea/astraea/numeric/Truth;" (.ref s_SOME)) (E_FALSE : Exa Z h0 s_FALSE "com/example/astraea/astraea/numeric/Truth") (E_TRUE : Exa Z h0 s_TRUE "com/example/astraea/astraea/numeric/Truth") (E_SOME : Exa Z h0 s_SOME "com/example/astraea/astraea/numeric/Truth") (a1 : Addr) (a2 : Addr)  (r : Addr) (hr : r = own_and s_FALSE s_SOME s_TRUE a1 a2) :
    own_C l Z (⟨"com/example/astraea/astraea/numeric/Truth", "and", "(Lcom/example/astraea/astraea/numeric/Truth;)Lcom/example/astraea/astraea/numeric/Truth;"⟩ : MethodName) prog_139_method_6_code 3 (some (.object "com/example/astraea/astraea/numeric/Truth")) [] ({ frames := 0, cells := 0, slots := 0, locals := 0 } : Room) #[(.ref a1), (.ref a2)] h0 (own_P (.ref r) h0) := by
  refine own_body own_pn2 (f0 := fun m => (mkF m 0 #[.val (.ref a1), .val (.ref a2), .unset] [])) (fun m => own_ef2 m a1 a2) ?_
  intro p e s m below meth c s₁ hx hby hml hown hnm hret hlk hZ X0 e0
  change own_G p e below (own_F (own_P (.ref r) h0) s 0 0) s₁ (mkF m 0 #[.val (.ref a1), .val (.ref a2), .unset] [])
  refine own_st (T' := s₁) (g' := (mkF m 1 #[.val (.ref a1), .val (.ref a2), .unset] [(.ref a1)])) (fun t k => XS.aloadN X0.here hx rfl (hb hby own_d2_0) rfl rfl k) ?_
  obtain ⟨T1, X1, e1, st1⟩ := getS2 X0 hx hZ hown (host := "") (Or.inl (hw _ (List.mem_of_getElem? (i := 13) rfl))) Via.refl e0 S_FALSE (g := (mkF m 1 #[.val (.ref a1), .val (.ref a2), .unset] [(.ref a1)])) rfl (hb hby own_d2_1)
  refine own_st (T' := T1) (g' := (mkF m 4 #[.val (.ref a1), .val (.ref a2), .unset] [(.ref s_FALSE), (.ref a1)])) st1 ?_
  have K3 : ∀ (T3 : State) (X3 : Stand p l e ({ frames := 0, cells := 0, slots := 0, locals := 0 } : Room) s m #[(.ref a1), (.ref a2)] below meth c T3 [] 0 0) (e3 : T3.heap = h0) (v4 : Addr) (hv4 : v4 = (if a1 = s_FALSE then s_FALSE else (if a2 = s_FALSE then s_FALSE else (if a1 = s_TRUE then (if a2 = s_TRUE then s_TRUE else s_SOME) else s_SOME)))), own_G p e below (own_F (own_P (.ref r) h0) s 0 0) T3 (mkF m 46 #[.val (.ref a1), .val (.ref a2), .val (.ref v4)] []) := by
    intro T3 X3 e3 v4 hv4
    have E_v4 : Exa Z h0 v4 "com/example/astraea/astraea/numeric/Truth" := by rw [hv4]; exact (own_ite (E_FALSE) (own_ite (E_FALSE) (own_ite (own_ite (E_TRUE) (E_SOME)) (E_SOME))))
    refine own_st (T' := T3) (g' := (mkF m 47 #[.val (.ref a1), .val (.ref a2), .val (.ref v4)] [(.ref v4)])) (fun t k => XS.aloadN X3.here hx rfl (hb hby own_d2_46) rfl rfl k) ?_
    exact own_retR X3 hx hlk hret (hb hby own_d2_47) (by decide) (by decide) rfl ⟨by rw [hr]; simp [own_and, hv4], e3, rfl⟩
  by_cases hc4_2 : a1 = s_FALSE
  ·
    refine own_st (T' := T1) (g' := (mkF m 14 #[.val (.ref a1), .val (.ref a2), .unset] [])) (fun t k => Jvm.RoadKit.acmp (g := (mkF m 4 #[.val (.ref a1), .val (.ref a2), .unset] [(.ref s_FALSE), (.ref a1)])) X1 hx rfl rfl rfl (pc0 := 4) (pc' := 14) (same := true) rfl (hb hby own_d2_4) rfl (decide_eq_true (congrArg Value.ref hc4_2)) (by decide) (by decide) k) ?_
    obtain ⟨T5, X5, e5, st5⟩ := getS2 X1 hx hZ hown (host := "") (Or.inl (hw _ (List.mem_of_getElem? (i := 13) rfl))) Via.refl e1 S_FALSE (g := (mkF m 14 #[.val (.ref a1), .val (.ref a2), .unset] [])) rfl (hb hby own_d2_14)
    refine own_st (T' := T5) (g' := (mkF m 17 #[.val (.ref a1), .val (.ref a2), .unset] [(.ref s_FALSE)])) st5 ?_
    refine own_st (T' := T5) (g' := (mkF m 18 #[.val (.ref a1), .val (.ref a2), .val (.ref s_FALSE)] [])) (fun t k => XS.astoreN X5.here hx rfl (hb hby own_d2_17) rfl rfl (l' := #[.val (.ref a1), .val (.ref a2), .val (.ref s_FALSE)]) rfl k) ?_
    refine own_st (T' := T5) (g' := (mkF m 46 #[.val (.ref a1), .val (.ref a2), .val (.ref s_FALSE)] [])) (fun t k => XS.goto X5.here hx rfl (pc0 := 18) (pc' := 46) rfl (hb hby own_d2_18) (by decide) (by decide) k) ?_
    exact K3 T5 X5 e5 _ (if_pos hc4_2).symm
  ·
    refine own_st (T' := T1) (g' := (mkF m 7 #[.val (.ref a1), .val (.ref a2), .unset] [])) (fun t k => Jvm.RoadKit.acmp (g := (mkF m 4 #[.val (.ref a1), .val (.ref a2), .unset] [(.ref s_FALSE), (.ref a1)])) X1 hx rfl rfl rfl (pc0 := 4) (pc' := 7) (same := false) rfl (hb hby own_d2_4) rfl (decide_eq_false fun z => hc4_2 (Value.ref.inj z)) (by decide) (by decide) k) ?_
    refine own_st (T' := T1) (g' := (mkF m 8 #[.val (.ref a1), .val (.ref a2), .unset] [(.ref a2)])) (fun t k => XS.aloadN X1.here hx rfl (hb hby own_d2_7) rfl rfl k) ?_
    obtain ⟨T6, X6, e6, st6⟩ := getS2 X1 hx hZ hown (host := "") (Or.inl (hw _ (List.mem_of_getElem? (i := 13) rfl))) Via.refl e1 S_FALSE (g := (mkF m 8 #[.val (.ref a1), .val (.ref a2), .unset] [(.ref a2)])) rfl (hb hby own_d2_8)
    refine own_st (T' := T6) (g' := (mkF m 11 #[.val (.ref a1), .val (.ref a2), .unset] [(.ref s_FALSE), (.ref a2)])) st6 ?_
    by_cases hc11_7 : a2 = s_FALSE
    ·
      refine own_st (T' := T6) (g' := (mkF m 14 #[.val (.ref a1), .val (.ref a2), .unset] [])) (fun t k => Jvm.RoadKit.acmp (g := (mkF m 11 #[.val (.ref a1), .val (.ref a2), .unset] [(.ref s_FALSE), (.ref a2)])) X6 hx rfl rfl rfl (pc0 := 11) (pc' := 14) (same := true) rfl (hb hby own_d2_11) rfl (decide_eq_true (congrArg Value.ref hc11_7)) (by decide) (by decide) k) ?_
      obtain ⟨T8, X8, e8, st8⟩ := getS2 X6 hx hZ hown (host := "") (Or.inl (hw _ (List.mem_of_getElem? (i := 13) rfl))) Via.refl e6 S_FALSE (g := (mkF m 14 #[.val (.ref a1), .val (.ref a2), .unset] [])) rfl (hb hby own_d2_14)
      refine own_st (T' := T8) (g' := (mkF m 17 #[.val (.ref a1), .val (.ref a2), .unset] [(.ref s_FALSE)])) st8 ?_
      refine own_st (T' := T8) (g' := (mkF m 18 #[.val (.ref a1), .val (.ref a2), .val (.ref s_FALSE)] [])) (fun t k => XS.astoreN X8.here hx rfl (hb hby own_d2_17) rfl rfl (l' := #[.val (.ref a1), .val (.ref a2), .val (.ref s_FALSE)]) rfl k) ?_
      refine own_st (T' := T8) (g' := (mkF m 46 #[.val (.ref a1), .val (.ref a2), .val (.ref s_FALSE)] [])) (fun t k => XS.goto X8.here hx rfl (pc0 := 18) (pc' := 46) rfl (hb hby own_d2_18) (by decide) (by decide) k) ?_
      exact K3 T8 X8 e8 _ ((if_neg hc4_2).trans (if_pos hc11_7)).symm
    ·
      refine own_st (T' := T6) (g' := (mkF m 21 #[.val (.ref a1), .val (.ref a2), .unset] [])) (fun t k => Jvm.RoadKit.acmp (g := (mkF m 11 #[.val (.ref a1), .val (.ref a2), .unset] [(.ref s_FALSE), (.ref a2)])) X6 hx rfl rfl rfl (pc0 := 11) (pc' := 21) (same := false) rfl (hb hby own_d2_11) rfl (decide_eq_false fun z => hc11_7 (Value.ref.inj z)) (by decide) (by decide) k) ?_
      refine own_st (T' := T6) (g' := (mkF m 22 #[.val (.ref a1), .val (.ref a2), .unset] [(.ref a1)])) (fun t k => XS.aloadN X6.here hx rfl (hb hby own_d2_21) rfl rfl k) ?_
      obtain ⟨T9, X9, e9, st9⟩ := getS2 X6 hx hZ hown (host := "") (Or.inl (hw _ (List.mem_of_getElem? (i := 22) rfl))) Via.refl e6 S_TRUE (g := (mkF m 22 #[.val (.ref a1), .val (.ref a2), .unset] [(.ref a1)])) rfl (hb hby own_d2_22)
      refine own_st (T' := T9) (g' := (mkF m 25 #[.val (.ref a1), .val (.ref a2), .unset] [(.ref s_TRUE), (.ref a1)])) st9 ?_
      by_cases hc25_10 : a1 = s_TRUE
      ·
        refine own_st (T' := T9) (g' := (mkF m 28 #[.val (.ref a1), .val (.ref a2), .unset] [])) (fun t k => Jvm.RoadKit.acmp (g := (mkF m 25 #[.val (.ref a1), .val (.ref a2), .unset] [(.ref s_TRUE), (.ref a1)])) X9 hx rfl rfl rfl (pc0 := 25) (pc' := 28) (same := true) rfl (hb hby own_d2_25) rfl (decide_eq_true (congrArg Value.ref hc25_10)) (by decide) (by decide) k) ?_
        refine own_st (T' := T9) (g' := (mkF m 29 #[.val (.ref a1), .val (.ref a2), .unset] [(.ref a2)])) (fun t k => XS.aloadN X9.here hx rfl (hb hby own_d2_28) rfl rfl k) ?_
        obtain ⟨T11, X11, e11, st11⟩ := getS2 X9 hx hZ hown (host := "") (Or.inl (hw _ (List.mem_of_getElem? (i := 22) rfl))) Via.refl e9 S_TRUE (g := (mkF m 29 #[.val (.ref a1), .val (.ref a2), .unset] [(.ref a2)])) rfl (hb hby own_d2_29)
        refine own_st (T' := T11) (g' := (mkF m 32 #[.val (.ref a1), .val (.ref a2), .unset] [(.ref s_TRUE), (.ref a2)])) st11 ?_
        by_cases hc32_12 : a2 = s_TRUE
        ·
          refine own_st (T' := T11) (g' := (mkF m 35 #[.val (.ref a1), .val (.ref a2), .unset] [])) (fun t k => Jvm.RoadKit.acmp (g := (mkF m 32 #[.val (.ref a1), .val (.ref a2), .unset] [(.ref s_TRUE), (.ref a2)])) X11 hx rfl rfl rfl (pc0 := 32) (pc' := 35) (same := true) rfl (hb hby own_d2_32) rfl (decide_eq_true (congrArg Value.ref hc32_12)) (by decide) (by decide) k) ?_
          obtain ⟨T13, X13, e13, st13⟩ := getS2 X11 hx hZ hown (host := "") (Or.inl (hw _ (List.mem_of_getElem? (i := 22) rfl))) Via.refl e11 S_TRUE (g := (mkF m 35 #[.val (.ref a1), .val (.ref a2), .unset] [])) rfl (hb hby own_d2_35)
          refine own_st (T' := T13) (g' := (mkF m 38 #[.val (.ref a1), .val (.ref a2), .unset] [(.ref s_TRUE)])) st13 ?_
          refine own_st (T' := T13) (g' := (mkF m 39 #[.val (.ref a1), .val (.ref a2), .val (.ref s_TRUE)] [])) (fun t k => XS.astoreN X13.here hx rfl (hb hby own_d2_38) rfl rfl (l' := #[.val (.ref a1), .val (.ref a2), .val (.ref s_TRUE)]) rfl k) ?_
          refine own_st (T' := T13) (g' := (mkF m 46 #[.val (.ref a1), .val (.ref a2), .val (.ref s_TRUE)] [])) (fun t k => XS.goto X13.here hx rfl (pc0 := 39) (pc' := 46) rfl (hb hby own_d2_39) (by decide) (by decide) k) ?_
          exact K3 T13 X13 e13 _ ((if_neg hc4_2).trans ((if_neg hc11_7).trans ((if_pos hc25_10).trans (if_pos hc32_12)))).symm
        ·
          refine own_st (T' := T11) (g' := (mkF m 42 #[.val (.ref a1), .val (.ref a2), .unset] [])) (fun t k => Jvm.RoadKit.acmp (g := (mkF m 32 #[.val (.ref a1), .val (.ref a2), .unset] [(.ref s_TRUE), (.ref a2)])) X11 hx rfl rfl rfl (pc0 := 32) (pc' := 42) (same := false) rfl (hb hby own_d2_32) rfl (decide_eq_false fun z => hc32_12 (Value.ref.inj z)) (by decide) (by decide) k) ?_
          obtain ⟨T14, X14, e14, st14⟩ := getS2 X11 hx hZ hown (host := "") (Or.inl (hw _ (List.mem_of_getElem? (i := 23) rfl))) Via.refl e11 S_SOME (g := (mkF m 42 #[.val (.ref a1), .val (.ref a2), .unset] [])) rfl (hb hby own_d2_42)
          refine own_st (T' := T14) (g' := (mkF m 45 #[.val (.ref a1), .val (.ref a2), .unset] [(.ref s_SOME)])) st14 ?_
          refine own_st (T' := T14) (g' := (mkF m 46 #[.val (.ref a1), .val (.ref a2), .val (.ref s_SOME)] [])) (fun t k => XS.astoreN X14.here hx rfl (hb hby own_d2_45) rfl rfl (l' := #[.val (.ref a1), .val (.ref a2), .val (.ref s_SOME)]) rfl k) ?_
          exact K3 T14 X14 e14 _ ((if_neg hc4_2).trans ((if_neg hc11_7).trans ((if_pos hc25_10).trans (if_neg hc32_12)))).symm
      ·
        refine own_st (T' := T9) (g' := (mkF m 42 #[.val (.ref a1), .val (.ref a2), .unset] [])) (fun t k => Jvm.RoadKit.acmp (g := (mkF m 25 #[.val (.ref a1), .val (.ref a2), .unset] [(.ref s_TRUE), (.ref a1)])) X9 hx rfl rfl rfl (pc0 := 25) (pc' := 42) (same := false) rfl (hb hby own_d2_25) rfl (decide_eq_false fun z => hc25_10 (Value.ref.inj z)) (by decide) (by decide) k) ?_
        obtain ⟨T15, X15, e15, st15⟩ := getS2 X9 hx hZ hown (host := "") (Or.inl (hw _ (List.mem_of_getElem? (i := 23) rfl))) Via.refl e9 S_SOME (g := (mkF m 42 #[.val (.ref a1), .val (.ref a2), .unset] [])) rfl (hb hby own_d2_42)
        refine own_st (T' := T15) (g' := (mkF m 45 #[.val (.ref a1), .val (.ref a2), .unset] [(.ref s_SOME)])) st15 ?_
        refine own_st (T' := T15) (g' := (mkF m 46 #[.val (.ref a1), .val (.ref a2), .val (.ref s_SOME)] [])) (fun t k => XS.astoreN X15.here hx rfl (hb hby own_d2_45) rfl rfl (l' := #[.val (.ref a1), .val (.ref a2), .val (.ref s_SOME)]) rfl k) ?_
        exact K3 T15 X15 e15 _ ((if_neg hc4_2).trans ((if_neg hc11_7).trans (if_neg hc25_10))).symm
theorem own_d3_0 : decode jdk_29_method_69_code 0 = .ok (.iload_n 0, 1) := by decide +kernel
theorem own_d3_1 : decode jdk_29_method_69_code 1 = .ok (.iload_n 1, 1) := by decide +kernel
theorem own_d3_2 : decode jdk_29_method_69_code 2 = .ok (.if_icmp .gt 7, 3) := by decide +kernel
theorem own_d3_5 : decode jdk_29_method_69_code 5 = .ok (.iload_n 0, 1) := by decide +kernel
theorem own_d3_6 : decode jdk_29_method_69_code 6 = .ok (.goto 4, 3) := by decide +kernel
theorem own_d3_9 : decode jdk_29_method_69_code 9 = .ok (.iload_n 1, 1) := by decide +kernel
theorem own_d3_10 : decode jdk_29_method_69_code 10 = .ok (.ireturn, 1) := by decide +kernel
theorem own_pn3 : plainFor (⟨"java/lang/Math", "min", "(II)I"⟩ : MethodName) = true := by decide +kernel
theorem own_ef3 (m : MethodId) (p1 : Int32) (p2 : Int32) : entryFrame m #[(.int p1), (.int p2)] 2 = (mkF m 0 #[.val (.int p1), .val (.int p2)] []) := by first | (simp [entryFrame, mkF, argsToLocals, Value.category]; done) | rfl
set_option maxRecDepth 65536 in
set_option maxHeartbeats 40000000 in
theorem own_rm3 (l : Launch) (Z : State) (a0 : Array Value) (hw : ∀ d ∈ tables_1, d.before a0 Z = true) (h0 : Heap) (s_FALSE : Addr) (s_TRUE : Addr) (s_SOME : Addr) (S_FALSE : Sta Z h0 "com/example/astraea/astraea/numeric/Truth" "FALSE" "Lcom/example/astraea/astraea/numeric/Truth;" (.ref s_FALSE)) (S_TRUE : Sta Z h0 "com/example/astraea/astraea/numeric/Truth" "TRUE" "Lcom/example/astraea/astraea/numeric/Truth;" (.ref s_TRUE)) (S_SOME : Sta Z h0 "com/example/astraea/astraea/numeric/Truth" "SOME" "Lcom/example/astraea/astraea/numeric/Truth;" (.ref s_SOME)) (E_FALSE : Exa Z h0 s_FALSE "com/example/astraea/astraea/numeric/Truth") (E_TRUE : Exa Z h0 s_TRUE "com/example/astraea/astraea/numeric/Truth") (E_SOME : Exa Z h0 s_SOME "com/example/astraea/astraea/numeric/Truth") (p1 : Int32) (p2 : Int32)  (r : Int32) (hr : r = own_min p1 p2) :
    own_C l Z (⟨"java/lang/Math", "min", "(II)I"⟩ : MethodName) jdk_29_method_69_code 2 (some .int) [] ({ frames := 0, cells := 0, slots := 0, locals := 0 } : Room) #[(.int p1), (.int p2)] h0 (own_P (.int r) h0) := by
  refine own_body own_pn3 (f0 := fun m => (mkF m 0 #[.val (.int p1), .val (.int p2)] [])) (fun m => own_ef3 m p1 p2) ?_
  intro p e s m below meth c s₁ hx hby hml hown hnm hret hlk hZ X0 e0
  change own_G p e below (own_F (own_P (.int r) h0) s 0 0) s₁ (mkF m 0 #[.val (.int p1), .val (.int p2)] [])
  refine own_st (T' := s₁) (g' := (mkF m 1 #[.val (.int p1), .val (.int p2)] [(.int p1)])) (fun t k => XS.iloadN X0.here hx rfl (hb hby own_d3_0) rfl k) ?_
  refine own_st (T' := s₁) (g' := (mkF m 2 #[.val (.int p1), .val (.int p2)] [(.int p2), (.int p1)])) (fun t k => XS.iloadN X0.here hx rfl (hb hby own_d3_1) rfl k) ?_
  have K2 : ∀ (v3 : Int32) (hv3 : v3 = (if p2 < p1 then p2 else p1)), own_G p e below (own_F (own_P (.int r) h0) s 0 0) s₁ (mkF m 10 #[.val (.int p1), .val (.int p2)] [(.int v3)]) := by
    intro v3 hv3
    exact own_retI X0 hx hlk hret (hb hby own_d3_10) (by decide) (by decide) ⟨by rw [hr]; simp [own_min, hv3], e0, rfl⟩
  by_cases hc2_1 : p2 < p1
  ·
    refine own_st (T' := s₁) (g' := (mkF m 9 #[.val (.int p1), .val (.int p2)] [])) (fun t k => XS.icmpYes X0.here hx rfl (pc0 := 2) (pc' := 9) rfl (hb hby own_d3_2) rfl (tlt hc2_1).2.2.1 (by decide) (by decide) k) ?_
    refine own_st (T' := s₁) (g' := (mkF m 10 #[.val (.int p1), .val (.int p2)] [(.int p2)])) (fun t k => XS.iloadN X0.here hx rfl (hb hby own_d3_9) rfl k) ?_
    exact K2 _ (if_pos hc2_1).symm
  ·
    refine own_st (T' := s₁) (g' := (mkF m 5 #[.val (.int p1), .val (.int p2)] [])) (fun t k => XS.icmpNo X0.here hx rfl (hb hby own_d3_2) rfl (flt hc2_1).2.2.1 k) ?_
    refine own_st (T' := s₁) (g' := (mkF m 6 #[.val (.int p1), .val (.int p2)] [(.int p1)])) (fun t k => XS.iloadN X0.here hx rfl (hb hby own_d3_5) rfl k) ?_
    refine own_st (T' := s₁) (g' := (mkF m 10 #[.val (.int p1), .val (.int p2)] [(.int p1)])) (fun t k => XS.goto X0.here hx rfl (pc0 := 6) (pc' := 10) rfl (hb hby own_d3_6) (by decide) (by decide) k) ?_
    exact K2 _ (if_neg hc2_1).symm
theorem own_pn0 : plainFor x = true := plainFor_of_name (show plainName "com/example/astraea/astraea/numeric/TruthAndPinLaw" = true by first | (simp [plainName, overriddenIn]; done) | decide +kernel)
theorem own_ef0 (m : MethodId) (p1 : Int32) (p2 : Int32) : entryFrame m #[(.int p1), (.int p2)] maxLocals = (mkF m 0 #[.val (.int p1), .val (.int p2), .unset, .unset, .unset, .unset, .unset] []) := by first | (simp [entryFrame, mkF, argsToLocals, Value.category, maxLocals]; done) | rfl
set_option maxRecDepth 65536 in
set_option maxHeartbeats 40000000 in
theorem own_rm0 (l : Launch) (Z : State) (a0 : Array Value) (hw : ∀ d ∈ tables_1, d.before a0 Z = true) (h0 : Heap) (s_FALSE : Addr) (s_TRUE : Addr) (s_SOME : Addr) (S_FALSE : Sta Z h0 "com/example/astraea/astraea/numeric/Truth" "FALSE" "Lcom/example/astraea/astraea/numeric/Truth;" (.ref s_FALSE)) (S_TRUE : Sta Z h0 "com/example/astraea/astraea/numeric/Truth" "TRUE" "Lcom/example/astraea/astraea/numeric/Truth;" (.ref s_TRUE)) (S_SOME : Sta Z h0 "com/example/astraea/astraea/numeric/Truth" "SOME" "Lcom/example/astraea/astraea/numeric/Truth;" (.ref s_SOME)) (E_FALSE : Exa Z h0 s_FALSE "com/example/astraea/astraea/numeric/Truth") (E_TRUE : Exa Z h0 s_TRUE "com/example/astraea/astraea/numeric/Truth") (E_SOME : Exa Z h0 s_SOME "com/example/astraea/astraea/numeric/Truth") (p1 : Int32) (p2 : Int32) (ne_FALSE_SOME : s_FALSE ≠ s_SOME) (ne_FALSE_TRUE : s_FALSE ≠ s_TRUE) (ne_SOME_TRUE : s_SOME ≠ s_TRUE) :
    own_C l Z x code maxLocals ret tables_1 room_1 #[(.int p1), (.int p2)] h0 (own_P (.int 1) h0) := by
  refine own_body own_pn0 (f0 := fun m => (mkF m 0 #[.val (.int p1), .val (.int p2), .unset, .unset, .unset, .unset, .unset] [])) (fun m => own_ef0 m p1 p2) ?_
  intro p e s m below meth c s₁ hx hby hml hown hnm hret hlk hZ X0 e0
  change own_G p e below (own_F (own_P (.int 1) h0) s room_1.cells room_1.slots) s₁ (mkF m 0 #[.val (.int p1), .val (.int p2), .unset, .unset, .unset, .unset, .unset] [])
  refine own_st (T' := s₁) (g' := (mkF m 1 #[.val (.int p1), .val (.int p2), .unset, .unset, .unset, .unset, .unset] [(.int p1)])) (fun t k => XS.iloadN X0.here hx rfl (hb hby at_0) rfl k) ?_
  refine own_st (T' := s₁) (g' := (mkF m 3 #[.val (.int p1), .val (.int p2), .unset, .unset, .unset, .unset, .unset] [(.int (2147483647 : Int32)), (.int p1)])) (X0.ldcInt hx hown (mvT hZ (hw _ (List.mem_of_getElem? (i := 0) rfl))) (g := (mkF m 1 #[.val (.int p1), .val (.int p2), .unset, .unset, .unset, .unset, .unset] [(.int p1)])) rfl (hb hby at_1)) ?_
  refine own_st (T' := s₁) (g' := (mkF m 4 #[.val (.int p1), .val (.int p2), .unset, .unset, .unset, .unset, .unset] [(.int (p1 &&& (2147483647 : Int32)))])) (fun t k => XS.iand X0.here hx rfl (hb hby at_3) rfl k) ?_
  refine own_st (T' := s₁) (g' := (mkF m 5 #[.val (.int p1), .val (.int p2), .unset, .unset, .unset, .unset, .unset] [(.int (3 : Int32)), (.int (p1 &&& (2147483647 : Int32)))])) (fun t k => XS.iconst X0.here hx rfl (hb hby at_4) k) ?_
  refine own_st (T' := s₁) (g' := (mkF m 6 #[.val (.int p1), .val (.int p2), .unset, .unset, .unset, .unset, .unset] [(.int ((p1 &&& (2147483647 : Int32)) % (3 : Int32)))])) (fun t k => iremM (g := (mkF m 5 #[.val (.int p1), .val (.int p2), .unset, .unset, .unset, .unset, .unset] [(.int (3 : Int32)), (.int (p1 &&& (2147483647 : Int32)))])) X0 hx rfl (hb hby at_5) rfl (by decide) k) ?_
  refine own_st (T' := s₁) (g' := (mkF m 7 #[.val (.int p1), .val (.int p2), .val (.int ((p1 &&& (2147483647 : Int32)) % (3 : Int32))), .unset, .unset, .unset, .unset] [])) (fun t k => XS.istoreN X0.here hx rfl (hb hby at_6) rfl (l' := #[.val (.int p1), .val (.int p2), .val (.int ((p1 &&& (2147483647 : Int32)) % (3 : Int32))), .unset, .unset, .unset, .unset]) rfl k) ?_
  refine own_st (T' := s₁) (g' := (mkF m 8 #[.val (.int p1), .val (.int p2), .val (.int ((p1 &&& (2147483647 : Int32)) % (3 : Int32))), .unset, .unset, .unset, .unset] [(.int p2)])) (fun t k => XS.iloadN X0.here hx rfl (hb hby at_7) rfl k) ?_
  refine own_st (T' := s₁) (g' := (mkF m 10 #[.val (.int p1), .val (.int p2), .val (.int ((p1 &&& (2147483647 : Int32)) % (3 : Int32))), .unset, .unset, .unset, .unset] [(.int (2147483647 : Int32)), (.int p2)])) (X0.ldcInt hx hown (mvT hZ (hw _ (List.mem_of_getElem? (i := 0) rfl))) (g := (mkF m 8 #[.val (.int p1), .val (.int p2), .val (.int ((p1 &&& (2147483647 : Int32)) % (3 : Int32))), .unset, .unset, .unset, .unset] [(.int p2)])) rfl (hb hby at_8)) ?_
  refine own_st (T' := s₁) (g' := (mkF m 11 #[.val (.int p1), .val (.int p2), .val (.int ((p1 &&& (2147483647 : Int32)) % (3 : Int32))), .unset, .unset, .unset, .unset] [(.int (p2 &&& (2147483647 : Int32)))])) (fun t k => XS.iand X0.here hx rfl (hb hby at_10) rfl k) ?_
  refine own_st (T' := s₁) (g' := (mkF m 12 #[.val (.int p1), .val (.int p2), .val (.int ((p1 &&& (2147483647 : Int32)) % (3 : Int32))), .unset, .unset, .unset, .unset] [(.int (3 : Int32)), (.int (p2 &&& (2147483647 : Int32)))])) (fun t k => XS.iconst X0.here hx rfl (hb hby at_11) k) ?_
  refine own_st (T' := s₁) (g' := (mkF m 13 #[.val (.int p1), .val (.int p2), .val (.int ((p1 &&& (2147483647 : Int32)) % (3 : Int32))), .unset, .unset, .unset, .unset] [(.int ((p2 &&& (2147483647 : Int32)) % (3 : Int32)))])) (fun t k => iremM (g := (mkF m 12 #[.val (.int p1), .val (.int p2), .val (.int ((p1 &&& (2147483647 : Int32)) % (3 : Int32))), .unset, .unset, .unset, .unset] [(.int (3 : Int32)), (.int (p2 &&& (2147483647 : Int32)))])) X0 hx rfl (hb hby at_12) rfl (by decide) k) ?_
  refine own_st (T' := s₁) (g' := (mkF m 14 #[.val (.int p1), .val (.int p2), .val (.int ((p1 &&& (2147483647 : Int32)) % (3 : Int32))), .val (.int ((p2 &&& (2147483647 : Int32)) % (3 : Int32))), .unset, .unset, .unset] [])) (fun t k => XS.istoreN X0.here hx rfl (hb hby at_13) rfl (l' := #[.val (.int p1), .val (.int p2), .val (.int ((p1 &&& (2147483647 : Int32)) % (3 : Int32))), .val (.int ((p2 &&& (2147483647 : Int32)) % (3 : Int32))), .unset, .unset, .unset]) rfl k) ?_
  refine own_st (T' := s₁) (g' := (mkF m 15 #[.val (.int p1), .val (.int p2), .val (.int ((p1 &&& (2147483647 : Int32)) % (3 : Int32))), .val (.int ((p2 &&& (2147483647 : Int32)) % (3 : Int32))), .unset, .unset, .unset] [(.int ((p1 &&& (2147483647 : Int32)) % (3 : Int32)))])) (fun t k => XS.iloadN X0.here hx rfl (hb hby at_14) rfl k) ?_
  obtain ⟨r1, hr1⟩ : ∃ z, z = own_pick s_FALSE s_SOME s_TRUE ((p1 &&& (2147483647 : Int32)) % (3 : Int32)) := ⟨_, rfl⟩
  obtain ⟨_, T1, L1, hQ1, X1, st1⟩ := own_callS (y := (⟨"com/example/astraea/astraea/numeric/TruthAndPinLaw", "pick", "(I)Lcom/example/astraea/astraea/numeric/Truth;"⟩ : MethodName)) (argsL := [(.int ((p1 &&& (2147483647 : Int32)) % (3 : Int32)))]) 0 [] (own_rm1 l Z a0 hw h0 s_FALSE s_TRUE s_SOME S_FALSE S_TRUE S_SOME E_FALSE E_TRUE E_SOME ((p1 &&& (2147483647 : Int32)) % (3 : Int32))  _ hr1) X0 hx hZ hown (hw _ (List.mem_of_getElem? (i := 1) rfl)) (hw _ (List.mem_of_getElem? (i := 2) rfl)) (hw _ (List.mem_of_getElem? (i := 3) rfl)) (hw _ (List.mem_of_getElem? (i := 4) rfl)) (by decide) (by decide) (by decide) (by decide) (by decide) e0 (g := (mkF m 15 #[.val (.int p1), .val (.int p2), .val (.int ((p1 &&& (2147483647 : Int32)) % (3 : Int32))), .val (.int ((p2 &&& (2147483647 : Int32)) % (3 : Int32))), .unset, .unset, .unset] [(.int ((p1 &&& (2147483647 : Int32)) % (3 : Int32)))])) rfl (by rw [hml]; rfl) (lenOf own_pd0 rfl) rfl (by show 2 * 0 + _ ≤ _; exact Nat.le_of_eq rfl) (hb hby at_15)
  obtain ⟨rfl, e1, rfl⟩ := hQ1
  have X1 : Stand p l e room_1 s m #[(.int p1), (.int p2)] below meth c T1 [] 0 0 := X1
  refine own_st (T' := T1) (g' := (mkF m 18 #[.val (.int p1), .val (.int p2), .val (.int ((p1 &&& (2147483647 : Int32)) % (3 : Int32))), .val (.int ((p2 &&& (2147483647 : Int32)) % (3 : Int32))), .unset, .unset, .unset] [(.ref r1)])) st1 ?_
  have E_r1 : Exa Z h0 r1 "com/example/astraea/astraea/numeric/Truth" := by rw [hr1]; exact own_pick_all (P := fun q => Exa Z h0 q "com/example/astraea/astraea/numeric/Truth") E_FALSE E_SOME E_TRUE
  refine own_st (T' := T1) (g' := (mkF m 20 #[.val (.int p1), .val (.int p2), .val (.int ((p1 &&& (2147483647 : Int32)) % (3 : Int32))), .val (.int ((p2 &&& (2147483647 : Int32)) % (3 : Int32))), .val (.ref r1), .unset, .unset] [])) (fun t k => XS.astore X1.here hx rfl (hb hby at_18) rfl rfl (l' := #[.val (.int p1), .val (.int p2), .val (.int ((p1 &&& (2147483647 : Int32)) % (3 : Int32))), .val (.int ((p2 &&& (2147483647 : Int32)) % (3 : Int32))), .val (.ref r1), .unset, .unset]) rfl k) ?_
  refine own_st (T' := T1) (g' := (mkF m 21 #[.val (.int p1), .val (.int p2), .val (.int ((p1 &&& (2147483647 : Int32)) % (3 : Int32))), .val (.int ((p2 &&& (2147483647 : Int32)) % (3 : Int32))), .val (.ref r1), .unset, .unset] [(.int ((p2 &&& (2147483647 : Int32)) % (3 : Int32)))])) (fun t k => XS.iloadN X1.here hx rfl (hb hby at_20) rfl k) ?_
  obtain ⟨r2, hr2⟩ : ∃ z, z = own_pick s_FALSE s_SOME s_TRUE ((p2 &&& (2147483647 : Int32)) % (3 : Int32)) := ⟨_, rfl⟩
  obtain ⟨_, T2, L2, hQ2, X2, st2⟩ := own_callS (y := (⟨"com/example/astraea/astraea/numeric/TruthAndPinLaw", "pick", "(I)Lcom/example/astraea/astraea/numeric/Truth;"⟩ : MethodName)) (argsL := [(.int ((p2 &&& (2147483647 : Int32)) % (3 : Int32)))]) 0 [] (own_rm1 l Z a0 hw h0 s_FALSE s_TRUE s_SOME S_FALSE S_TRUE S_SOME E_FALSE E_TRUE E_SOME ((p2 &&& (2147483647 : Int32)) % (3 : Int32))  _ hr2) X1 hx hZ hown (hw _ (List.mem_of_getElem? (i := 1) rfl)) (hw _ (List.mem_of_getElem? (i := 2) rfl)) (hw _ (List.mem_of_getElem? (i := 3) rfl)) (hw _ (List.mem_of_getElem? (i := 4) rfl)) (by decide) (by decide) (by decide) (by decide) (by decide) e1 (g := (mkF m 21 #[.val (.int p1), .val (.int p2), .val (.int ((p1 &&& (2147483647 : Int32)) % (3 : Int32))), .val (.int ((p2 &&& (2147483647 : Int32)) % (3 : Int32))), .val (.ref r1), .unset, .unset] [(.int ((p2 &&& (2147483647 : Int32)) % (3 : Int32)))])) rfl (by rw [hml]; rfl) (lenOf own_pd0 rfl) rfl (by show 2 * 0 + _ ≤ _; exact Nat.le_of_eq rfl) (hb hby at_21)
  obtain ⟨rfl, e2, rfl⟩ := hQ2
  have X2 : Stand p l e room_1 s m #[(.int p1), (.int p2)] below meth c T2 [] 0 0 := X2
  refine own_st (T' := T2) (g' := (mkF m 24 #[.val (.int p1), .val (.int p2), .val (.int ((p1 &&& (2147483647 : Int32)) % (3 : Int32))), .val (.int ((p2 &&& (2147483647 : Int32)) % (3 : Int32))), .val (.ref r1), .unset, .unset] [(.ref r2)])) st2 ?_
  have E_r2 : Exa Z h0 r2 "com/example/astraea/astraea/numeric/Truth" := by rw [hr2]; exact own_pick_all (P := fun q => Exa Z h0 q "com/example/astraea/astraea/numeric/Truth") E_FALSE E_SOME E_TRUE
  refine own_st (T' := T2) (g' := (mkF m 26 #[.val (.int p1), .val (.int p2), .val (.int ((p1 &&& (2147483647 : Int32)) % (3 : Int32))), .val (.int ((p2 &&& (2147483647 : Int32)) % (3 : Int32))), .val (.ref r1), .val (.ref r2), .unset] [])) (fun t k => XS.astore X2.here hx rfl (hb hby at_24) rfl rfl (l' := #[.val (.int p1), .val (.int p2), .val (.int ((p1 &&& (2147483647 : Int32)) % (3 : Int32))), .val (.int ((p2 &&& (2147483647 : Int32)) % (3 : Int32))), .val (.ref r1), .val (.ref r2), .unset]) rfl k) ?_
  refine own_st (T' := T2) (g' := (mkF m 28 #[.val (.int p1), .val (.int p2), .val (.int ((p1 &&& (2147483647 : Int32)) % (3 : Int32))), .val (.int ((p2 &&& (2147483647 : Int32)) % (3 : Int32))), .val (.ref r1), .val (.ref r2), .unset] [(.ref r1)])) (fun t k => XS.aload X2.here hx rfl (hb hby at_26) rfl rfl k) ?_
  refine own_st (T' := T2) (g' := (mkF m 30 #[.val (.int p1), .val (.int p2), .val (.int ((p1 &&& (2147483647 : Int32)) % (3 : Int32))), .val (.int ((p2 &&& (2147483647 : Int32)) % (3 : Int32))), .val (.ref r1), .val (.ref r2), .unset] [(.ref r2), (.ref r1)])) (fun t k => XS.aload X2.here hx rfl (hb hby at_28) rfl rfl k) ?_
  obtain ⟨r3, hr3⟩ : ∃ z, z = own_and s_FALSE s_SOME s_TRUE r1 r2 := ⟨_, rfl⟩
  obtain ⟨_, T3, L3, hQ3, X3, st3⟩ := own_callV (y := (⟨"com/example/astraea/astraea/numeric/Truth", "and", "(Lcom/example/astraea/astraea/numeric/Truth;)Lcom/example/astraea/astraea/numeric/Truth;"⟩ : MethodName)) (z := (⟨"com/example/astraea/astraea/numeric/Truth", "and", "(Lcom/example/astraea/astraea/numeric/Truth;)Lcom/example/astraea/astraea/numeric/Truth;"⟩ : MethodName)) (argsL := [(.ref r2)]) 0 [] (K := "com/example/astraea/astraea/numeric/Truth") (own_rm2 l Z a0 hw h0 s_FALSE s_TRUE s_SOME S_FALSE S_TRUE S_SOME E_FALSE E_TRUE E_SOME r1 r2  _ hr3) X2 hx hZ hown (hw _ (List.mem_of_getElem? (i := 8) rfl)) (hw _ (List.mem_of_getElem? (i := 9) rfl)) (notFace_of_selects (args := #[]) (mvT hZ (hw _ (List.mem_of_getElem? (i := 11) rfl)))) (hw _ (List.mem_of_getElem? (i := 11) rfl)) (hw _ (List.mem_of_getElem? (i := 10) rfl)) (hw _ (List.mem_of_getElem? (i := 12) rfl)) (hw _ (List.mem_of_getElem? (i := 6) rfl)) (by decide) (by decide) (by decide) (by decide) (by decide) e2 E_r1 (g := (mkF m 30 #[.val (.int p1), .val (.int p2), .val (.int ((p1 &&& (2147483647 : Int32)) % (3 : Int32))), .val (.int ((p2 &&& (2147483647 : Int32)) % (3 : Int32))), .val (.ref r1), .val (.ref r2), .unset] [(.ref r2), (.ref r1)])) rfl (by rw [hml]; rfl) (lenOf own_pd1 rfl) rfl (by show 2 * 0 + _ ≤ _; exact Nat.le_of_eq rfl) (hb hby at_30)
  obtain ⟨rfl, e3, rfl⟩ := hQ3
  have X3 : Stand p l e room_1 s m #[(.int p1), (.int p2)] below meth c T3 [] 0 0 := X3
  refine own_st (T' := T3) (g' := (mkF m 33 #[.val (.int p1), .val (.int p2), .val (.int ((p1 &&& (2147483647 : Int32)) % (3 : Int32))), .val (.int ((p2 &&& (2147483647 : Int32)) % (3 : Int32))), .val (.ref r1), .val (.ref r2), .unset] [(.ref r3)])) st3 ?_
  refine own_st (T' := T3) (g' := (mkF m 35 #[.val (.int p1), .val (.int p2), .val (.int ((p1 &&& (2147483647 : Int32)) % (3 : Int32))), .val (.int ((p2 &&& (2147483647 : Int32)) % (3 : Int32))), .val (.ref r1), .val (.ref r2), .val (.ref r3)] [])) (fun t k => XS.astore X3.here hx rfl (hb hby at_33) rfl rfl (l' := #[.val (.int p1), .val (.int p2), .val (.int ((p1 &&& (2147483647 : Int32)) % (3 : Int32))), .val (.int ((p2 &&& (2147483647 : Int32)) % (3 : Int32))), .val (.ref r1), .val (.ref r2), .val (.ref r3)]) rfl k) ?_
  refine own_st (T' := T3) (g' := (mkF m 37 #[.val (.int p1), .val (.int p2), .val (.int ((p1 &&& (2147483647 : Int32)) % (3 : Int32))), .val (.int ((p2 &&& (2147483647 : Int32)) % (3 : Int32))), .val (.ref r1), .val (.ref r2), .val (.ref r3)] [(.ref r3)])) (fun t k => XS.aload X3.here hx rfl (hb hby at_35) rfl rfl k) ?_
  refine own_st (T' := T3) (g' := (mkF m 38 #[.val (.int p1), .val (.int p2), .val (.int ((p1 &&& (2147483647 : Int32)) % (3 : Int32))), .val (.int ((p2 &&& (2147483647 : Int32)) % (3 : Int32))), .val (.ref r1), .val (.ref r2), .val (.ref r3)] [(.int ((p1 &&& (2147483647 : Int32)) % (3 : Int32))), (.ref r3)])) (fun t k => XS.iloadN X3.here hx rfl (hb hby at_37) rfl k) ?_
  refine own_st (T' := T3) (g' := (mkF m 39 #[.val (.int p1), .val (.int p2), .val (.int ((p1 &&& (2147483647 : Int32)) % (3 : Int32))), .val (.int ((p2 &&& (2147483647 : Int32)) % (3 : Int32))), .val (.ref r1), .val (.ref r2), .val (.ref r3)] [(.int ((p2 &&& (2147483647 : Int32)) % (3 : Int32))), (.int ((p1 &&& (2147483647 : Int32)) % (3 : Int32))), (.ref r3)])) (fun t k => XS.iloadN X3.here hx rfl (hb hby at_38) rfl k) ?_
  obtain ⟨r4, hr4⟩ : ∃ z, z = own_min ((p1 &&& (2147483647 : Int32)) % (3 : Int32)) ((p2 &&& (2147483647 : Int32)) % (3 : Int32)) := ⟨_, rfl⟩
  obtain ⟨_, T4, L4, hQ4, X4, st4⟩ := own_callS (y := (⟨"java/lang/Math", "min", "(II)I"⟩ : MethodName)) (argsL := [(.int ((p1 &&& (2147483647 : Int32)) % (3 : Int32))), (.int ((p2 &&& (2147483647 : Int32)) % (3 : Int32)))]) 1 [(.ref r3)] (own_rm3 l Z a0 hw h0 s_FALSE s_TRUE s_SOME S_FALSE S_TRUE S_SOME E_FALSE E_TRUE E_SOME ((p1 &&& (2147483647 : Int32)) % (3 : Int32)) ((p2 &&& (2147483647 : Int32)) % (3 : Int32))  _ hr4) X3 hx hZ hown (hw _ (List.mem_of_getElem? (i := 14) rfl)) (hw _ (List.mem_of_getElem? (i := 15) rfl)) (hw _ (List.mem_of_getElem? (i := 16) rfl)) (hw _ (List.mem_of_getElem? (i := 17) rfl)) (by decide) (by decide) (by decide) (by decide) (by decide) e3 (g := (mkF m 39 #[.val (.int p1), .val (.int p2), .val (.int ((p1 &&& (2147483647 : Int32)) % (3 : Int32))), .val (.int ((p2 &&& (2147483647 : Int32)) % (3 : Int32))), .val (.ref r1), .val (.ref r2), .val (.ref r3)] [(.int ((p2 &&& (2147483647 : Int32)) % (3 : Int32))), (.int ((p1 &&& (2147483647 : Int32)) % (3 : Int32))), (.ref r3)])) rfl (by rw [hml]; rfl) (lenOf own_pd2 rfl) rfl (by show 2 * 0 + _ ≤ _; exact Nat.le_of_eq rfl) (hb hby at_39)
  obtain ⟨rfl, e4, rfl⟩ := hQ4
  have X4 : Stand p l e room_1 s m #[(.int p1), (.int p2)] below meth c T4 [] 0 0 := X4
  refine own_st (T' := T4) (g' := (mkF m 42 #[.val (.int p1), .val (.int p2), .val (.int ((p1 &&& (2147483647 : Int32)) % (3 : Int32))), .val (.int ((p2 &&& (2147483647 : Int32)) % (3 : Int32))), .val (.ref r1), .val (.ref r2), .val (.ref r3)] [(.int r4), (.ref r3)])) st4 ?_
  obtain ⟨r5, hr5⟩ : ∃ z, z = own_pick s_FALSE s_SOME s_TRUE r4 := ⟨_, rfl⟩
  obtain ⟨_, T5, L5, hQ5, X5, st5⟩ := own_callS (y := (⟨"com/example/astraea/astraea/numeric/TruthAndPinLaw", "pick", "(I)Lcom/example/astraea/astraea/numeric/Truth;"⟩ : MethodName)) (argsL := [(.int r4)]) 1 [(.ref r3)] (own_rm1 l Z a0 hw h0 s_FALSE s_TRUE s_SOME S_FALSE S_TRUE S_SOME E_FALSE E_TRUE E_SOME r4  _ hr5) X4 hx hZ hown (hw _ (List.mem_of_getElem? (i := 1) rfl)) (hw _ (List.mem_of_getElem? (i := 2) rfl)) (hw _ (List.mem_of_getElem? (i := 3) rfl)) (hw _ (List.mem_of_getElem? (i := 4) rfl)) (by decide) (by decide) (by decide) (by decide) (by decide) e4 (g := (mkF m 42 #[.val (.int p1), .val (.int p2), .val (.int ((p1 &&& (2147483647 : Int32)) % (3 : Int32))), .val (.int ((p2 &&& (2147483647 : Int32)) % (3 : Int32))), .val (.ref r1), .val (.ref r2), .val (.ref r3)] [(.int r4), (.ref r3)])) rfl (by rw [hml]; rfl) (lenOf own_pd0 rfl) rfl (by show 2 * 0 + _ ≤ _; exact Nat.le_of_eq rfl) (hb hby at_42)
  obtain ⟨rfl, e5, rfl⟩ := hQ5
  have X5 : Stand p l e room_1 s m #[(.int p1), (.int p2)] below meth c T5 [] 0 0 := X5
  refine own_st (T' := T5) (g' := (mkF m 45 #[.val (.int p1), .val (.int p2), .val (.int ((p1 &&& (2147483647 : Int32)) % (3 : Int32))), .val (.int ((p2 &&& (2147483647 : Int32)) % (3 : Int32))), .val (.ref r1), .val (.ref r2), .val (.ref r3)] [(.ref r5), (.ref r3)])) st5 ?_
  have E_r5 : Exa Z h0 r5 "com/example/astraea/astraea/numeric/Truth" := by rw [hr5]; exact own_pick_all (P := fun q => Exa Z h0 q "com/example/astraea/astraea/numeric/Truth") E_FALSE E_SOME E_TRUE
  have hk6 : r3 = r5 := by rw [hr3, hr1, hr2, hr5, hr4]; exact own_law ne_FALSE_SOME ne_FALSE_TRUE ne_SOME_TRUE (own_three _) (own_three _)
  refine own_st (T' := T5) (g' := (mkF m 48 #[.val (.int p1), .val (.int p2), .val (.int ((p1 &&& (2147483647 : Int32)) % (3 : Int32))), .val (.int ((p2 &&& (2147483647 : Int32)) % (3 : Int32))), .val (.ref r1), .val (.ref r2), .val (.ref r3)] [])) (fun t k => Jvm.RoadKit.acmp (g := (mkF m 45 #[.val (.int p1), .val (.int p2), .val (.int ((p1 &&& (2147483647 : Int32)) % (3 : Int32))), .val (.int ((p2 &&& (2147483647 : Int32)) % (3 : Int32))), .val (.ref r1), .val (.ref r2), .val (.ref r3)] [(.ref r5), (.ref r3)])) X5 hx rfl rfl rfl (pc0 := 45) (pc' := 48) (same := true) rfl (hb hby at_45) rfl (decide_eq_true (congrArg Value.ref hk6)) (by decide) (by decide) k) ?_
  refine own_st (T' := T5) (g' := (mkF m 49 #[.val (.int p1), .val (.int p2), .val (.int ((p1 &&& (2147483647 : Int32)) % (3 : Int32))), .val (.int ((p2 &&& (2147483647 : Int32)) % (3 : Int32))), .val (.ref r1), .val (.ref r2), .val (.ref r3)] [(.int (1 : Int32))])) (fun t k => XS.iconst X5.here hx rfl (hb hby at_48) k) ?_
  refine own_st (T' := T5) (g' := (mkF m 53 #[.val (.int p1), .val (.int p2), .val (.int ((p1 &&& (2147483647 : Int32)) % (3 : Int32))), .val (.int ((p2 &&& (2147483647 : Int32)) % (3 : Int32))), .val (.ref r1), .val (.ref r2), .val (.ref r3)] [(.int (1 : Int32))])) (fun t k => XS.goto X5.here hx rfl (pc0 := 49) (pc' := 53) rfl (hb hby at_49) (by decide) (by decide) k) ?_
  exact own_retB X5 hx hlk hret (hb hby at_53) (by decide) (by decide) rfl ⟨rfl, e5, rfl⟩
set_option maxRecDepth 65536 in
set_option maxHeartbeats 40000000 in
theorem own_comes {Post : Tables → Env → Array Value → State → Outcome → State → Prop} (hpost : ∀ tb e args s v u, (limb_1_1.after args s (.returned v) u = true ∧ limb_1_2.after args s (.returned v) u = true ∧ True) → FrameEnd s (.returned v) u (Jvm.fieldLocs frame_1_writes args s ++ Jvm.arrayLocs frame_1_arrays args s ++ Jvm.staticLocs frame_1_statics s) 0 0 → Post tb e args s (.returned v) u) :
    ArmFor flags0 classFile x code maxLocals ret World_1 tables_1 room_1 Calls_1 rest_1 Pre_1 Post := by
  intro l hfl _ _ p e ha hc hk s m args below hf hA hF happ hP
  obtain ⟨hcalls, hrest, hpre⟩ := hP
  obtain ⟨-, -, -, hnamed, -, -, -, hat⟩ := (Spec.applies_iff hf).mp happ
  obtain ⟨hg, hn⟩ := and_e (Cond.before_iff.mp (show (Jvm.Cond.and given_1 narrow_1).before args s = true from hpre))
  obtain ⟨hcount, hg⟩ := and_e hg
  obtain ⟨w0, w1, rfl⟩ : ∃ w0 w1 : Value, args = #[w0, w1] := by
    have hs : args.size = 2 := by simpa [Cond.value, given_1] using hcount
    obtain ⟨L⟩ := args
    match L, hs with
    | [w0, w1], _ => exact ⟨w0, w1, rfl⟩
  have hw := fun d (hd : d ∈ tables_1) => atoms_spec (ws := Jvm.Cond.code x code maxLocals ret :: tables_1) hat d (List.mem_cons_of_mem _ hd)
  obtain ⟨g0, hg⟩ := and_e hg
  obtain ⟨i0, ei0⟩ := is_v g0
  obtain rfl : w0 = (.int i0) := Option.some.inj ei0
  have g1 := hg
  obtain ⟨i1, ei1⟩ := is_v g1
  obtain rfl : w1 = (.int i1) := Option.some.inj ei1
  obtain ⟨n0, hn⟩ := and_e hn
  obtain ⟨n1, hn⟩ := and_e hn
  obtain ⟨n2, hn⟩ := and_e hn
  obtain ⟨n3, hn⟩ := and_e hn
  obtain ⟨n4, hn⟩ := and_e hn
  have n5 := hn
  obtain ⟨s_FALSE, v_FALSE, S_FALSE, E_FALSE⟩ := own_sta n0 (hw _ (List.mem_of_getElem? (i := 6) rfl)) (hw _ (List.mem_of_getElem? (i := 7) rfl))
  obtain ⟨s_TRUE, v_TRUE, S_TRUE, E_TRUE⟩ := own_sta n1 (hw _ (List.mem_of_getElem? (i := 6) rfl)) (hw _ (List.mem_of_getElem? (i := 19) rfl))
  obtain ⟨s_SOME, v_SOME, S_SOME, E_SOME⟩ := own_sta n2 (hw _ (List.mem_of_getElem? (i := 6) rfl)) (hw _ (List.mem_of_getElem? (i := 21) rfl))
  have o_TRUE := own_fld v_TRUE n3
  have o_FALSE := own_fld v_FALSE n4
  have o_SOME := own_fld v_SOME n5
  have ne_FALSE_SOME : s_FALSE ≠ s_SOME := Fld.ne o_FALSE o_SOME (by decide)
  have ne_FALSE_TRUE : s_FALSE ≠ s_TRUE := Fld.ne o_FALSE o_TRUE (by decide)
  have ne_SOME_TRUE : s_SOME ≠ s_TRUE := Fld.ne o_SOME o_TRUE (by decide)
  obtain ⟨n, o, h1, h2, h3, _, L, rfl, ⟨rfl, _, rfl⟩, hq⟩ := own_rm0 l s _ hw s.heap s_FALSE s_TRUE s_SOME S_FALSE S_TRUE S_SOME E_FALSE E_TRUE E_SOME i0 i1 ne_FALSE_SOME ne_FALSE_TRUE ne_SOME_TRUE p e ha hc hk s m _ below hf ((Spec.applies_iff_loose hf).mp happ).1 ⟨rfl, State.Warmed39.refl s, rfl⟩ trivial
  exact ⟨n, _, h1, h2, h3, hpost _ _ _ _ _ _ ⟨Cond.after_iff.mpr rfl, Cond.after_iff.mpr (eq_i res_at (Term.int_eval (1)) rfl), trivial⟩ ⟨hq.1, hq.2.1, (hq.2.2.sift fun y hy => nomatch hy).mono (by decide) (by decide)⟩⟩
theorem main_1_1 : Claimed_1_1 := own_comes fun _ _ _ _ _ _ h hF => ⟨h.1, hF⟩
theorem main_1_2 : Claimed_1_2 := own_comes fun _ _ _ _ _ _ h hF => ⟨h.2.1, hF⟩
end Jvm.Pilot.@@N@@
namespace Jvm.Pilot.@@N@@
open Jvm Jvm.ClassFile Sem Op Lib Jvm.Free Jvm.Stand Jvm.Pilot.@@N@@.Jvm.D
/-! MADE BY PROGRAM (witnessworld.py) out of the Statement's table words and the real class files: 13 classes; the members and pool entries that the words name. The judged class is class 1, her method 1. -/
namespace start1
open Jvm.ClassFile
def u (s : String) : CpInfo := .utf8 (stringToUtf16 s)
/-- a pool by its gaps: so many unusable entries, then the entry; so many at the end -/
def gap : Nat → List CpInfo → List CpInfo
  | 0, r => r
  | n + 1, r => .unusable :: gap n r
def poolList (es : List (Nat × CpInfo)) (last : Nat) : List CpInfo := es.foldr (fun e r => gap e.1 (e.2 :: r)) (gap last [])
def pool (es : List (Nat × CpInfo)) (last : Nat) : Array CpInfo := ⟨poolList es last⟩
def fileOf (pool : Array CpInfo) (this : Nat) (attrs : Array Attribute := #[]) (ms : Array MethodInfo := #[]) (fl : Nat := 33) (sup : Nat := 0) (ifs : Array Nat := #[]) (fds : Array FieldInfo := #[]) : ClassFile where
  minorVersion := 0
  majorVersion := 65
  constantPool := pool
  accessFlags := fl
  thisClass := this
  superClass := sup
  interfaces := ifs
  fields := fds
  methods := ms
  attributes := attrs
def plain (name : String) (sup : Option ClassId) : Class where
  name := name
  kind := .ordinary
  loader := none
  accessFlags := 33
  super := sup
  interfaces := #[]
  cf := none
  fields := #[]
  methods := #[]
  instanceTypes := #[]
  staticTypes := #[]
  resolved := #[]
  callSites := []
  init := .initialized
  statics := none
  mirror := none

def pool0 : Array CpInfo := pool [(5, u "<init>"), (0, u "()V"), (1, .class_ 10), (1, u "java/lang/Object")] 113

def k0m0 : Method := { name := "<init>", desc := "()V", sig := { parameters := [], returnType := none }, accessFlags := 1, code := none }
/-- java/lang/Object -/
def k0 : Class := { plain "java/lang/Object" none with
  accessFlags := 33
  interfaces := #[]
  cf := some (fileOf pool0 8 #[] #[{ accessFlags := 1, nameIndex := 5, descriptorIndex := 6, attributes := #[] }] 33 0 #[] #[])
  fields := #[]
  methods := #[k0m0]
  instanceTypes := #[]
  staticTypes := #[]
  resolved := Array.replicate 124 none
  statics := none }

def pool1 : Array CpInfo := pool [(2, .class_ 4), (1, u "java/lang/Object"), (0, u "<init>"), (0, u "()V"), (0, .integer 2147483647), (0, .methodref 9 10), (0, .class_ 11), (0, .nameAndType 12 13), (0, u "com/example/astraea/astraea/numeric/TruthAndPinLaw"), (0, u "pick"), (0, u "(I)Lcom/example/astraea/astraea/numeric/Truth;"), (0, .methodref 15 16), (0, .class_ 17), (0, .nameAndType 18 19), (0, u "com/example/astraea/astraea/numeric/Truth"), (0, u "and"), (0, u "(Lcom/example/astraea/astraea/numeric/Truth;)Lcom/example/astraea/astraea/numeric/Truth;"), (0, .methodref 21 22), (0, .class_ 23), (0, .nameAndType 24 25), (0, u "java/lang/Math"), (0, u "min"), (0, u "(II)I"), (0, .fieldref 15 27), (0, .nameAndType 28 29), (0, u "FALSE"), (0, u "Lcom/example/astraea/astraea/numeric/Truth;"), (0, .fieldref 15 31), (0, .nameAndType 32 29), (0, u "SOME"), (0, .fieldref 15 34), (0, .nameAndType 35 29), (0, u "TRUE"), (2, u "law"), (0, u "(II)Z")] 3

def k1m0 : Method := { name := "<init>", desc := "()V", sig := { parameters := [], returnType := none }, accessFlags := 1, code := none }
def k1c1 : Code := { maxStack := 3, maxLocals := 7, code := code, exceptionTable := #[], attributes := #[] }
def k1m1 : Method := { name := "law", desc := "(II)Z", sig := { parameters := [.int, .int], returnType := some .boolean }, accessFlags := 9, code := some k1c1 }
def k1c2 : Code := { maxStack := 2, maxLocals := 1, code := method_3_code, exceptionTable := #[], attributes := #[] }
def k1m2 : Method := { name := "pick", desc := "(I)Lcom/example/astraea/astraea/numeric/Truth;", sig := { parameters := [.int], returnType := some (.object "com/example/astraea/astraea/numeric/Truth") }, accessFlags := 10, code := some k1c2 }
/-- com/example/astraea/astraea/numeric/TruthAndPinLaw -/
def k1 : Class := { plain "com/example/astraea/astraea/numeric/TruthAndPinLaw" (some 0) with
  accessFlags := 49
  interfaces := #[]
  cf := some (fileOf pool1 9 #[] #[{ accessFlags := 1, nameIndex := 5, descriptorIndex := 6, attributes := #[] }, { accessFlags := 9, nameIndex := 38, descriptorIndex := 39, attributes := #[] }, { accessFlags := 10, nameIndex := 12, descriptorIndex := 13, attributes := #[] }] 49 2 #[] #[])
  fields := #[]
  methods := #[k1m0, k1m1, k1m2]
  instanceTypes := #[]
  staticTypes := #[]
  resolved := Array.replicate 43 none
  statics := none }

def pool2 : Array CpInfo := pool [(1, .class_ 2), (0, u "java/lang/constant/Constable"), (0, .class_ 4), (0, u "java/lang/Object")] 6

/-- java/lang/constant/Constable -/
def k2 : Class := { plain "java/lang/constant/Constable" (some 0) with
  accessFlags := 1537
  interfaces := #[]
  cf := some (fileOf pool2 1 #[] #[] 1537 3 #[] #[])
  fields := #[]
  methods := #[]
  instanceTypes := #[]
  staticTypes := #[]
  resolved := Array.replicate 11 none
  statics := none }

def pool3 : Array CpInfo := pool [(1, .class_ 2), (0, u "java/lang/Comparable"), (0, .class_ 4), (0, u "java/lang/Object")] 7

/-- java/lang/Comparable -/
def k3 : Class := { plain "java/lang/Comparable" (some 0) with
  accessFlags := 1537
  interfaces := #[]
  cf := some (fileOf pool3 1 #[] #[] 1537 3 #[] #[])
  fields := #[]
  methods := #[]
  instanceTypes := #[]
  staticTypes := #[]
  resolved := Array.replicate 12 none
  statics := none }

def pool4 : Array CpInfo := pool [(1, .class_ 2), (0, u "java/io/Serializable"), (0, .class_ 4), (0, u "java/lang/Object")] 2

/-- java/io/Serializable -/
def k4 : Class := { plain "java/io/Serializable" (some 0) with
  accessFlags := 1537
  interfaces := #[]
  cf := some (fileOf pool4 1 #[] #[] 1537 3 #[] #[])
  fields := #[]
  methods := #[]
  instanceTypes := #[]
  staticTypes := #[]
  resolved := Array.replicate 7 none
  statics := none }

def pool5 : Array CpInfo := pool [(2, .class_ 4), (1, u "java/lang/Enum"), (0, u "name"), (0, u "Ljava/lang/String;"), (2, u "ordinal"), (0, u "I"), (1, .class_ 14), (1, u "java/lang/Object"), (4, u "hash"), (86, .class_ 108), (1, u "java/lang/Enum$EnumDesc"), (2, .class_ 112), (0, u "java/lang/constant/Constable"), (0, .class_ 114), (0, u "java/lang/Comparable"), (0, .class_ 116), (0, u "java/io/Serializable")] 87

/-- java/lang/Enum -/
def k5 : Class := { plain "java/lang/Enum" (some 0) with
  accessFlags := 1057
  interfaces := #[2, 3, 4]
  cf := some (fileOf pool5 2 #[.nestMembers #[106]] #[] 1057 12 #[111, 113, 115] #[{ accessFlags := 18, nameIndex := 5, descriptorIndex := 6, attributes := #[] }, { accessFlags := 18, nameIndex := 9, descriptorIndex := 10, attributes := #[] }, { accessFlags := 2, nameIndex := 19, descriptorIndex := 10, attributes := #[] }])
  fields := #[{ name := "name", type := (.object "java/lang/String"), accessFlags := 18, slot := 0, constantValue := 0 }, { name := "ordinal", type := .int, accessFlags := 18, slot := 1, constantValue := 0 }, { name := "hash", type := .int, accessFlags := 2, slot := 2, constantValue := 0 }]
  methods := #[]
  instanceTypes := #[(.object "java/lang/String"), .int, .int]
  staticTypes := #[]
  resolved := Array.replicate 204 none
  statics := none }

def pool6 : Array CpInfo := pool [(1, .class_ 2), (0, u "com/example/astraea/astraea/numeric/Truth"), (0, .fieldref 1 4), (0, .nameAndType 5 6), (0, u "FALSE"), (0, u "Lcom/example/astraea/astraea/numeric/Truth;"), (0, .fieldref 1 8), (0, .nameAndType 9 6), (0, u "SOME"), (0, .fieldref 1 11), (0, .nameAndType 12 6), (0, u "TRUE"), (2, u "$VALUES"), (0, u "[Lcom/example/astraea/astraea/numeric/Truth;"), (6, .class_ 25), (1, u "java/lang/Enum"), (12, u "and"), (0, u "(Lcom/example/astraea/astraea/numeric/Truth;)Lcom/example/astraea/astraea/numeric/Truth;")] 24

def k6c0 : Code := { maxStack := 2, maxLocals := 3, code := prog_139_method_6_code, exceptionTable := #[], attributes := #[] }
def k6m0 : Method := { name := "and", desc := "(Lcom/example/astraea/astraea/numeric/Truth;)Lcom/example/astraea/astraea/numeric/Truth;", sig := { parameters := [(.object "com/example/astraea/astraea/numeric/Truth")], returnType := some (.object "com/example/astraea/astraea/numeric/Truth") }, accessFlags := 0, code := some k6c0 }
/-- com/example/astraea/astraea/numeric/Truth -/
def k6 : Class := { plain "com/example/astraea/astraea/numeric/Truth" (some 5) with
  accessFlags := 16432
  interfaces := #[]
  cf := some (fileOf pool6 1 #[] #[{ accessFlags := 0, nameIndex := 38, descriptorIndex := 39, attributes := #[] }] 16432 23 #[] #[{ accessFlags := 16409, nameIndex := 5, descriptorIndex := 6, attributes := #[] }, { accessFlags := 16409, nameIndex := 9, descriptorIndex := 6, attributes := #[] }, { accessFlags := 16409, nameIndex := 12, descriptorIndex := 6, attributes := #[] }, { accessFlags := 4122, nameIndex := 15, descriptorIndex := 16, attributes := #[] }])
  fields := #[{ name := "FALSE", type := (.object "com/example/astraea/astraea/numeric/Truth"), accessFlags := 16409, slot := 0, constantValue := 0 }, { name := "SOME", type := (.object "com/example/astraea/astraea/numeric/Truth"), accessFlags := 16409, slot := 1, constantValue := 0 }, { name := "TRUE", type := (.object "com/example/astraea/astraea/numeric/Truth"), accessFlags := 16409, slot := 2, constantValue := 0 }, { name := "$VALUES", type := (.array (.object "com/example/astraea/astraea/numeric/Truth")), accessFlags := 4122, slot := 3, constantValue := 0 }]
  methods := #[k6m0]
  instanceTypes := #[(.object "java/lang/String"), .int, .int]
  staticTypes := #[(.object "com/example/astraea/astraea/numeric/Truth"), (.object "com/example/astraea/astraea/numeric/Truth"), (.object "com/example/astraea/astraea/numeric/Truth"), (.array (.object "com/example/astraea/astraea/numeric/Truth"))]
  resolved := Array.replicate 64 none
  statics := some 0 }

def pool7 : Array CpInfo := pool [(1, .class_ 2), (0, u "java/lang/Math"), (1, .class_ 6), (1, u "java/lang/Object"), (0, u "<init>"), (0, u "()V"), (89, .class_ 100), (1, u "java/lang/Math$RandomNumberGeneratorHolder"), (71, u "negativeZeroFloatBits"), (0, u "J"), (2, u "negativeZeroDoubleBits"), (24, u "min"), (43, u "$assertionsDisabled"), (0, u "Z"), (88, u "(II)I"), (2, u "twoToTheDoubleScaleDown"), (0, u "D"), (4, u "twoToTheDoubleScaleUp"), (9, u "E"), (3, u "PI"), (2, u "TAU"), (2, u "DEGREES_TO_RADIANS"), (0, u "RADIANS_TO_DEGREES")] 94

def k7m0 : Method := { name := "<init>", desc := "()V", sig := { parameters := [], returnType := none }, accessFlags := 2, code := none }
def k7c1 : Code := { maxStack := 2, maxLocals := 2, code := jdk_29_method_69_code, exceptionTable := #[], attributes := #[] }
def k7m1 : Method := { name := "min", desc := "(II)I", sig := { parameters := [.int, .int], returnType := some .int }, accessFlags := 9, code := some k7c1 }
/-- java/lang/Math -/
def k7 : Class := { plain "java/lang/Math" (some 0) with
  accessFlags := 49
  interfaces := #[]
  cf := some (fileOf pool7 1 #[.nestMembers #[98]] #[{ accessFlags := 2, nameIndex := 7, descriptorIndex := 8, attributes := #[] }, { accessFlags := 9, nameIndex := 201, descriptorIndex := 335, attributes := #[] }] 49 4 #[] #[{ accessFlags := 25, nameIndex := 354, descriptorIndex := 339, attributes := #[] }, { accessFlags := 25, nameIndex := 358, descriptorIndex := 339, attributes := #[] }, { accessFlags := 25, nameIndex := 361, descriptorIndex := 339, attributes := #[] }, { accessFlags := 26, nameIndex := 364, descriptorIndex := 339, attributes := #[] }, { accessFlags := 26, nameIndex := 365, descriptorIndex := 339, attributes := #[] }, { accessFlags := 26, nameIndex := 172, descriptorIndex := 173, attributes := #[] }, { accessFlags := 26, nameIndex := 176, descriptorIndex := 173, attributes := #[] }, { accessFlags := 8, nameIndex := 344, descriptorIndex := 339, attributes := #[] }, { accessFlags := 8, nameIndex := 338, descriptorIndex := 339, attributes := #[] }, { accessFlags := 4120, nameIndex := 245, descriptorIndex := 246, attributes := #[] }])
  fields := #[{ name := "E", type := .double, accessFlags := 25, slot := 0, constantValue := 0 }, { name := "PI", type := .double, accessFlags := 25, slot := 1, constantValue := 0 }, { name := "TAU", type := .double, accessFlags := 25, slot := 2, constantValue := 0 }, { name := "DEGREES_TO_RADIANS", type := .double, accessFlags := 26, slot := 3, constantValue := 0 }, { name := "RADIANS_TO_DEGREES", type := .double, accessFlags := 26, slot := 4, constantValue := 0 }, { name := "negativeZeroFloatBits", type := .long, accessFlags := 26, slot := 5, constantValue := 0 }, { name := "negativeZeroDoubleBits", type := .long, accessFlags := 26, slot := 6, constantValue := 0 }, { name := "twoToTheDoubleScaleUp", type := .double, accessFlags := 8, slot := 7, constantValue := 0 }, { name := "twoToTheDoubleScaleDown", type := .double, accessFlags := 8, slot := 8, constantValue := 0 }, { name := "$assertionsDisabled", type := .boolean, accessFlags := 4120, slot := 9, constantValue := 0 }]
  methods := #[k7m0, k7m1]
  instanceTypes := #[]
  staticTypes := #[.double, .double, .double, .double, .double, .long, .long, .double, .double, .boolean]
  resolved := Array.replicate 460 none
  statics := none }

def pool8 : Array CpInfo := pool [(1, u "java/lang/Cloneable"), (0, .class_ 1), (0, u "java/lang/Object"), (0, .class_ 3)] 3

/-- java/lang/Cloneable -/
def k8 : Class := { plain "java/lang/Cloneable" (some 0) with
  accessFlags := 1537
  interfaces := #[]
  cf := some (fileOf pool8 2 #[] #[] 1537 4 #[] #[])
  fields := #[]
  methods := #[]
  instanceTypes := #[]
  staticTypes := #[]
  resolved := Array.replicate 8 none
  statics := none }

/-- the primitive byte -/
def k9 : Class := { plain "byte" none with kind := .primitive 'B', accessFlags := 0x411 }
/-- [B -/
def k10 : Class := { plain "[B" (some 0) with kind := .array 9 .byte, interfaces := #[8, 4], accessFlags := 1041 }

/-- the primitive int -/
def k11 : Class := { plain "int" none with kind := .primitive 'I', accessFlags := 0x411 }
/-- [I -/
def k12 : Class := { plain "[I" (some 0) with kind := .array 11 .int, interfaces := #[8, 4], accessFlags := 1041 }

def heap : Heap := #[{ cls := 6, slots := #[.ref 1, .ref 3, .ref 2, .null], vm := .statics 6 },
  { cls := 6, slots := #[.null, .int 0, .int 0], vm := .none },
  { cls := 6, slots := #[.null, .int 2, .int 0], vm := .none },
  { cls := 6, slots := #[.null, .int 1, .int 0], vm := .none }]
def classes : Array Class := #[k0, k1, k2, k3, k4, k5, k6, k7, k8, k9, k10, k11, k12]
def interned : List (Array UInt16 × Addr) := []
def slotsUsed : Nat := 13
def theMethod : MethodId := ⟨1, 1⟩
def args0 : Array Value := #[.int 5, .int 6]
def aboutOver (below : List Frame) : State where
  vm := { classes := classes, interned := interned.toArray }
  heap := heap
  slotsUsed := slotsUsed
  threads := #[{ frames := .invoking theMethod args0 :: below }]
def below0 : List Frame := [.native { method := ⟨0, 0⟩, args := #[] }]
def about1 : State := aboutOver below0
def p0 : Program := .bare "" "" ""
def e0 : Env := launch0.env 0 0 0
theorem w_frames : about1.frames = Frame.invoking theMethod args0 :: below0 := rfl
set_option maxRecDepth 65536 in
theorem w_args : argsFit about1.vm theMethod args0 = true := by decide +kernel
set_option maxRecDepth 65536 in
theorem w_heap : heapFits about1 = true := by decide +kernel
set_option maxRecDepth 65536 in
theorem w_runnable : about1.curStatus? = some .runnable := by decide +kernel
set_option maxRecDepth 65536 in
theorem w_alone : about1.alone = true := by decide +kernel
set_option maxRecDepth 65536 in
theorem w_named : about1.methodNamed? x = some theMethod := by decide +kernel
set_option maxRecDepth 65536 in
theorem w_hears : about1.hears theMethod below0 = true := by decide +kernel
set_option maxRecDepth 65536 in
theorem w_ripe : about1.ripe theMethod args0 below0 = true := by decide +kernel
theorem w_running : about1.status = .running := rfl
set_option maxRecDepth 65536 in
theorem w_room : about1.hasRoom e0.platform room_1 = true :=
  launch0.hasRoom_least _ room_1 (by decide +kernel) (by decide +kernel) (by decide +kernel) (by decide +kernel) (by decide +kernel) (by decide +kernel)
theorem allAtoms_all (ts : List Jvm.Cond) (a : Array Jvm.Value) (st : Jvm.State) : (allAtoms ts).before a st = ts.all (fun c => c.before a st) := by
  induction ts with
  | nil => rfl
  | cons c t ih =>
    show (Jvm.Cond.and c (allAtoms t)).before a st = _
    rw [Jvm.Cond.before_and, ih, List.all_cons]
def words1 : List Jvm.Cond := Jvm.Cond.code x code maxLocals ret :: tables_1
/-- a 'code' word, met by the world's own term for the bytes: nothing is compared byte by byte -/
theorem code_word {y : MethodName} {bytes : ByteArray} {mx : Nat} {rt : Option FieldType} {a : Array Value} {s : State} {m : MethodId} {meth : Method} {c : Code} (h1 : s.methodNamed? y = some m) (h2 : s.vm.method? m = some meth) (h3 : meth.code = some c) (h4 : c.code = bytes)
    (h5 : (c.maxLocals == mx && c.exceptionTable.isEmpty && decide (c.maxStack ≤ mostOperands) && decide (meth.sig.returnType = rt) && !meth.locks && decide (parseMethodDescriptor y.desc = some meth.sig)) = true) : (Jvm.Cond.code y bytes mx rt).before a s = true := by
  simp only [Bool.and_eq_true, beq_iff_eq, Bool.not_eq_true', decide_eq_true_eq] at h5
  obtain ⟨⟨⟨⟨⟨g1, g2⟩, g3⟩, g4⟩, g5⟩, g6⟩ := h5
  simp [Cond.before, Cond.holds, Cond.value, h1, h2, h3, h4, g1, g2, g3, g4, g5, g6]
def isCode : Jvm.Cond → Bool
  | .code _ _ _ _ => true
  | _ => false
theorem all_split {L : List Jvm.Cond} {P : Jvm.Cond → Bool} (h1 : L.all (fun c => isCode c || P c) = true) (h2 : ∀ c ∈ L.filter isCode, P c = true) : L.all P = true := by
  refine List.all_eq_true.mpr fun c hc => ?_
  have h := List.all_eq_true.mp h1 c hc
  rcases Bool.eq_false_or_eq_true (isCode c) with hi | hi
  · exact h2 c (List.mem_filter.mpr ⟨hc, hi⟩)
  · simpa [hi] using h
set_option maxRecDepth 65536 in
theorem w_c0 : (Jvm.Cond.code x code maxLocals ret).before args0 about1 = true := code_word (m := ⟨1, 1⟩) (meth := k1m1) (c := k1c1) (by decide +kernel) rfl rfl rfl (by decide +kernel)
set_option maxRecDepth 65536 in
theorem w_c1 : (Jvm.Cond.code ({ cls := "com/example/astraea/astraea/numeric/TruthAndPinLaw", name := "pick", desc := "(I)Lcom/example/astraea/astraea/numeric/Truth;" } : Jvm.MethodName) method_3_code (1 : Nat) (Option.some (Jvm.ClassFile.FieldType.object "com/example/astraea/astraea/numeric/Truth"))).before args0 about1 = true := code_word (m := ⟨1, 2⟩) (meth := k1m2) (c := k1c2) (by decide +kernel) rfl rfl rfl (by decide +kernel)
set_option maxRecDepth 65536 in
theorem w_c2 : (Jvm.Cond.code ({ cls := "com/example/astraea/astraea/numeric/Truth", name := "and", desc := "(Lcom/example/astraea/astraea/numeric/Truth;)Lcom/example/astraea/astraea/numeric/Truth;" } : Jvm.MethodName) prog_139_method_6_code (3 : Nat) (Option.some (Jvm.ClassFile.FieldType.object "com/example/astraea/astraea/numeric/Truth"))).before args0 about1 = true := code_word (m := ⟨6, 0⟩) (meth := k6m0) (c := k6c0) (by decide +kernel) rfl rfl rfl (by decide +kernel)
set_option maxRecDepth 65536 in
theorem w_c3 : (Jvm.Cond.code ({ cls := "java/lang/Math", name := "min", desc := "(II)I" } : Jvm.MethodName) jdk_29_method_69_code (2 : Nat) (Option.some Jvm.ClassFile.FieldType.int)).before args0 about1 = true := code_word (m := ⟨7, 1⟩) (meth := k7m1) (c := k7c1) (by decide +kernel) rfl rfl rfl (by decide +kernel)
def codes1 : List Jvm.Cond := [Jvm.Cond.code x code maxLocals ret, Jvm.Cond.code ({ cls := "com/example/astraea/astraea/numeric/TruthAndPinLaw", name := "pick", desc := "(I)Lcom/example/astraea/astraea/numeric/Truth;" } : Jvm.MethodName) method_3_code (1 : Nat) (Option.some (Jvm.ClassFile.FieldType.object "com/example/astraea/astraea/numeric/Truth")), Jvm.Cond.code ({ cls := "com/example/astraea/astraea/numeric/Truth", name := "and", desc := "(Lcom/example/astraea/astraea/numeric/Truth;)Lcom/example/astraea/astraea/numeric/Truth;" } : Jvm.MethodName) prog_139_method_6_code (3 : Nat) (Option.some (Jvm.ClassFile.FieldType.object "com/example/astraea/astraea/numeric/Truth")), Jvm.Cond.code ({ cls := "java/lang/Math", name := "min", desc := "(II)I" } : Jvm.MethodName) jdk_29_method_69_code (2 : Nat) (Option.some Jvm.ClassFile.FieldType.int)]
set_option maxRecDepth 65536 in
theorem codes_eq : words1.filter isCode = codes1 := rfl
theorem w_codes : ∀ c ∈ words1.filter isCode, c.before args0 about1 = true := by
  rw [codes_eq]
  intro c hc
  simp only [codes1, List.mem_cons, List.not_mem_nil, or_false] at hc
  rcases hc with rfl | rfl | rfl | rfl
  · exact w_c0
  · exact w_c1
  · exact w_c2
  · exact w_c3
set_option maxRecDepth 65536 in
theorem w_t1 : (words1.take 24).all (fun c => isCode c || c.before args0 about1) = true := by decide +kernel
set_option maxRecDepth 65536 in
theorem w_t2 : (words1.drop 24).all (fun c => isCode c || c.before args0 about1) = true := by decide +kernel
theorem w_tables : (allAtoms (Jvm.Cond.code x code maxLocals ret :: tables_1)).before args0 about1 = true := by
  rw [allAtoms_all]
  show words1.all (fun c => c.before args0 about1) = true
  refine all_split ?_ w_codes
  rw [← List.take_append_drop 24 words1, List.all_append, w_t1, w_t2]
  rfl
set_option maxRecDepth 65536 in
theorem w_case : (Jvm.Cond.and given_1 narrow_1).before args0 about1 = true := by decide +kernel
theorem w_applies : (headSpec (Jvm.Cond.code x code maxLocals ret :: tables_1) room_1).applies x e0.platform about1 = true :=
  (Spec.applies_iff w_frames).mpr ⟨w_running, w_runnable, w_alone, w_named, w_hears, w_ripe, w_room, w_tables⟩
theorem atStart : AtStart classFile x code maxLocals ret World_1 tables_1 room_1 Calls_1 rest_1 Pre_1 launch0 p0 e0 about1 theMethod args0 below0 :=
  ⟨lists_1, trivial, launch0.admits_env _ _ _, launch0.least_env, fairChoices_fair.cas, fairChoices_fair.clock, w_frames, w_args, w_heap, w_applies, trivial, trivial, w_case⟩
end start1
theorem witness_1 : WitnessClaimed_1 := ⟨start1.p0, start1.e0, start1.about1, start1.theMethod, start1.args0, start1.below0, start1.atStart⟩
end Jvm.Pilot.@@N@@
