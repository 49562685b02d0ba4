import JvmDerived
import JvmDerived.Pilot.@@N@@Statement
import JvmDerived.Pilot.@@N@@Code
set_option linter.unusedVariables false
set_option linter.unusedSimpArgs false
namespace Jvm.Pilot.@@N@@
open Jvm Jvm.ClassFile Sem Op Lib Jvm.Free Jvm.Stand Jvm.LawKit Jvm.RoadKit Bundle Jvm.Pilot.@@N@@.Jvm.D
section Own
variable {p : Program} {l : Launch} {e : Env} {R : Room} {s : State} {m : MethodId} {args : Array Value} {below : List Frame} {meth : Method} {c : Code} {T T' : State} {locs : List Loc} {cells slots : Nat} {F : State → Outcome → Prop} {g g' : JFrame} {Z : State} {a0 : Array Value} {h h0 : Heap}
/-- the run from T with g on top ends, and F holds of its end -/
def own_G (p : Program) (e : Env) (below : List Frame) (F : State → Outcome → Prop) (T : State) (g : JFrame) : Prop := ∃ t o, Steps p.tables e below (T.setTop g) t ∧ t.status = .running ∧ Ended t below o ∧ F t o
theorem own_st (h : ∀ t, Steps p.tables e below (T'.setTop g') t → Steps p.tables e below (T.setTop g) t) (k : own_G p e below F T' g') : own_G p e below F T g := by
  obtain ⟨t, o, h1, h2⟩ := k
  exact ⟨t, o, h t h1, h2⟩
theorem own_tr (h : Steps p.tables e below (T.setTop g) (T'.setTop g')) (k : own_G p e below F T' g') : own_G p e below F T g := own_st (fun _ q => h.trans q) k
def own_F (Q : Option Value → Heap → List Loc → Prop) (s : State) (k n : Nat) (t : State) (o : Outcome) : Prop := ∃ v L, o = .returned v ∧ Q v t.heap L ∧ FrameEnd s o t L k n
theorem own_ret {Q : Option Value → Heap → List Loc → Prop} {k n : Nat} {v : Option Value} (X : Stand p l e R s m args below meth c T locs cells slots) (hlk : meth.locks = false) (hv : meth.sig.returnType = none → v = none) (hq : Q v T.heap locs) (h1 : cells ≤ k) (h2 : slots ≤ n)
    (hs : ∀ fs, (∀ (f : JFrame) (acts : List Action), f.method = m → f.locked = none → f.entered = [] → (doReturn e (T.setTop f) acts v).1 = T.setFrames fs) → Steps p.tables e below (T.setTop g) (T.setFrames fs)) : own_G p e below (own_F Q s k n) T g := by
  obtain ⟨fs, hr, hrun, hended, hW, hsame⟩ := X.leave (v := v) hv hlk
  exact ⟨_, _, hs fs hr, hrun, hended, v, locs, rfl, hq, ⟨_, rfl⟩, hW, hsame.mono h1 h2⟩
theorem own_retI {Q : Option Value → Heap → List Loc → Prop} {k n pc : Nat} {Ls : Array Slot} {z : Int32} {rest : List Value} (X : Stand p l e R s m args below meth c T locs cells slots) (hx : p.tables.exec = Jvm.exec) (hlk : meth.locks = false) (hret : meth.sig.returnType = some .int) (hd : decode c.code pc = .ok (.ireturn, 1)) (h1 : cells ≤ k) (h2 : slots ≤ n) (hq : Q (some (.int z)) T.heap locs) :
    own_G p e below (own_F Q s k n) T (mkF m pc Ls (.int z :: rest)) :=
  own_ret X hlk (fun q => by rw [hret] at q; cases q) hq h1 h2 fun fs hr => retOut X hx hret rfl (Or.inl ⟨rfl, Or.inl rfl, _, rfl⟩) hd hr
theorem own_retB {Q : Option Value → Heap → List Loc → Prop} {k n pc : Nat} {Ls : Array Slot} {z w : Int32} {rest : List Value} (X : Stand p l e R s m args below meth c T locs cells slots) (hx : p.tables.exec = Jvm.exec) (hlk : meth.locks = false) (hret : meth.sig.returnType = some .boolean) (hd : decode c.code pc = .ok (.ireturn, 1)) (h1 : cells ≤ k) (h2 : slots ≤ n) (hz : nar .boolean z = w) (hq : Q (some (.int w)) T.heap locs) :
    own_G p e below (own_F Q s k n) T (mkF m pc Ls (.int z :: rest)) := by
  subst hz
  exact own_ret X hlk (fun q => by rw [hret] at q; cases q) hq h1 h2 fun fs hr => retN X hx (t := .boolean) hret (by simp) hd hr
theorem own_retR {Q : Option Value → Heap → List Loc → Prop} {k n pc : Nat} {Ls : Array Slot} {w : Value} {C : String} {rest : List Value} (X : Stand p l e R s m args below meth c T locs cells slots) (hx : p.tables.exec = Jvm.exec) (hlk : meth.locks = false) (hret : meth.sig.returnType = some (.object C)) (hd : decode c.code pc = .ok (.areturn, 1)) (h1 : cells ≤ k) (h2 : slots ≤ n) (hw : w.isRef = true) (hq : Q (some w) T.heap locs) :
    own_G p e below (own_F Q s k n) T (mkF m pc Ls (w :: rest)) :=
  own_ret X hlk (fun q => by rw [hret] at q; cases q) hq h1 h2 fun fs hr => retOut X hx hret rfl (Or.inr (Or.inr (Or.inr (Or.inr ⟨rfl, rfl, hw⟩)))) hd hr
theorem own_retA {Q : Option Value → Heap → List Loc → Prop} {k n pc : Nat} {Ls : Array Slot} {w : Value} {ty : FieldType} {rest : List Value} (X : Stand p l e R s m args below meth c T locs cells slots) (hx : p.tables.exec = Jvm.exec) (hlk : meth.locks = false) (hret : meth.sig.returnType = some (.array ty)) (hd : decode c.code pc = .ok (.areturn, 1)) (h1 : cells ≤ k) (h2 : slots ≤ n) (hw : w.isRef = true) (hq : Q (some w) T.heap locs) :
    own_G p e below (own_F Q s k n) T (mkF m pc Ls (w :: rest)) :=
  own_ret X hlk (fun q => by rw [hret] at q; cases q) hq h1 h2 fun fs hr => retOut X hx hret rfl (Or.inr (Or.inr (Or.inr (Or.inr ⟨rfl, rfl, hw⟩)))) hd hr
theorem own_retJ {Q : Option Value → Heap → List Loc → Prop} {k n pc : Nat} {Ls : Array Slot} {z : Int64} {rest : List Value} (X : Stand p l e R s m args below meth c T locs cells slots) (hx : p.tables.exec = Jvm.exec) (hlk : meth.locks = false) (hret : meth.sig.returnType = some .long) (hd : decode c.code pc = .ok (.lreturn, 1)) (h1 : cells ≤ k) (h2 : slots ≤ n) (hq : Q (some (.long z)) T.heap locs) :
    own_G p e below (own_F Q s k n) T (mkF m pc Ls (.long z :: rest)) :=
  own_ret X hlk (fun q => by rw [hret] at q; cases q) hq h1 h2 fun fs hr => retOut X hx hret rfl (Or.inr (Or.inl ⟨rfl, rfl, _, rfl⟩)) hd hr
theorem own_retV {Q : Option Value → Heap → List Loc → Prop} {k n pc : Nat} {Ls : Array Slot} (X : Stand p l e R s m args below meth c T locs cells slots) (hx : p.tables.exec = Jvm.exec) (hlk : meth.locks = false) (hret : meth.sig.returnType = none) (hd : decode c.code pc = .ok (.return_, 1)) (h1 : cells ≤ k) (h2 : slots ≤ n) (hq : Q none T.heap locs) :
    own_G p e below (own_F Q s k n) T (mkF m pc Ls []) :=
  own_ret X hlk (fun _ => rfl) hq h1 h2 fun fs hr => X.returnOut hx hret hd hr
/-- what a body promises at the heap h0 -/
abbrev own_C (l : Launch) (Z : State) (y : MethodName) (bytes : ByteArray) (ml : Nat) (rt : Option FieldType) (ws : List Jvm.Cond) (rm : Room) (as' : Array Value) (h0 : Heap) (Q : Option Value → Heap → List Loc → Prop) : Prop :=
  MetFree l y (head1 (Jvm.Cond.code y bytes ml rt :: ws) rm) (fun a U => a = as' ∧ Z.Warmed39 U.vm ∧ U.heap = h0) (fun _ _ _ _ _ => True) (fun _ U o U' => ∃ v L, o = .returned v ∧ Q v U'.heap L ∧ FrameEnd U o U' L rm.cells rm.slots)
theorem own_body {y : MethodName} {bytes : ByteArray} {ml : Nat} {rt : Option FieldType} {ws : List Jvm.Cond} {rm : Room} {as' : Array Value} {Q : Option Value → Heap → List Loc → Prop} (pn : plainFor y = true) {f0 : MethodId → JFrame} (hef : ∀ m, entryFrame m as' ml = f0 m)
    (body : ∀ (p : Program) (e : Env) (s : State) (m : MethodId) (below : List Frame) (meth : Method) (c : Code) (s₁ : State), p.tables.exec = Jvm.exec → c.code = bytes → c.maxLocals = ml → s.vm.findClass y.cls = some m.cls → meth.name = y.name → meth.sig.returnType = rt → meth.locks = false → Z.Warmed39 s.vm → Stand p l e rm s m as' below meth c s₁ [] 0 0 → s₁.heap = h0 →
      own_G p e below (own_F Q s rm.cells rm.slots) s₁ (f0 m)) : own_C l Z y bytes ml rt ws rm as' h0 Q := by
  refine MetFree.of_bodySF pn hisR ?_
  intro p e s m args below meth c s₁ Bd hml0 hP hK
  obtain ⟨rfl, hZ, hh⟩ := hP
  have e0 : s₁.heap = h0 := by rw [← hh, Bd.state]; rfl
  have hnm := (name_of_methodNamed Bd.named Bd.method).1
  have q := body p e s m below meth c s₁ Bd.exec Bd.bytes hml0 (findClass_of_methodNamed Bd.named) hnm Bd.returns Bd.notSynchronized hZ (Stand.of_body Bd) e0
  rw [← hef m] at q
  exact q
theorem own_callS {own : String} {index : Nat} {y : MethodName} {bytes : ByteArray} {ml : Nat} {rt : Option FieldType} {rm : Room} {Q : Option Value → Heap → List Loc → Prop} {argsL : List Value} (W : Nat) (rest : List Value)
    (C : own_C l Z y bytes ml rt [] rm argsL.toArray h Q) (X : Stand p l e R s m args below meth c T locs cells slots) (hx : p.tables.exec = Jvm.exec) (hZ : Z.Warmed39 s.vm) (hown : s.vm.findClass own = some m.cls)
    (w1 : (Jvm.Cond.methodLink own index y).before a0 Z = true) (w2 : (Jvm.Cond.static y).before a0 Z = true) (w3 : (Jvm.Cond.initialized y.cls).before a0 Z = true) (w4 : (Jvm.Cond.code y bytes ml rt).before a0 Z = true) (hy : y.cls ≠ "java/lang/invoke/MethodHandle" ∧ y.cls ≠ "java/lang/invoke/VarHandle")
    (hf : rm.frames + 1 ≤ R.frames) (hlo : W + (ml + 11) + rm.locals ≤ R.locals) (hc : cells + rm.cells ≤ R.cells) (hsl : slots + rm.slots ≤ R.slots) (eT : T.heap = h)
    (hg : g.method = m) (hsize : g.locals.size = c.maxLocals) (hlen : ∀ sig, parseMethodDescriptor y.desc = some sig → argsL.length = sig.parameters.length) (hstack : g.stack = argsL.reverse ++ rest) (hW : 2 * g.monitorRoom + (rest.map fun v => v.category).sum ≤ W)
    (hd : decode c.code g.pc = .ok (.invokestatic index, 3)) :
    ∃ v T' L, Q v T'.heap L ∧ Stand p l e R s m args below meth c T' (locs ++ L) (cells + rm.cells) (slots + rm.slots) ∧ ∀ t, Steps p.tables e below (T'.setTop { g with pc := g.pc + 3, stack := v.toList ++ rest }) t → Steps p.tables e below (T.setTop g) t := by
  obtain ⟨v, _, ⟨T4, L4, k4, n4⟩, -, X4, ⟨Lc4, hQ4, l4, y4, z4⟩, st4⟩ := Jvm.LawKit.callS X hx (y := y) hown (mvT hZ w1) (mvT hZ w2) (mvT hZ w3) (mvT hZ w4) hy (backOf (W := W) C hZ w4 w3 hf hlo) hg hsize hlen hstack hW hd (fun _ _ => ⟨rfl, eT, hc, hsl⟩)
  dsimp only [Pt.U, Pt.locs, Pt.cells, Pt.slots] at X4 l4 y4 z4 st4 hQ4
  subst l4 y4 z4
  exact ⟨v, T4, Lc4, hQ4, X4, st4⟩
theorem own_callV {own : String} {index : Nat} {y z : MethodName} {bytes : ByteArray} {ml : Nat} {rt : Option FieldType} {rm : Room} {Q : Option Value → Heap → List Loc → Prop} {b : Addr} {argsL : List Value} (W : Nat) (rest : List Value) {K : String}
    (C : own_C l Z z bytes ml rt [] rm (.ref b :: argsL).toArray h Q) (X : Stand p l e R s m args below meth c T locs cells slots) (hx : p.tables.exec = Jvm.exec) (hZ : Z.Warmed39 s.vm) (hown : s.vm.findClass own = some m.cls)
    (w1 : (Jvm.Cond.methodLink own index y).before a0 Z = true) (w2 : (Jvm.Cond.declares y).before a0 Z = true) (hnf : NotFace s y) (w3 : (Jvm.Cond.selects K y z).before a0 Z = true) (w5 : (Jvm.Cond.instanceMethod z).before a0 Z = true) (w4 : (Jvm.Cond.code z bytes ml rt).before a0 Z = true) (w6 : (Jvm.Cond.initialized z.cls).before a0 Z = true) (hy : y.cls ≠ "java/lang/invoke/MethodHandle" ∧ y.cls ≠ "java/lang/invoke/VarHandle")
    (hf : rm.frames + 1 ≤ R.frames) (hlo : W + (ml + 11) + rm.locals ≤ R.locals) (hc : cells + rm.cells ≤ R.cells) (hsl : slots + rm.slots ≤ R.slots) (eT : T.heap = h) (E : Exa Z h b K)
    (hg : g.method = m) (hsize : g.locals.size = c.maxLocals) (hlen : ∀ sig, parseMethodDescriptor y.desc = some sig → argsL.length = sig.parameters.length) (hstack : g.stack = argsL.reverse ++ .ref b :: rest) (hW : 2 * g.monitorRoom + (rest.map fun v => v.category).sum ≤ W)
    (hd : decode c.code g.pc = .ok (.invokevirtual index, 3)) :
    ∃ v T' L, Q v T'.heap L ∧ Stand p l e R s m args below meth c T' (locs ++ L) (cells + rm.cells) (slots + rm.slots) ∧ ∀ t, Steps p.tables e below (T'.setTop { g with pc := g.pc + 3, stack := v.toList ++ rest }) t → Steps p.tables e below (T.setTop g) t := by
  obtain ⟨cq4, kq4, q4a, q4b, q4c⟩ := isOf hZ eT E
  obtain ⟨v, _, ⟨T4, L4, k4, n4⟩, -, X4, ⟨Lc4, hQ4, l4, y4, z4⟩, st4⟩ := X.virtualBack hx (y := y) (z := z) hown (mvT hZ w1) (mvT hZ w2) hnf (mvT hZ w3) (mvT hZ w5) hy (backOf (W := W) C hZ w4 w6 hf hlo) q4a q4c hg hsize (Steps.refl _) hlen hstack hW hd (fun _ _ => ⟨rfl, eT, hc, hsl⟩)
  dsimp only [Pt.U, Pt.locs, Pt.cells, Pt.slots] at X4 l4 y4 z4 st4 hQ4
  subst l4 y4 z4
  exact ⟨v, T4, Lc4, hQ4, X4, fun t k => st4.trans k⟩
theorem own_callI {own : String} {index : Nat} {y : MethodName} {bytes : ByteArray} {ml : Nat} {rm : Room} {Q : Option Value → Heap → List Loc → Prop} {b : Addr} {argsL : List Value} (W : Nat) (rest : List Value)
    (C : own_C l Z y bytes ml none [] rm (.ref b :: argsL).toArray h Q) (X : Stand p l e R s m args below meth c T locs cells slots) (hx : p.tables.exec = Jvm.exec) (hZ : Z.Warmed39 s.vm) (hown : s.vm.findClass own = some m.cls) (hy1 : y.name = "<init>")
    (w1 : (Jvm.Cond.methodLink own index y).before a0 Z = true) (w5 : (Jvm.Cond.instanceMethod y).before a0 Z = true) (w4 : (Jvm.Cond.code y bytes ml none).before a0 Z = true) (w6 : (Jvm.Cond.initialized y.cls).before a0 Z = true) (hy : y.cls ≠ "java/lang/invoke/MethodHandle" ∧ y.cls ≠ "java/lang/invoke/VarHandle")
    (hf : rm.frames + 1 ≤ R.frames) (hlo : W + (ml + 11) + rm.locals ≤ R.locals) (hc : cells + rm.cells ≤ R.cells) (hsl : slots + rm.slots ≤ R.slots) (eT : T.heap = h)
    (hg : g.method = m) (hsize : g.locals.size = c.maxLocals) (hlen : ∀ sig, parseMethodDescriptor y.desc = some sig → argsL.length = sig.parameters.length) (hstack : g.stack = argsL.reverse ++ .ref b :: rest) (hW : 2 * g.monitorRoom + (rest.map fun v => v.category).sum ≤ W)
    (hd : decode c.code g.pc = .ok (.invokespecial index, 3)) :
    ∃ v T' L, Q v T'.heap L ∧ Stand p l e R s m args below meth c T' (locs ++ L) (cells + rm.cells) (slots + rm.slots) ∧ ∀ t, Steps p.tables e below (T'.setTop { g with pc := g.pc + 3, stack := v.toList ++ rest }) t → Steps p.tables e below (T.setTop g) t := by
  obtain ⟨v, _, ⟨T4, L4, k4, n4⟩, -, X4, ⟨Lc4, hQ4, l4, y4, z4⟩, st4⟩ := X.specialBack hx (y := y) hy1 hown (mvT hZ w1) (mvT hZ w5) (mvT hZ w4) hy (backOf (W := W) C hZ w4 w6 hf hlo) hg hsize (Steps.refl _) (a := b) hlen hstack hW hd (fun _ _ => ⟨rfl, eT, hc, hsl⟩)
  dsimp only [Pt.U, Pt.locs, Pt.cells, Pt.slots] at X4 l4 y4 z4 st4 hQ4
  subst l4 y4 z4
  exact ⟨v, T4, Lc4, hQ4, X4, fun t k => st4.trans k⟩
theorem own_sta {C n d K : String} {args : Array Value} (hx : (Jvm.Cond.exactly (Term.static C n d) K).value args Z none Z [] = some true) (hi : (Jvm.Cond.initialized C).before args Z = true) (hl : (Jvm.Cond.laysStatic C n d).before args Z = true) :
    ∃ a, (Term.static C n d).eval args Z none [] Z = some (.ref a) ∧ Sta Z Z.heap C n d (.ref a) ∧ Exa Z Z.heap a K := by
  obtain ⟨a', c', cell, k, e1, -⟩ := Cond.exactly_spec (Cond.before_iff.mpr hx)
  exact ⟨a', e1, Sta.start e1 (Or.inr ⟨hi, hl⟩), Exa.start e1 hx⟩
theorem own_fld {args : Array Value} {t : Term} {a : Addr} {C n d : String} {z : Int32} (ev : t.eval args Z none [] Z = some (.ref a)) (hx : (Jvm.Cond.eq (Term.field t C n d) (Term.int z)).value args Z none Z [] = some true) : Fld Z Z.heap a C n d (.int z) := by
  apply Fld.start
  cases hf : Z.fieldOf? a C n d with
  | none => simp [Cond.value, Term.eval, ev, hf] at hx
  | some v => cases v <;> simp [Cond.value, Term.eval, ev, hf] at hx ⊢; exact hx
/-- a body that writes nothing: it returns r -/
def own_P (r : Value) (h0 : Heap) (v : Option Value) (h : Heap) (L : List Loc) : Prop := v = some r ∧ h = h0 ∧ L = []
theorem own_ite {q : Prop} [Decidable q] {x y : Addr} {K : String} (h1 : Exa Z h x K) (h2 : Exa Z h y K) : Exa Z h (if q then x else y) K := by split <;> assumption
theorem own_or {q : Prop} [Decidable q] {r x y : α} (h : r = if q then x else y) : r = x ∨ r = y := by rw [h]; split <;> simp
theorem own_bit (x : Int32) : x &&& 1 = 0 ∨ x &&& 1 = 1 := by
  have h1 : (x &&& 1).toBitVec = x.toBitVec &&& 1#32 := rfl
  have h2 : (x.toBitVec &&& 1#32).toNat = x.toBitVec.toNat % 2 := by rw [BitVec.toNat_and]; exact Nat.and_two_pow_sub_one_eq_mod _ 1
  rcases Nat.mod_two_eq_zero_or_one x.toBitVec.toNat with h | h
  · left; apply Int32.toBitVec_inj.mp; apply BitVec.eq_of_toNat_eq; rw [h1, h2, h]; rfl
  · right; apply Int32.toBitVec_inj.mp; apply BitVec.eq_of_toNat_eq; rw [h1, h2, h]; rfl
theorem own_plain {a : Addr} {C : String} (E : Exa Z h a C) : ∀ cell : Cell, h[a]? = some cell → cell.vm.isStatics = false := fun cell hc => by
  obtain ⟨c1, _, h1, -, -, h4, -⟩ := E
  cases h1.symm.trans hc; exact h4
theorem own_sta_keep {h' : Heap} {ws : List Addr} {C n d : String} {v : Value} (F : Sta Z h C n d v) (K : Keep h h' ws) (q : ∀ x ∈ ws, ∀ cell : Cell, h'[x]? = some cell → cell.vm.isStatics = false) : Sta Z h' C n d v := by
  obtain ⟨cf, i, k, f, st, cell, h1, h2, h3, h4, h5, h6, h7⟩ := F
  refine ⟨cf, i, k, f, st, cell, h1, h2, h3, h4, K.2.1 st cell h5 (fun m => ?_), h6, h7⟩
  obtain ⟨c', e1, -, e3, -⟩ := K.2.2 st cell h5
  have := q st m c' e1
  rw [e3, h6] at this; cases this
theorem own_ext {h' : Heap} (K : Keep h h' []) : Ext h h' := ⟨K.1, fun a c q => K.2.1 a c q nin0⟩
theorem own_keep {h' : Heap} (E : Ext h h') : Keep h h' [] := (Keep.refl h []).ext E
/-- a body that returns nothing and writes nothing -/
def own_V (h0 : Heap) (v : Option Value) (h : Heap) (L : List Loc) : Prop := v = none ∧ h = h0 ∧ L = []
theorem own_nar {z : Int32} (h : z = 0 ∨ z = 1) : nar .boolean z = z := by rcases h with rfl | rfl <;> rfl
theorem own_01 {q : Prop} [Decidable q] {x y : Int32} (h1 : x = 0 ∨ x = 1) (h2 : y = 0 ∨ y = 1) : (if q then x else y) = 0 ∨ (if q then x else y) = 1 := by split <;> assumption
end Own
def own_qib (Z : State) (a : Addr) (h0 : Heap) (n0 : Nat) (v : Option Value) (h : Heap) (L : List Loc) : Prop := v = none ∧ Fr n0 L ∧ Keep h0 h [a] ∧ Exa Z h a "java/lang/Integer"
def own_qvo (Z : State) (h0 : Heap) (n0 : Nat) (v : Option Value) (h : Heap) (L : List Loc) : Prop := ∃ b, v = some (.ref b) ∧ Fr n0 L ∧ Ext h0 h ∧ Exa Z h b "java/lang/Integer"
def own_el (Z : State) (a : Addr) (x1 x2 x3 x4 x5 : Int32) (h : Heap) : Prop := Exa Z h a "com/example/nullward/nullward/Elements" ∧ Fld Z h a "com/example/nullward/nullward/Elements" "length" "I" (.int x1) ∧ Fld Z h a "com/example/nullward/nullward/Elements" "filled" "I" (.int x2) ∧ Fld Z h a "com/example/nullward/nullward/Elements" "lengthLocal" "I" (.int x3) ∧ Fld Z h a "com/example/nullward/nullward/Elements" "indexLocal" "I" (.int x4) ∧ Fld Z h a "com/example/nullward/nullward/Elements" "past" "I" (.int x5)
def own_qi (Z : State) (a : Addr) (x1 x2 x3 x4 x5 : Int32) (h0 : Heap) (n0 : Nat) (v : Option Value) (h : Heap) (L : List Loc) : Prop := v = none ∧ Fr n0 L ∧ Keep h0 h [a] ∧ own_el Z a x1 x2 x3 x4 x5 h
def own_qm (Z : State) (x1 x2 x3 x4 x5 : Int32) (h0 : Heap) (n0 : Nat) (v : Option Value) (h : Heap) (L : List Loc) : Prop := ∃ b, v = some (.ref b) ∧ Fr n0 L ∧ Ext h0 h ∧ h0.size ≤ b ∧ own_el Z b x1 x2 x3 x4 x5 h
def own_eq (x1 x2 x3 x4 x5 y1 y2 y3 y4 y5 : Int32) : Int32 := (if x1 = y1 then (if x2 = y2 then (if x3 = y3 then (if x4 = y4 then (if x5 = y5 then 1 else 0) else 0) else 0) else 0) else 0)
theorem own_eq_symm (x1 x2 x3 x4 x5 y1 y2 y3 y4 y5 : Int32) : own_eq x1 x2 x3 x4 x5 y1 y2 y3 y4 y5 = own_eq y1 y2 y3 y4 y5 x1 x2 x3 x4 x5 := by
  unfold own_eq; simp only [@eq_comm _ x1 y1, @eq_comm _ x2 y2, @eq_comm _ x3 y3, @eq_comm _ x4 y4, @eq_comm _ x5 y5]
def own_qr (r : Value) (n0 : Nat) (v : Option Value) (h : Heap) (L : List Loc) : Prop := v = some r ∧ Fr n0 L
theorem own_na {Z : State} {a0 : Array Value} (hw : ∀ d ∈ tables_1, d.before a0 Z = true) : ∃ c t, Z.vm.findClass "java/lang/Integer" = some c ∧ Z.vm.findClass "com/example/nullward/nullward/Elements" = some t ∧ Z.vm.assignable c t = false := by
  obtain ⟨t, k, h1, h2, h3, h4, -⟩ := Cond.instantiable_spec (hw _ (List.mem_of_getElem? (i := 1) rfl))
  obtain ⟨c, hc⟩ := found_sup (hw _ (List.mem_of_getElem? (i := 50) rfl))
  refine ⟨c, t, hc, h1, Jvm.Vm.notAssignable_of_chain (t := ["java/lang/Number", "java/lang/Object"]) (args := a0) hc h1 h2 h3 (by revert h4; cases k.isInterface <;> simp) ?_ (by decide)⟩
  intro w hm
  simp only [Cond.chainWords, List.mem_cons, List.not_mem_nil, or_false] at hm
  rcases hm with rfl | rfl | rfl
  · exact (hw _ (List.mem_of_getElem? (i := 50) rfl))
  · exact (hw _ (List.mem_of_getElem? (i := 51) rfl))
  · exact (hw _ (List.mem_of_getElem? (i := 52) rfl))
theorem own_pd0 : parseMethodDescriptor "()V" = some ⟨[], none⟩ := by decide +kernel
theorem own_pd1 : parseMethodDescriptor "(I)V" = some ⟨[.int], none⟩ := by decide +kernel
theorem own_pd2 : parseMethodDescriptor "(IIIII)V" = some ⟨[.int, .int, .int, .int, .int], none⟩ := by decide +kernel
theorem own_pd3 : parseMethodDescriptor "(Ljava/lang/Object;)Z" = some ⟨[(.object "java/lang/Object")], some .boolean⟩ := by decide +kernel
theorem own_pd4 : parseMethodDescriptor "(I)Ljava/lang/Integer;" = some ⟨[.int], some (.object "java/lang/Integer")⟩ := by decide +kernel
theorem own_d7_0 : decode jdk_18_method_1_code 0 = .ok (.aload_n 0, 1) := by decide +kernel
theorem own_d7_1 : decode jdk_18_method_1_code 1 = .ok (.invokespecial 1, 3) := by decide +kernel
theorem own_d7_4 : decode jdk_18_method_1_code 4 = .ok (.return_, 1) := by decide +kernel
theorem own_pn7 : plainFor (⟨"java/lang/Number", "<init>", "()V"⟩ : MethodName) = true := plainFor_of_name (show plainName "java/lang/Number" = true by first | (simp [plainName, overriddenIn]; done) | decide +kernel)
theorem own_ef7 (m : MethodId) (a1 : Addr) : entryFrame m #[(.ref a1)] 1 = (mkF m 0 #[.val (.ref a1)] []) := by first | (simp [entryFrame, mkF, argsToLocals, Value.category]; done) | rfl
set_option maxRecDepth 65536 in
set_option maxHeartbeats 40000000 in
theorem own_rm7 (l : Launch) (Z : State) (a0 : Array Value) (hw : ∀ d ∈ tables_1, d.before a0 Z = true) (h0 : Heap) (n0 : Nat) (Z0 : n0 ≤ h0.size) (a1 : Addr)  :
    own_C l Z (⟨"java/lang/Number", "<init>", "()V"⟩ : MethodName) jdk_18_method_1_code 1 none [] ({ frames := 1, cells := 0, slots := 0, locals := 12 } : Room) #[(.ref a1)] h0 (own_V h0) := by
  refine own_body own_pn7 (f0 := fun m => (mkF m 0 #[.val (.ref a1)] [])) (fun m => own_ef7 m a1) ?_
  intro p e s m below meth c s₁ hx hby hml hown hnm hret hlk hZ X0 e0
  change own_G p e below (own_F (own_V h0) s 0 0) s₁ (mkF m 0 #[.val (.ref a1)] [])
  have N0 := Fr.nil n0
  refine own_st (T' := s₁) (g' := (mkF m 1 #[.val (.ref a1)] [(.ref a1)])) (fun t k => XS.aloadN X0.here hx rfl (hb hby own_d7_0) rfl rfl k) ?_
  obtain ⟨T1, X1, e1, st1⟩ := initO X0 hx hZ hown (hw _ (List.mem_of_getElem? (i := 47) rfl)) (hw _ (List.mem_of_getElem? (i := 12) rfl)) (hw _ (List.mem_of_getElem? (i := 13) rfl)) e0 (g := (mkF m 1 #[.val (.ref a1)] [(.ref a1)])) rfl (by rw [hml]; rfl) rfl (hb hby own_d7_1) (by decide) (W := 0) (by show 2 * 0 + _ ≤ _; exact Nat.le_of_eq rfl) (by decide)
  refine own_st (T' := T1) (g' := (mkF m 4 #[.val (.ref a1)] [])) st1 ?_
  exact own_retV X1 hx hlk hret (hb hby own_d7_4) (by decide) (by decide) ⟨rfl, e1, rfl⟩
theorem own_d6_0 : decode jdk_33_method_23_code 0 = .ok (.aload_n 0, 1) := by decide +kernel
theorem own_d6_1 : decode jdk_33_method_23_code 1 = .ok (.invokespecial 202, 3) := by decide +kernel
theorem own_d6_4 : decode jdk_33_method_23_code 4 = .ok (.aload_n 0, 1) := by decide +kernel
theorem own_d6_5 : decode jdk_33_method_23_code 5 = .ok (.iload_n 1, 1) := by decide +kernel
theorem own_d6_6 : decode jdk_33_method_23_code 6 = .ok (.putfield 205, 3) := by decide +kernel
theorem own_d6_9 : decode jdk_33_method_23_code 9 = .ok (.return_, 1) := by decide +kernel
theorem own_pn6 : plainFor (⟨"java/lang/Integer", "<init>", "(I)V"⟩ : MethodName) = true := plainFor_of_name (show plainName "java/lang/Integer" = true by first | (simp [plainName, overriddenIn]; done) | decide +kernel)
theorem own_ef6 (m : MethodId) (a1 : Addr) (p2 : Int32) : entryFrame m #[(.ref a1), (.int p2)] 2 = (mkF m 0 #[.val (.ref a1), .val (.int p2)] []) := by first | (simp [entryFrame, mkF, argsToLocals, Value.category]; done) | rfl
set_option maxRecDepth 65536 in
set_option maxHeartbeats 40000000 in
theorem own_rm6 (l : Launch) (Z : State) (a0 : Array Value) (hw : ∀ d ∈ tables_1, d.before a0 Z = true) (h0 : Heap) (n0 : Nat) (Z0 : n0 ≤ h0.size) (a1 : Addr) (p2 : Int32) (E_a1 : Exa Z h0 a1 "java/lang/Integer") (g_a1 : n0 ≤ a1) (u : Value) (F_value_a1 : Fld Z h0 a1 "java/lang/Integer" "value" "I" u) :
    own_C l Z (⟨"java/lang/Integer", "<init>", "(I)V"⟩ : MethodName) jdk_33_method_23_code 2 none [] ({ frames := 2, cells := 0, slots := 0, locals := 24 } : Room) #[(.ref a1), (.int p2)] h0 (own_qib Z a1 h0 n0) := by
  refine own_body own_pn6 (f0 := fun m => (mkF m 0 #[.val (.ref a1), .val (.int p2)] [])) (fun m => own_ef6 m a1 p2) ?_
  intro p e s m below meth c s₁ hx hby hml hown hnm hret hlk hZ X0 e0
  change own_G p e below (own_F (own_qib Z a1 h0 n0) s 0 0) s₁ (mkF m 0 #[.val (.ref a1), .val (.int p2)] [])
  have N0 := Fr.nil n0
  refine own_st (T' := s₁) (g' := (mkF m 1 #[.val (.ref a1), .val (.int p2)] [(.ref a1)])) (fun t k => XS.aloadN X0.here hx rfl (hb hby own_d6_0) rfl rfl k) ?_
  obtain ⟨_, T1, L1, hQ1, X1, st1⟩ := own_callI (y := (⟨"java/lang/Number", "<init>", "()V"⟩ : MethodName)) (argsL := []) 0 [] (own_rm7 l Z a0 hw h0 n0 Z0 a1) X0 hx hZ hown rfl (hw _ (List.mem_of_getElem? (i := 41) rfl)) (hw _ (List.mem_of_getElem? (i := 42) rfl)) (hw _ (List.mem_of_getElem? (i := 46) rfl)) (hw _ (List.mem_of_getElem? (i := 45) rfl)) (by decide) (by decide) (by decide) (by decide) (by decide) e0 (g := (mkF m 1 #[.val (.ref a1), .val (.int p2)] [(.ref a1)])) rfl (by rw [hml]; rfl) (lenOf own_pd0 rfl) rfl (by show 2 * 0 + _ ≤ _; exact Nat.le_of_eq rfl) (hb hby own_d6_1)
  obtain ⟨rfl, e1, rfl⟩ := hQ1
  have X1 : Stand p l e ({ frames := 2, cells := 0, slots := 0, locals := 24 } : Room) s m #[(.ref a1), (.int p2)] below meth c T1 [] 0 0 := X1
  refine own_st (T' := T1) (g' := (mkF m 4 #[.val (.ref a1), .val (.int p2)] [])) st1 ?_
  refine own_st (T' := T1) (g' := (mkF m 5 #[.val (.ref a1), .val (.int p2)] [(.ref a1)])) (fun t k => XS.aloadN X1.here hx rfl (hb hby own_d6_4) rfl rfl k) ?_
  refine own_st (T' := T1) (g' := (mkF m 6 #[.val (.ref a1), .val (.int p2)] [(.int p2), (.ref a1)])) (fun t k => XS.iloadN X1.here hx rfl (hb hby own_d6_5) rfl k) ?_
  obtain ⟨T2, h2, X2, e2, W2, st2⟩ := putF X1 hx hZ hown (host := "") (Or.inl (hw _ (List.mem_of_getElem? (i := 48) rfl))) Via.refl e1 F_value_a1 E_a1 (Or.inr ⟨(hw _ (List.mem_of_getElem? (i := 49) rfl)), rfl, hnm⟩) (hw _ (List.mem_of_getElem? (i := 36) rfl)) (ty := .int) (by decide) rfl rfl (g := (mkF m 6 #[.val (.ref a1), .val (.int p2)] [(.int p2), (.ref a1)])) rfl rfl (hb hby own_d6_6)
  have E_a1 := E_a1.wr W2
  have F_value_a1 := F_value_a1.same W2
  have K0_2 := (Keep.refl h0 [a1]).wr W2 (Or.inl (List.mem_of_getElem? (i := 0) rfl))
  have N2 := Fr.snoc X2 N0 g_a1
  generalize hlc2 : ([] ++ [(⟨a1, Jvm.RoadKit.slotOf Z "java/lang/Integer" "value" "I"⟩ : Loc)] : List Loc) = lc2 at X2 N2
  have Z2 : n0 ≤ h2.size := Nat.le_trans Z0 (Keep.of_wr W2).1
  refine own_st (T' := T2) (g' := (mkF m 9 #[.val (.ref a1), .val (.int p2)] [])) st2 ?_
  exact own_retV X2 hx hlk hret (hb hby own_d6_9) (by decide) (by decide) (by rw [e2]; exact ⟨rfl, N2, K0_2, E_a1⟩)
theorem own_d5_0 : decode jdk_33_method_22_code 0 = .ok (.iload_n 0, 1) := by decide +kernel
theorem own_d5_1 : decode jdk_33_method_22_code 1 = .ok (.bipush (-128), 2) := by decide +kernel
theorem own_d5_3 : decode jdk_33_method_22_code 3 = .ok (.if_icmp .lt 20, 3) := by decide +kernel
theorem own_d5_6 : decode jdk_33_method_22_code 6 = .ok (.iload_n 0, 1) := by decide +kernel
theorem own_d5_7 : decode jdk_33_method_22_code 7 = .ok (.getstatic 191, 3) := by decide +kernel
theorem own_d5_10 : decode jdk_33_method_22_code 10 = .ok (.if_icmp .gt 13, 3) := by decide +kernel
theorem own_d5_13 : decode jdk_33_method_22_code 13 = .ok (.getstatic 195, 3) := by decide +kernel
theorem own_d5_16 : decode jdk_33_method_22_code 16 = .ok (.iload_n 0, 1) := by decide +kernel
theorem own_d5_17 : decode jdk_33_method_22_code 17 = .ok (.sipush 128, 3) := by decide +kernel
theorem own_d5_20 : decode jdk_33_method_22_code 20 = .ok (.iadd, 1) := by decide +kernel
theorem own_d5_21 : decode jdk_33_method_22_code 21 = .ok (.aaload, 1) := by decide +kernel
theorem own_d5_22 : decode jdk_33_method_22_code 22 = .ok (.areturn, 1) := by decide +kernel
theorem own_d5_23 : decode jdk_33_method_22_code 23 = .ok (.new 1, 3) := by decide +kernel
theorem own_d5_26 : decode jdk_33_method_22_code 26 = .ok (.dup, 1) := by decide +kernel
theorem own_d5_27 : decode jdk_33_method_22_code 27 = .ok (.iload_n 0, 1) := by decide +kernel
theorem own_d5_28 : decode jdk_33_method_22_code 28 = .ok (.invokespecial 199, 3) := by decide +kernel
theorem own_d5_31 : decode jdk_33_method_22_code 31 = .ok (.areturn, 1) := by decide +kernel
theorem own_pn5 : plainFor (⟨"java/lang/Integer", "valueOf", "(I)Ljava/lang/Integer;"⟩ : MethodName) = true := plainFor_of_name (show plainName "java/lang/Integer" = true by first | (simp [plainName, overriddenIn]; done) | decide +kernel)
theorem own_ef5 (m : MethodId) (p1 : Int32) : entryFrame m #[(.int p1)] 1 = (mkF m 0 #[.val (.int p1)] []) := by first | (simp [entryFrame, mkF, argsToLocals, Value.category]; done) | rfl
set_option maxRecDepth 65536 in
set_option maxHeartbeats 40000000 in
theorem own_rm5 (l : Launch) (Z : State) (a0 : Array Value) (hw : ∀ d ∈ tables_1, d.before a0 Z = true) (h0 : Heap) (n0 : Nat) (Z0 : n0 ≤ h0.size) (p1 : Int32) (O : Old Z n0 h0) (s_cache : Addr) (cc : Cell) (S_high : Sta Z Z.heap "java/lang/Integer$IntegerCache" "high" "I" (.int 127)) (S_cache : Sta Z Z.heap "java/lang/Integer$IntegerCache" "cache" "[Ljava/lang/Integer;" (.ref s_cache)) (B_cache : Bxs Z s_cache cc "java/lang/Integer" "I" 256 (fun j => .int (j - 128))) :
    own_C l Z (⟨"java/lang/Integer", "valueOf", "(I)Ljava/lang/Integer;"⟩ : MethodName) jdk_33_method_22_code 1 (some (.object "java/lang/Integer")) [] ({ frames := 3, cells := 1, slots := 1, locals := 40 } : Room) #[(.int p1)] h0 (own_qvo Z h0 n0) := by
  refine own_body own_pn5 (f0 := fun m => (mkF m 0 #[.val (.int p1)] [])) (fun m => own_ef5 m p1) ?_
  intro p e s m below meth c s₁ hx hby hml hown hnm hret hlk hZ X0 e0
  change own_G p e below (own_F (own_qvo Z h0 n0) s 1 1) s₁ (mkF m 0 #[.val (.int p1)] [])
  have N0 := Fr.nil n0
  refine own_st (T' := s₁) (g' := (mkF m 1 #[.val (.int p1)] [(.int p1)])) (fun t k => XS.iloadN X0.here hx rfl (hb hby own_d5_0) rfl k) ?_
  refine own_st (T' := s₁) (g' := (mkF m 3 #[.val (.int p1)] [(.int (-128 : Int32)), (.int p1)])) (fun t k => XS.bipush X0.here hx rfl (hb hby own_d5_1) k) ?_
  by_cases hc3_1 : p1 < (-128 : Int32)
  ·
    refine own_st (T' := s₁) (g' := (mkF m 23 #[.val (.int p1)] [])) (fun t k => XS.icmpYes X0.here hx rfl (pc0 := 3) (pc' := 23) rfl (hb hby own_d5_3) rfl (tlt hc3_1).1 (by decide) (by decide) k) ?_
    obtain ⟨T2, h2, X2, e2, E2, A2, D2, -, st2⟩ := newO X0 hx hZ hown (hw _ (List.mem_of_getElem? (i := 35) rfl)) (hw _ (List.mem_of_getElem? (i := 36) rfl)) (hw _ (List.mem_of_getElem? (i := 33) rfl)) e0 (g := (mkF m 23 #[.val (.int p1)] [])) rfl (hb hby own_d5_23) (by decide) (by decide)
    obtain ⟨b2, gb2⟩ : ∃ z, z = h0.size := ⟨_, rfl⟩
    rw [← gb2] at A2 D2 st2
    have g_b2 : n0 ≤ b2 := Nat.le_trans Z0 (Nat.le_of_eq gb2.symm)
    have Z2 : n0 ≤ h2.size := Nat.le_trans Z0 E2.1
    have sz_b2 : h0.size ≤ b2 := Nat.le_trans (Keep.refl h0 []).1 (Nat.le_of_eq gb2.symm)
    have K0_2 := (Keep.refl h0 []).ext E2
    have O := O.ext E2
    have E_b2 := A2
    have F_value_b2 : Fld Z h2 b2 "java/lang/Integer" "value" "I" (.int (0 : Int32)) := D2 (Or.inr (hw _ (List.mem_of_getElem? (i := 49) rfl))) (ty := .int) (by decide)
    have X2 : Stand p l e ({ frames := 3, cells := 1, slots := 1, locals := 40 } : Room) s m #[(.int p1)] below meth c T2 [] 1 1 := X2
    refine own_st (T' := T2) (g' := (mkF m 26 #[.val (.int p1)] [(.ref b2)])) st2 ?_
    refine own_st (T' := T2) (g' := (mkF m 27 #[.val (.int p1)] [(.ref b2), (.ref b2)])) (fun t k => XS.dup X2.here hx rfl (hb hby own_d5_26) rfl rfl k) ?_
    refine own_st (T' := T2) (g' := (mkF m 28 #[.val (.int p1)] [(.int p1), (.ref b2), (.ref b2)])) (fun t k => XS.iloadN X2.here hx rfl (hb hby own_d5_27) rfl k) ?_
    obtain ⟨_, T3, L3, hQ3, X3, st3⟩ := own_callI (y := (⟨"java/lang/Integer", "<init>", "(I)V"⟩ : MethodName)) (argsL := [(.int p1)]) 1 [(.ref b2)] (own_rm6 l Z a0 hw h2 n0 Z2 b2 p1 E_b2 g_b2 _ F_value_b2) X2 hx hZ hown rfl (hw _ (List.mem_of_getElem? (i := 37) rfl)) (hw _ (List.mem_of_getElem? (i := 38) rfl)) (hw _ (List.mem_of_getElem? (i := 40) rfl)) (hw _ (List.mem_of_getElem? (i := 33) rfl)) (by decide) (by decide) (by decide) (by decide) (by decide) e2 (g := (mkF m 28 #[.val (.int p1)] [(.int p1), (.ref b2), (.ref b2)])) rfl (by rw [hml]; rfl) (lenOf own_pd1 rfl) rfl (by show 2 * 0 + _ ≤ _; exact Nat.le_of_eq rfl) (hb hby own_d5_28)
    obtain ⟨rfl, N3q, Kq3, E_b2⟩ := hQ3
    have K0_3 := K0_2.trans Kq3 (allS (Or.inr sz_b2) all0)
    have Z3 : n0 ≤ T3.heap.size := Nat.le_trans Z2 Kq3.1
    have O := O.keep Kq3 (allS g_b2 all0)
    have N3 := Fr.app N0 N3q
    generalize hlc3 : ([] ++ L3 : List Loc) = lc3 at X3 N3
    have X3 : Stand p l e ({ frames := 3, cells := 1, slots := 1, locals := 40 } : Room) s m #[(.int p1)] below meth c T3 lc3 1 1 := X3
    refine own_st (T' := T3) (g' := (mkF m 31 #[.val (.int p1)] [(.ref b2)])) st3 ?_
    exact own_retR X3 hx hlk hret (hb hby own_d5_31) (by decide) (by decide) rfl ⟨b2, rfl, N3, own_ext K0_3, E_b2⟩
  ·
    refine own_st (T' := s₁) (g' := (mkF m 6 #[.val (.int p1)] [])) (fun t k => XS.icmpNo X0.here hx rfl (hb hby own_d5_3) rfl (flt hc3_1).1 k) ?_
    refine own_st (T' := s₁) (g' := (mkF m 7 #[.val (.int p1)] [(.int p1)])) (fun t k => XS.iloadN X0.here hx rfl (hb hby own_d5_6) rfl k) ?_
    obtain ⟨T4, X4, e4, st4⟩ := getS2 X0 hx hZ hown (host := "") (Or.inl (hw _ (List.mem_of_getElem? (i := 53) rfl))) Via.refl e0 (S_high.ext O.2) (g := (mkF m 7 #[.val (.int p1)] [(.int p1)])) rfl (hb hby own_d5_7)
    refine own_st (T' := T4) (g' := (mkF m 10 #[.val (.int p1)] [(.int (127 : Int32)), (.int p1)])) st4 ?_
    by_cases hc10_5 : (127 : Int32) < p1
    ·
      refine own_st (T' := T4) (g' := (mkF m 23 #[.val (.int p1)] [])) (fun t k => XS.icmpYes X4.here hx rfl (pc0 := 10) (pc' := 23) rfl (hb hby own_d5_10) rfl (tlt hc10_5).2.2.1 (by decide) (by decide) k) ?_
      obtain ⟨T6, h6, X6, e6, E6, A6, D6, -, st6⟩ := newO X4 hx hZ hown (hw _ (List.mem_of_getElem? (i := 35) rfl)) (hw _ (List.mem_of_getElem? (i := 36) rfl)) (hw _ (List.mem_of_getElem? (i := 33) rfl)) e4 (g := (mkF m 23 #[.val (.int p1)] [])) rfl (hb hby own_d5_23) (by decide) (by decide)
      obtain ⟨b6, gb6⟩ : ∃ z, z = h0.size := ⟨_, rfl⟩
      rw [← gb6] at A6 D6 st6
      have g_b6 : n0 ≤ b6 := Nat.le_trans Z0 (Nat.le_of_eq gb6.symm)
      have Z6 : n0 ≤ h6.size := Nat.le_trans Z0 E6.1
      have sz_b6 : h0.size ≤ b6 := Nat.le_trans (Keep.refl h0 []).1 (Nat.le_of_eq gb6.symm)
      have K0_6 := (Keep.refl h0 []).ext E6
      have O := O.ext E6
      have E_b6 := A6
      have F_value_b6 : Fld Z h6 b6 "java/lang/Integer" "value" "I" (.int (0 : Int32)) := D6 (Or.inr (hw _ (List.mem_of_getElem? (i := 49) rfl))) (ty := .int) (by decide)
      have X6 : Stand p l e ({ frames := 3, cells := 1, slots := 1, locals := 40 } : Room) s m #[(.int p1)] below meth c T6 [] 1 1 := X6
      refine own_st (T' := T6) (g' := (mkF m 26 #[.val (.int p1)] [(.ref b6)])) st6 ?_
      refine own_st (T' := T6) (g' := (mkF m 27 #[.val (.int p1)] [(.ref b6), (.ref b6)])) (fun t k => XS.dup X6.here hx rfl (hb hby own_d5_26) rfl rfl k) ?_
      refine own_st (T' := T6) (g' := (mkF m 28 #[.val (.int p1)] [(.int p1), (.ref b6), (.ref b6)])) (fun t k => XS.iloadN X6.here hx rfl (hb hby own_d5_27) rfl k) ?_
      obtain ⟨_, T7, L7, hQ7, X7, st7⟩ := own_callI (y := (⟨"java/lang/Integer", "<init>", "(I)V"⟩ : MethodName)) (argsL := [(.int p1)]) 1 [(.ref b6)] (own_rm6 l Z a0 hw h6 n0 Z6 b6 p1 E_b6 g_b6 _ F_value_b6) X6 hx hZ hown rfl (hw _ (List.mem_of_getElem? (i := 37) rfl)) (hw _ (List.mem_of_getElem? (i := 38) rfl)) (hw _ (List.mem_of_getElem? (i := 40) rfl)) (hw _ (List.mem_of_getElem? (i := 33) rfl)) (by decide) (by decide) (by decide) (by decide) (by decide) e6 (g := (mkF m 28 #[.val (.int p1)] [(.int p1), (.ref b6), (.ref b6)])) rfl (by rw [hml]; rfl) (lenOf own_pd1 rfl) rfl (by show 2 * 0 + _ ≤ _; exact Nat.le_of_eq rfl) (hb hby own_d5_28)
      obtain ⟨rfl, N7q, Kq7, E_b6⟩ := hQ7
      have K0_7 := K0_6.trans Kq7 (allS (Or.inr sz_b6) all0)
      have Z7 : n0 ≤ T7.heap.size := Nat.le_trans Z6 Kq7.1
      have O := O.keep Kq7 (allS g_b6 all0)
      have N7 := Fr.app N0 N7q
      generalize hlc7 : ([] ++ L7 : List Loc) = lc7 at X7 N7
      have X7 : Stand p l e ({ frames := 3, cells := 1, slots := 1, locals := 40 } : Room) s m #[(.int p1)] below meth c T7 lc7 1 1 := X7
      refine own_st (T' := T7) (g' := (mkF m 31 #[.val (.int p1)] [(.ref b6)])) st7 ?_
      exact own_retR X7 hx hlk hret (hb hby own_d5_31) (by decide) (by decide) rfl ⟨b6, rfl, N7, own_ext K0_7, E_b6⟩
    ·
      refine own_st (T' := T4) (g' := (mkF m 13 #[.val (.int p1)] [])) (fun t k => XS.icmpNo X4.here hx rfl (hb hby own_d5_10) rfl (flt hc10_5).2.2.1 k) ?_
      obtain ⟨T8, X8, e8, st8⟩ := getS2 X4 hx hZ hown (host := "") (Or.inl (hw _ (List.mem_of_getElem? (i := 55) rfl))) Via.refl e4 (S_cache.ext O.2) (g := (mkF m 13 #[.val (.int p1)] [])) rfl (hb hby own_d5_13)
      refine own_st (T' := T8) (g' := (mkF m 16 #[.val (.int p1)] [(.ref s_cache)])) st8 ?_
      refine own_st (T' := T8) (g' := (mkF m 17 #[.val (.int p1)] [(.int p1), (.ref s_cache)])) (fun t k => XS.iloadN X8.here hx rfl (hb hby own_d5_16) rfl k) ?_
      refine own_st (T' := T8) (g' := (mkF m 20 #[.val (.int p1)] [(.int (128 : Int32)), (.int p1), (.ref s_cache)])) (fun t k => XS.sipush X8.here hx rfl (hb hby own_d5_17) k) ?_
      refine own_st (T' := T8) (g' := (mkF m 21 #[.val (.int p1)] [(.int (p1 + (128 : Int32))), (.ref s_cache)])) (fun t k => XS.iadd X8.here hx rfl (hb hby own_d5_20) rfl k) ?_
      have pl9 := Jvm.Free.IntBox.place_ok p1 hc3_1 hc10_5
      have hs9 : cc.slots.size = 256 := B_cache.2.1
      have hin9 : ¬ (p1 + 128 < 0 ∨ cc.slots.size ≤ (p1 + 128).toNatClampNeg) := by rw [hs9]; exact pl9.1
      obtain ⟨x9, hat9, Ex9, -⟩ := B_cache.2.2.2 _ hin9
      have Ex9 := Ex9.ext O.2
      refine own_st (T' := T8) (g' := (mkF m 22 #[.val (.int p1)] [(.ref x9)])) (X8.aaload hx (j := (p1 + (128 : Int32))) (v := (.ref x9)) (by rw [e8]; exact (B_cache.1.ext O.2).1) (State.isArrayOf_alike hZ.alike (B_cache.1.ext O.2).2.1) rfl (B_cache.1.ext O.2).2.2 hin9 hat9 (g := (mkF m 21 #[.val (.int p1)] [(.int (p1 + (128 : Int32))), (.ref s_cache)])) rfl rfl (hb hby own_d5_21)) ?_
      exact own_retR X8 hx hlk hret (hb hby own_d5_22) (by decide) (by decide) rfl (by rw [e8]; exact ⟨x9, rfl, N0, own_ext (Keep.refl h0 []), Ex9⟩)
theorem own_d2_0 : decode jdk_30_method_1_code 0 = .ok (.aload_n 0, 1) := by decide +kernel
theorem own_d2_1 : decode jdk_30_method_1_code 1 = .ok (.invokespecial 1, 3) := by decide +kernel
theorem own_d2_4 : decode jdk_30_method_1_code 4 = .ok (.return_, 1) := by decide +kernel
theorem own_pn2 : plainFor (⟨"java/lang/Record", "<init>", "()V"⟩ : MethodName) = true := plainFor_of_name (show plainName "java/lang/Record" = true by first | (simp [plainName, overriddenIn]; done) | decide +kernel)
theorem own_ef2 (m : MethodId) (a1 : Addr) : entryFrame m #[(.ref a1)] 1 = (mkF m 0 #[.val (.ref a1)] []) := by first | (simp [entryFrame, mkF, argsToLocals, Value.category]; done) | rfl
set_option maxRecDepth 65536 in
set_option maxHeartbeats 40000000 in
theorem own_rm2 (l : Launch) (Z : State) (a0 : Array Value) (hw : ∀ d ∈ tables_1, d.before a0 Z = true) (h0 : Heap) (n0 : Nat) (Z0 : n0 ≤ h0.size) (a1 : Addr)  :
    own_C l Z (⟨"java/lang/Record", "<init>", "()V"⟩ : MethodName) jdk_30_method_1_code 1 none [] ({ frames := 1, cells := 0, slots := 0, locals := 12 } : Room) #[(.ref a1)] h0 (own_V h0) := by
  refine own_body own_pn2 (f0 := fun m => (mkF m 0 #[.val (.ref a1)] [])) (fun m => own_ef2 m a1) ?_
  intro p e s m below meth c s₁ hx hby hml hown hnm hret hlk hZ X0 e0
  change own_G p e below (own_F (own_V h0) s 0 0) s₁ (mkF m 0 #[.val (.ref a1)] [])
  have N0 := Fr.nil n0
  refine own_st (T' := s₁) (g' := (mkF m 1 #[.val (.ref a1)] [(.ref a1)])) (fun t k => XS.aloadN X0.here hx rfl (hb hby own_d2_0) rfl rfl k) ?_
  obtain ⟨T1, X1, e1, st1⟩ := initO X0 hx hZ hown (hw _ (List.mem_of_getElem? (i := 11) rfl)) (hw _ (List.mem_of_getElem? (i := 12) rfl)) (hw _ (List.mem_of_getElem? (i := 13) rfl)) e0 (g := (mkF m 1 #[.val (.ref a1)] [(.ref a1)])) rfl (by rw [hml]; rfl) rfl (hb hby own_d2_1) (by decide) (W := 0) (by show 2 * 0 + _ ≤ _; exact Nat.le_of_eq rfl) (by decide)
  refine own_st (T' := T1) (g' := (mkF m 4 #[.val (.ref a1)] [])) st1 ?_
  exact own_retV X1 hx hlk hret (hb hby own_d2_4) (by decide) (by decide) ⟨rfl, e1, rfl⟩
theorem own_d1_0 : decode prog_4_method_2_code 0 = .ok (.aload_n 0, 1) := by decide +kernel
theorem own_d1_1 : decode prog_4_method_2_code 1 = .ok (.invokespecial 3, 3) := by decide +kernel
theorem own_d1_4 : decode prog_4_method_2_code 4 = .ok (.aload_n 0, 1) := by decide +kernel
theorem own_d1_5 : decode prog_4_method_2_code 5 = .ok (.iload_n 1, 1) := by decide +kernel
theorem own_d1_6 : decode prog_4_method_2_code 6 = .ok (.putfield 9, 3) := by decide +kernel
theorem own_d1_9 : decode prog_4_method_2_code 9 = .ok (.aload_n 0, 1) := by decide +kernel
theorem own_d1_10 : decode prog_4_method_2_code 10 = .ok (.iload_n 2, 1) := by decide +kernel
theorem own_d1_11 : decode prog_4_method_2_code 11 = .ok (.putfield 15, 3) := by decide +kernel
theorem own_d1_14 : decode prog_4_method_2_code 14 = .ok (.aload_n 0, 1) := by decide +kernel
theorem own_d1_15 : decode prog_4_method_2_code 15 = .ok (.iload_n 3, 1) := by decide +kernel
theorem own_d1_16 : decode prog_4_method_2_code 16 = .ok (.putfield 18, 3) := by decide +kernel
theorem own_d1_19 : decode prog_4_method_2_code 19 = .ok (.aload_n 0, 1) := by decide +kernel
theorem own_d1_20 : decode prog_4_method_2_code 20 = .ok (.iload 4, 2) := by decide +kernel
theorem own_d1_22 : decode prog_4_method_2_code 22 = .ok (.putfield 21, 3) := by decide +kernel
theorem own_d1_25 : decode prog_4_method_2_code 25 = .ok (.aload_n 0, 1) := by decide +kernel
theorem own_d1_26 : decode prog_4_method_2_code 26 = .ok (.iload 5, 2) := by decide +kernel
theorem own_d1_28 : decode prog_4_method_2_code 28 = .ok (.putfield 24, 3) := by decide +kernel
theorem own_d1_31 : decode prog_4_method_2_code 31 = .ok (.return_, 1) := by decide +kernel
theorem own_pn1 : plainFor (⟨"com/example/nullward/nullward/Elements", "<init>", "(IIIII)V"⟩ : MethodName) = true := plainFor_of_name (show plainName "com/example/nullward/nullward/Elements" = true by first | (simp [plainName, overriddenIn]; done) | decide +kernel)
theorem own_ef1 (m : MethodId) (a1 : Addr) (p2 : Int32) (p3 : Int32) (p4 : Int32) (p5 : Int32) (p6 : Int32) : entryFrame m #[(.ref a1), (.int p2), (.int p3), (.int p4), (.int p5), (.int p6)] 6 = (mkF m 0 #[.val (.ref a1), .val (.int p2), .val (.int p3), .val (.int p4), .val (.int p5), .val (.int p6)] []) := by first | (simp [entryFrame, mkF, argsToLocals, Value.category]; done) | rfl
set_option maxRecDepth 65536 in
set_option maxHeartbeats 40000000 in
theorem own_rm1 (l : Launch) (Z : State) (a0 : Array Value) (hw : ∀ d ∈ tables_1, d.before a0 Z = true) (h0 : Heap) (n0 : Nat) (Z0 : n0 ≤ h0.size) (a1 : Addr) (p2 : Int32) (p3 : Int32) (p4 : Int32) (p5 : Int32) (p6 : Int32) (E_a1 : Exa Z h0 a1 "com/example/nullward/nullward/Elements") (g_a1 : n0 ≤ a1) (u_length : Value) (F_length_a1 : Fld Z h0 a1 "com/example/nullward/nullward/Elements" "length" "I" u_length) (u_filled : Value) (F_filled_a1 : Fld Z h0 a1 "com/example/nullward/nullward/Elements" "filled" "I" u_filled) (u_lengthLocal : Value) (F_lengthLocal_a1 : Fld Z h0 a1 "com/example/nullward/nullward/Elements" "lengthLocal" "I" u_lengthLocal) (u_indexLocal : Value) (F_indexLocal_a1 : Fld Z h0 a1 "com/example/nullward/nullward/Elements" "indexLocal" "I" u_indexLocal) (u_past : Value) (F_past_a1 : Fld Z h0 a1 "com/example/nullward/nullward/Elements" "past" "I" u_past) :
    own_C l Z (⟨"com/example/nullward/nullward/Elements", "<init>", "(IIIII)V"⟩ : MethodName) prog_4_method_2_code 6 none [] ({ frames := 2, cells := 0, slots := 0, locals := 24 } : Room) #[(.ref a1), (.int p2), (.int p3), (.int p4), (.int p5), (.int p6)] h0 (own_qi Z a1 p2 p3 p4 p5 p6 h0 n0) := by
  refine own_body own_pn1 (f0 := fun m => (mkF m 0 #[.val (.ref a1), .val (.int p2), .val (.int p3), .val (.int p4), .val (.int p5), .val (.int p6)] [])) (fun m => own_ef1 m a1 p2 p3 p4 p5 p6) ?_
  intro p e s m below meth c s₁ hx hby hml hown hnm hret hlk hZ X0 e0
  change own_G p e below (own_F (own_qi Z a1 p2 p3 p4 p5 p6 h0 n0) s 0 0) s₁ (mkF m 0 #[.val (.ref a1), .val (.int p2), .val (.int p3), .val (.int p4), .val (.int p5), .val (.int p6)] [])
  have N0 := Fr.nil n0
  refine own_st (T' := s₁) (g' := (mkF m 1 #[.val (.ref a1), .val (.int p2), .val (.int p3), .val (.int p4), .val (.int p5), .val (.int p6)] [(.ref a1)])) (fun t k => XS.aloadN X0.here hx rfl (hb hby own_d1_0) rfl rfl k) ?_
  obtain ⟨_, T1, L1, hQ1, X1, st1⟩ := own_callI (y := (⟨"java/lang/Record", "<init>", "()V"⟩ : MethodName)) (argsL := []) 0 [] (own_rm2 l Z a0 hw h0 n0 Z0 a1) X0 hx hZ hown rfl (hw _ (List.mem_of_getElem? (i := 6) rfl)) (hw _ (List.mem_of_getElem? (i := 7) rfl)) (hw _ (List.mem_of_getElem? (i := 10) rfl)) (hw _ (List.mem_of_getElem? (i := 9) rfl)) (by decide) (by decide) (by decide) (by decide) (by decide) e0 (g := (mkF m 1 #[.val (.ref a1), .val (.int p2), .val (.int p3), .val (.int p4), .val (.int p5), .val (.int p6)] [(.ref a1)])) rfl (by rw [hml]; rfl) (lenOf own_pd0 rfl) rfl (by show 2 * 0 + _ ≤ _; exact Nat.le_of_eq rfl) (hb hby own_d1_1)
  obtain ⟨rfl, e1, rfl⟩ := hQ1
  have X1 : Stand p l e ({ frames := 2, cells := 0, slots := 0, locals := 24 } : Room) s m #[(.ref a1), (.int p2), (.int p3), (.int p4), (.int p5), (.int p6)] below meth c T1 [] 0 0 := X1
  refine own_st (T' := T1) (g' := (mkF m 4 #[.val (.ref a1), .val (.int p2), .val (.int p3), .val (.int p4), .val (.int p5), .val (.int p6)] [])) st1 ?_
  refine own_st (T' := T1) (g' := (mkF m 5 #[.val (.ref a1), .val (.int p2), .val (.int p3), .val (.int p4), .val (.int p5), .val (.int p6)] [(.ref a1)])) (fun t k => XS.aloadN X1.here hx rfl (hb hby own_d1_4) rfl rfl k) ?_
  refine own_st (T' := T1) (g' := (mkF m 6 #[.val (.ref a1), .val (.int p2), .val (.int p3), .val (.int p4), .val (.int p5), .val (.int p6)] [(.int p2), (.ref a1)])) (fun t k => XS.iloadN X1.here hx rfl (hb hby own_d1_5) rfl k) ?_
  obtain ⟨T2, h2, X2, e2, W2, st2⟩ := putF X1 hx hZ hown (host := "") (Or.inl (hw _ (List.mem_of_getElem? (i := 14) rfl))) Via.refl e1 F_length_a1 E_a1 (Or.inr ⟨(hw _ (List.mem_of_getElem? (i := 15) rfl)), rfl, hnm⟩) (hw _ (List.mem_of_getElem? (i := 1) rfl)) (ty := .int) (by decide) rfl rfl (g := (mkF m 6 #[.val (.ref a1), .val (.int p2), .val (.int p3), .val (.int p4), .val (.int p5), .val (.int p6)] [(.int p2), (.ref a1)])) rfl rfl (hb hby own_d1_6)
  have E_a1 := E_a1.wr W2
  have F_length_a1 := F_length_a1.same W2
  have F_filled_a1 := F_filled_a1.other W2 (Or.inr (slot_ne (Or.inr (hw _ (List.mem_of_getElem? (i := 17) rfl))) (Or.inr (hw _ (List.mem_of_getElem? (i := 15) rfl))) (by decide) (t := .int) (t' := .int) (by decide) (by decide)))
  have F_lengthLocal_a1 := F_lengthLocal_a1.other W2 (Or.inr (slot_ne (Or.inr (hw _ (List.mem_of_getElem? (i := 19) rfl))) (Or.inr (hw _ (List.mem_of_getElem? (i := 15) rfl))) (by decide) (t := .int) (t' := .int) (by decide) (by decide)))
  have F_indexLocal_a1 := F_indexLocal_a1.other W2 (Or.inr (slot_ne (Or.inr (hw _ (List.mem_of_getElem? (i := 21) rfl))) (Or.inr (hw _ (List.mem_of_getElem? (i := 15) rfl))) (by decide) (t := .int) (t' := .int) (by decide) (by decide)))
  have F_past_a1 := F_past_a1.other W2 (Or.inr (slot_ne (Or.inr (hw _ (List.mem_of_getElem? (i := 23) rfl))) (Or.inr (hw _ (List.mem_of_getElem? (i := 15) rfl))) (by decide) (t := .int) (t' := .int) (by decide) (by decide)))
  have K0_2 := (Keep.refl h0 [a1]).wr W2 (Or.inl (List.mem_of_getElem? (i := 0) rfl))
  have N2 := Fr.snoc X2 N0 g_a1
  generalize hlc2 : ([] ++ [(⟨a1, Jvm.RoadKit.slotOf Z "com/example/nullward/nullward/Elements" "length" "I"⟩ : Loc)] : List Loc) = lc2 at X2 N2
  have Z2 : n0 ≤ h2.size := Nat.le_trans Z0 (Keep.of_wr W2).1
  refine own_st (T' := T2) (g' := (mkF m 9 #[.val (.ref a1), .val (.int p2), .val (.int p3), .val (.int p4), .val (.int p5), .val (.int p6)] [])) st2 ?_
  refine own_st (T' := T2) (g' := (mkF m 10 #[.val (.ref a1), .val (.int p2), .val (.int p3), .val (.int p4), .val (.int p5), .val (.int p6)] [(.ref a1)])) (fun t k => XS.aloadN X2.here hx rfl (hb hby own_d1_9) rfl rfl k) ?_
  refine own_st (T' := T2) (g' := (mkF m 11 #[.val (.ref a1), .val (.int p2), .val (.int p3), .val (.int p4), .val (.int p5), .val (.int p6)] [(.int p3), (.ref a1)])) (fun t k => XS.iloadN X2.here hx rfl (hb hby own_d1_10) rfl k) ?_
  obtain ⟨T3, h3, X3, e3, W3, st3⟩ := putF X2 hx hZ hown (host := "") (Or.inl (hw _ (List.mem_of_getElem? (i := 16) rfl))) Via.refl e2 F_filled_a1 E_a1 (Or.inr ⟨(hw _ (List.mem_of_getElem? (i := 17) rfl)), rfl, hnm⟩) (hw _ (List.mem_of_getElem? (i := 1) rfl)) (ty := .int) (by decide) rfl rfl (g := (mkF m 11 #[.val (.ref a1), .val (.int p2), .val (.int p3), .val (.int p4), .val (.int p5), .val (.int p6)] [(.int p3), (.ref a1)])) rfl rfl (hb hby own_d1_11)
  have E_a1 := E_a1.wr W3
  have F_length_a1 := F_length_a1.other W3 (Or.inr (slot_ne (Or.inr (hw _ (List.mem_of_getElem? (i := 15) rfl))) (Or.inr (hw _ (List.mem_of_getElem? (i := 17) rfl))) (by decide) (t := .int) (t' := .int) (by decide) (by decide)))
  have F_filled_a1 := F_filled_a1.same W3
  have F_lengthLocal_a1 := F_lengthLocal_a1.other W3 (Or.inr (slot_ne (Or.inr (hw _ (List.mem_of_getElem? (i := 19) rfl))) (Or.inr (hw _ (List.mem_of_getElem? (i := 17) rfl))) (by decide) (t := .int) (t' := .int) (by decide) (by decide)))
  have F_indexLocal_a1 := F_indexLocal_a1.other W3 (Or.inr (slot_ne (Or.inr (hw _ (List.mem_of_getElem? (i := 21) rfl))) (Or.inr (hw _ (List.mem_of_getElem? (i := 17) rfl))) (by decide) (t := .int) (t' := .int) (by decide) (by decide)))
  have F_past_a1 := F_past_a1.other W3 (Or.inr (slot_ne (Or.inr (hw _ (List.mem_of_getElem? (i := 23) rfl))) (Or.inr (hw _ (List.mem_of_getElem? (i := 17) rfl))) (by decide) (t := .int) (t' := .int) (by decide) (by decide)))
  have K0_3 := K0_2.wr W3 (Or.inl (List.mem_of_getElem? (i := 0) rfl))
  have N3 := Fr.snoc X3 N2 g_a1
  generalize hlc3 : (lc2 ++ [(⟨a1, Jvm.RoadKit.slotOf Z "com/example/nullward/nullward/Elements" "filled" "I"⟩ : Loc)] : List Loc) = lc3 at X3 N3
  have Z3 : n0 ≤ h3.size := Nat.le_trans Z2 (Keep.of_wr W3).1
  refine own_st (T' := T3) (g' := (mkF m 14 #[.val (.ref a1), .val (.int p2), .val (.int p3), .val (.int p4), .val (.int p5), .val (.int p6)] [])) st3 ?_
  refine own_st (T' := T3) (g' := (mkF m 15 #[.val (.ref a1), .val (.int p2), .val (.int p3), .val (.int p4), .val (.int p5), .val (.int p6)] [(.ref a1)])) (fun t k => XS.aloadN X3.here hx rfl (hb hby own_d1_14) rfl rfl k) ?_
  refine own_st (T' := T3) (g' := (mkF m 16 #[.val (.ref a1), .val (.int p2), .val (.int p3), .val (.int p4), .val (.int p5), .val (.int p6)] [(.int p4), (.ref a1)])) (fun t k => XS.iloadN X3.here hx rfl (hb hby own_d1_15) rfl k) ?_
  obtain ⟨T4, h4, X4, e4, W4, st4⟩ := putF X3 hx hZ hown (host := "") (Or.inl (hw _ (List.mem_of_getElem? (i := 18) rfl))) Via.refl e3 F_lengthLocal_a1 E_a1 (Or.inr ⟨(hw _ (List.mem_of_getElem? (i := 19) rfl)), rfl, hnm⟩) (hw _ (List.mem_of_getElem? (i := 1) rfl)) (ty := .int) (by decide) rfl rfl (g := (mkF m 16 #[.val (.ref a1), .val (.int p2), .val (.int p3), .val (.int p4), .val (.int p5), .val (.int p6)] [(.int p4), (.ref a1)])) rfl rfl (hb hby own_d1_16)
  have E_a1 := E_a1.wr W4
  have F_length_a1 := F_length_a1.other W4 (Or.inr (slot_ne (Or.inr (hw _ (List.mem_of_getElem? (i := 15) rfl))) (Or.inr (hw _ (List.mem_of_getElem? (i := 19) rfl))) (by decide) (t := .int) (t' := .int) (by decide) (by decide)))
  have F_filled_a1 := F_filled_a1.other W4 (Or.inr (slot_ne (Or.inr (hw _ (List.mem_of_getElem? (i := 17) rfl))) (Or.inr (hw _ (List.mem_of_getElem? (i := 19) rfl))) (by decide) (t := .int) (t' := .int) (by decide) (by decide)))
  have F_lengthLocal_a1 := F_lengthLocal_a1.same W4
  have F_indexLocal_a1 := F_indexLocal_a1.other W4 (Or.inr (slot_ne (Or.inr (hw _ (List.mem_of_getElem? (i := 21) rfl))) (Or.inr (hw _ (List.mem_of_getElem? (i := 19) rfl))) (by decide) (t := .int) (t' := .int) (by decide) (by decide)))
  have F_past_a1 := F_past_a1.other W4 (Or.inr (slot_ne (Or.inr (hw _ (List.mem_of_getElem? (i := 23) rfl))) (Or.inr (hw _ (List.mem_of_getElem? (i := 19) rfl))) (by decide) (t := .int) (t' := .int) (by decide) (by decide)))
  have K0_4 := K0_3.wr W4 (Or.inl (List.mem_of_getElem? (i := 0) rfl))
  have N4 := Fr.snoc X4 N3 g_a1
  generalize hlc4 : (lc3 ++ [(⟨a1, Jvm.RoadKit.slotOf Z "com/example/nullward/nullward/Elements" "lengthLocal" "I"⟩ : Loc)] : List Loc) = lc4 at X4 N4
  have Z4 : n0 ≤ h4.size := Nat.le_trans Z3 (Keep.of_wr W4).1
  refine own_st (T' := T4) (g' := (mkF m 19 #[.val (.ref a1), .val (.int p2), .val (.int p3), .val (.int p4), .val (.int p5), .val (.int p6)] [])) st4 ?_
  refine own_st (T' := T4) (g' := (mkF m 20 #[.val (.ref a1), .val (.int p2), .val (.int p3), .val (.int p4), .val (.int p5), .val (.int p6)] [(.ref a1)])) (fun t k => XS.aloadN X4.here hx rfl (hb hby own_d1_19) rfl rfl k) ?_
  refine own_st (T' := T4) (g' := (mkF m 22 #[.val (.ref a1), .val (.int p2), .val (.int p3), .val (.int p4), .val (.int p5), .val (.int p6)] [(.int p5), (.ref a1)])) (fun t k => XS.iload X4.here hx rfl (hb hby own_d1_20) rfl k) ?_
  obtain ⟨T5, h5, X5, e5, W5, st5⟩ := putF X4 hx hZ hown (host := "") (Or.inl (hw _ (List.mem_of_getElem? (i := 20) rfl))) Via.refl e4 F_indexLocal_a1 E_a1 (Or.inr ⟨(hw _ (List.mem_of_getElem? (i := 21) rfl)), rfl, hnm⟩) (hw _ (List.mem_of_getElem? (i := 1) rfl)) (ty := .int) (by decide) rfl rfl (g := (mkF m 22 #[.val (.ref a1), .val (.int p2), .val (.int p3), .val (.int p4), .val (.int p5), .val (.int p6)] [(.int p5), (.ref a1)])) rfl rfl (hb hby own_d1_22)
  have E_a1 := E_a1.wr W5
  have F_length_a1 := F_length_a1.other W5 (Or.inr (slot_ne (Or.inr (hw _ (List.mem_of_getElem? (i := 15) rfl))) (Or.inr (hw _ (List.mem_of_getElem? (i := 21) rfl))) (by decide) (t := .int) (t' := .int) (by decide) (by decide)))
  have F_filled_a1 := F_filled_a1.other W5 (Or.inr (slot_ne (Or.inr (hw _ (List.mem_of_getElem? (i := 17) rfl))) (Or.inr (hw _ (List.mem_of_getElem? (i := 21) rfl))) (by decide) (t := .int) (t' := .int) (by decide) (by decide)))
  have F_lengthLocal_a1 := F_lengthLocal_a1.other W5 (Or.inr (slot_ne (Or.inr (hw _ (List.mem_of_getElem? (i := 19) rfl))) (Or.inr (hw _ (List.mem_of_getElem? (i := 21) rfl))) (by decide) (t := .int) (t' := .int) (by decide) (by decide)))
  have F_indexLocal_a1 := F_indexLocal_a1.same W5
  have F_past_a1 := F_past_a1.other W5 (Or.inr (slot_ne (Or.inr (hw _ (List.mem_of_getElem? (i := 23) rfl))) (Or.inr (hw _ (List.mem_of_getElem? (i := 21) rfl))) (by decide) (t := .int) (t' := .int) (by decide) (by decide)))
  have K0_5 := K0_4.wr W5 (Or.inl (List.mem_of_getElem? (i := 0) rfl))
  have N5 := Fr.snoc X5 N4 g_a1
  generalize hlc5 : (lc4 ++ [(⟨a1, Jvm.RoadKit.slotOf Z "com/example/nullward/nullward/Elements" "indexLocal" "I"⟩ : Loc)] : List Loc) = lc5 at X5 N5
  have Z5 : n0 ≤ h5.size := Nat.le_trans Z4 (Keep.of_wr W5).1
  refine own_st (T' := T5) (g' := (mkF m 25 #[.val (.ref a1), .val (.int p2), .val (.int p3), .val (.int p4), .val (.int p5), .val (.int p6)] [])) st5 ?_
  refine own_st (T' := T5) (g' := (mkF m 26 #[.val (.ref a1), .val (.int p2), .val (.int p3), .val (.int p4), .val (.int p5), .val (.int p6)] [(.ref a1)])) (fun t k => XS.aloadN X5.here hx rfl (hb hby own_d1_25) rfl rfl k) ?_
  refine own_st (T' := T5) (g' := (mkF m 28 #[.val (.ref a1), .val (.int p2), .val (.int p3), .val (.int p4), .val (.int p5), .val (.int p6)] [(.int p6), (.ref a1)])) (fun t k => XS.iload X5.here hx rfl (hb hby own_d1_26) rfl k) ?_
  obtain ⟨T6, h6, X6, e6, W6, st6⟩ := putF X5 hx hZ hown (host := "") (Or.inl (hw _ (List.mem_of_getElem? (i := 22) rfl))) Via.refl e5 F_past_a1 E_a1 (Or.inr ⟨(hw _ (List.mem_of_getElem? (i := 23) rfl)), rfl, hnm⟩) (hw _ (List.mem_of_getElem? (i := 1) rfl)) (ty := .int) (by decide) rfl rfl (g := (mkF m 28 #[.val (.ref a1), .val (.int p2), .val (.int p3), .val (.int p4), .val (.int p5), .val (.int p6)] [(.int p6), (.ref a1)])) rfl rfl (hb hby own_d1_28)
  have E_a1 := E_a1.wr W6
  have F_length_a1 := F_length_a1.other W6 (Or.inr (slot_ne (Or.inr (hw _ (List.mem_of_getElem? (i := 15) rfl))) (Or.inr (hw _ (List.mem_of_getElem? (i := 23) rfl))) (by decide) (t := .int) (t' := .int) (by decide) (by decide)))
  have F_filled_a1 := F_filled_a1.other W6 (Or.inr (slot_ne (Or.inr (hw _ (List.mem_of_getElem? (i := 17) rfl))) (Or.inr (hw _ (List.mem_of_getElem? (i := 23) rfl))) (by decide) (t := .int) (t' := .int) (by decide) (by decide)))
  have F_lengthLocal_a1 := F_lengthLocal_a1.other W6 (Or.inr (slot_ne (Or.inr (hw _ (List.mem_of_getElem? (i := 19) rfl))) (Or.inr (hw _ (List.mem_of_getElem? (i := 23) rfl))) (by decide) (t := .int) (t' := .int) (by decide) (by decide)))
  have F_indexLocal_a1 := F_indexLocal_a1.other W6 (Or.inr (slot_ne (Or.inr (hw _ (List.mem_of_getElem? (i := 21) rfl))) (Or.inr (hw _ (List.mem_of_getElem? (i := 23) rfl))) (by decide) (t := .int) (t' := .int) (by decide) (by decide)))
  have F_past_a1 := F_past_a1.same W6
  have K0_6 := K0_5.wr W6 (Or.inl (List.mem_of_getElem? (i := 0) rfl))
  have N6 := Fr.snoc X6 N5 g_a1
  generalize hlc6 : (lc5 ++ [(⟨a1, Jvm.RoadKit.slotOf Z "com/example/nullward/nullward/Elements" "past" "I"⟩ : Loc)] : List Loc) = lc6 at X6 N6
  have Z6 : n0 ≤ h6.size := Nat.le_trans Z5 (Keep.of_wr W6).1
  refine own_st (T' := T6) (g' := (mkF m 31 #[.val (.ref a1), .val (.int p2), .val (.int p3), .val (.int p4), .val (.int p5), .val (.int p6)] [])) st6 ?_
  exact own_retV X6 hx hlk hret (hb hby own_d1_31) (by decide) (by decide) (by rw [e6]; exact ⟨rfl, N6, K0_6, E_a1, F_length_a1, F_filled_a1, F_lengthLocal_a1, F_indexLocal_a1, F_past_a1⟩)
theorem own_d4_0 : decode prog_4_method_10_code 0 = .ok (.aload_n 1, 1) := by decide +kernel
theorem own_d4_1 : decode prog_4_method_10_code 1 = .ok (.aload_n 0, 1) := by decide +kernel
theorem own_d4_2 : decode prog_4_method_10_code 2 = .ok (.if_acmp .eq 70, 3) := by decide +kernel
theorem own_d4_72 : decode prog_4_method_10_code 72 = .ok (.iconst 1, 1) := by decide +kernel
theorem own_d4_73 : decode prog_4_method_10_code 73 = .ok (.goto 4, 3) := by decide +kernel
theorem own_d4_77 : decode prog_4_method_10_code 77 = .ok (.ireturn, 1) := by decide +kernel
theorem own_pn4 : plainFor (⟨"com/example/nullward/nullward/Elements", "equals", "(Ljava/lang/Object;)Z"⟩ : MethodName) = true := plainFor_of_name (show plainName "com/example/nullward/nullward/Elements" = true by first | (simp [plainName, overriddenIn]; done) | decide +kernel)
theorem own_ef4s (m : MethodId) (a1 : Addr) : entryFrame m #[(.ref a1), (.ref a1)] 3 = (mkF m 0 #[.val (.ref a1), .val (.ref a1), .unset] []) := by first | (simp [entryFrame, mkF, argsToLocals, Value.category]; done) | rfl
set_option maxRecDepth 65536 in
set_option maxHeartbeats 40000000 in
theorem own_rm4s (l : Launch) (Z : State) (a0 : Array Value) (hw : ∀ d ∈ tables_1, d.before a0 Z = true) (h0 : Heap) (n0 : Nat) (Z0 : n0 ≤ h0.size) (a1 : Addr)  :
    own_C l Z (⟨"com/example/nullward/nullward/Elements", "equals", "(Ljava/lang/Object;)Z"⟩ : MethodName) prog_4_method_10_code 3 (some .boolean) [] ({ frames := 0, cells := 0, slots := 0, locals := 0 } : Room) #[(.ref a1), (.ref a1)] h0 (own_P (.int 1) h0) := by
  refine own_body own_pn4 (f0 := fun m => (mkF m 0 #[.val (.ref a1), .val (.ref a1), .unset] [])) (fun m => own_ef4s m a1) ?_
  intro p e s m below meth c s₁ hx hby hml hown hnm hret hlk hZ X0 e0
  change own_G p e below (own_F (own_P (.int 1) h0) s 0 0) s₁ (mkF m 0 #[.val (.ref a1), .val (.ref a1), .unset] [])
  have N0 := Fr.nil n0
  refine own_st (T' := s₁) (g' := (mkF m 1 #[.val (.ref a1), .val (.ref a1), .unset] [(.ref a1)])) (fun t k => XS.aloadN X0.here hx rfl (hb hby own_d4_0) rfl rfl k) ?_
  refine own_st (T' := s₁) (g' := (mkF m 2 #[.val (.ref a1), .val (.ref a1), .unset] [(.ref a1), (.ref a1)])) (fun t k => XS.aloadN X0.here hx rfl (hb hby own_d4_1) rfl rfl k) ?_
  have hk1 : a1 = a1 := rfl
  refine own_st (T' := s₁) (g' := (mkF m 72 #[.val (.ref a1), .val (.ref a1), .unset] [])) (fun t k => Jvm.RoadKit.acmp (g := (mkF m 2 #[.val (.ref a1), .val (.ref a1), .unset] [(.ref a1), (.ref a1)])) X0 hx rfl rfl rfl (pc0 := 2) (pc' := 72) (same := true) rfl (hb hby own_d4_2) rfl (decide_eq_true (congrArg Value.ref hk1)) (by decide) (by decide) k) ?_
  refine own_st (T' := s₁) (g' := (mkF m 73 #[.val (.ref a1), .val (.ref a1), .unset] [(.int (1 : Int32))])) (fun t k => XS.iconst X0.here hx rfl (hb hby own_d4_72) k) ?_
  refine own_st (T' := s₁) (g' := (mkF m 77 #[.val (.ref a1), .val (.ref a1), .unset] [(.int (1 : Int32))])) (fun t k => XS.goto X0.here hx rfl (pc0 := 73) (pc' := 77) rfl (hb hby own_d4_73) (by decide) (by decide) k) ?_
  exact own_retB X0 hx hlk hret (hb hby own_d4_77) (by decide) (by decide) rfl ⟨rfl, e0, rfl⟩
theorem own_d4_5 : decode prog_4_method_10_code 5 = .ok (.aload_n 1, 1) := by decide +kernel
theorem own_d4_6 : decode prog_4_method_10_code 6 = .ok (.instanceof 10, 3) := by decide +kernel
theorem own_d4_9 : decode prog_4_method_10_code 9 = .ok (.ifCond .eq 67, 3) := by decide +kernel
theorem own_d4_76 : decode prog_4_method_10_code 76 = .ok (.iconst 0, 1) := by decide +kernel
theorem own_ef4n (m : MethodId) (a1 : Addr) : entryFrame m #[(.ref a1), .null] 3 = (mkF m 0 #[.val (.ref a1), .val .null, .unset] []) := by first | (simp [entryFrame, mkF, argsToLocals, Value.category]; done) | rfl
set_option maxRecDepth 65536 in
set_option maxHeartbeats 40000000 in
theorem own_rm4n (l : Launch) (Z : State) (a0 : Array Value) (hw : ∀ d ∈ tables_1, d.before a0 Z = true) (h0 : Heap) (n0 : Nat) (Z0 : n0 ≤ h0.size) (a1 : Addr)  :
    own_C l Z (⟨"com/example/nullward/nullward/Elements", "equals", "(Ljava/lang/Object;)Z"⟩ : MethodName) prog_4_method_10_code 3 (some .boolean) [] ({ frames := 0, cells := 0, slots := 0, locals := 0 } : Room) #[(.ref a1), .null] h0 (own_P (.int 0) h0) := by
  refine own_body own_pn4 (f0 := fun m => (mkF m 0 #[.val (.ref a1), .val .null, .unset] [])) (fun m => own_ef4n m a1) ?_
  intro p e s m below meth c s₁ hx hby hml hown hnm hret hlk hZ X0 e0
  change own_G p e below (own_F (own_P (.int 0) h0) s 0 0) s₁ (mkF m 0 #[.val (.ref a1), .val .null, .unset] [])
  have N0 := Fr.nil n0
  refine own_st (T' := s₁) (g' := (mkF m 1 #[.val (.ref a1), .val .null, .unset] [.null])) (fun t k => XS.aloadN X0.here hx rfl (hb hby own_d4_0) rfl rfl k) ?_
  refine own_st (T' := s₁) (g' := (mkF m 2 #[.val (.ref a1), .val .null, .unset] [(.ref a1), .null])) (fun t k => XS.aloadN X0.here hx rfl (hb hby own_d4_1) rfl rfl k) ?_
  have hk1 : ¬ ((.null : Value) = (.ref a1)) := nofun
  refine own_st (T' := s₁) (g' := (mkF m 5 #[.val (.ref a1), .val .null, .unset] [])) (fun t k => Jvm.RoadKit.acmp (g := (mkF m 2 #[.val (.ref a1), .val .null, .unset] [(.ref a1), .null])) X0 hx rfl rfl rfl (pc0 := 2) (pc' := 5) (same := false) rfl (hb hby own_d4_2) rfl (decide_eq_false hk1) (by decide) (by decide) k) ?_
  refine own_st (T' := s₁) (g' := (mkF m 6 #[.val (.ref a1), .val .null, .unset] [.null])) (fun t k => XS.aloadN X0.here hx rfl (hb hby own_d4_5) rfl rfl k) ?_
  refine own_st (T' := s₁) (g' := (mkF m 9 #[.val (.ref a1), .val .null, .unset] [(.int (0 : Int32))])) (X0.instanceofNull hx (g := (mkF m 6 #[.val (.ref a1), .val .null, .unset] [.null])) rfl rfl (hb hby own_d4_6)) ?_
  refine own_st (T' := s₁) (g' := (mkF m 76 #[.val (.ref a1), .val .null, .unset] [])) (fun t k => XS.ifYes X0.here hx rfl (pc0 := 9) (pc' := 76) rfl (hb hby own_d4_9) rfl ((if0 _ _).trans (teq (by decide)).1) (by decide) (by decide) k) ?_
  refine own_st (T' := s₁) (g' := (mkF m 77 #[.val (.ref a1), .val .null, .unset] [(.int (0 : Int32))])) (fun t k => XS.iconst X0.here hx rfl (hb hby own_d4_76) k) ?_
  exact own_retB X0 hx hlk hret (hb hby own_d4_77) (by decide) (by decide) rfl ⟨rfl, e0, rfl⟩
theorem own_ef4i (m : MethodId) (a1 : Addr) (a2 : Addr) : entryFrame m #[(.ref a1), (.ref a2)] 3 = (mkF m 0 #[.val (.ref a1), .val (.ref a2), .unset] []) := by first | (simp [entryFrame, mkF, argsToLocals, Value.category]; done) | rfl
set_option maxRecDepth 65536 in
set_option maxHeartbeats 40000000 in
theorem own_rm4i (l : Launch) (Z : State) (a0 : Array Value) (hw : ∀ d ∈ tables_1, d.before a0 Z = true) (h0 : Heap) (n0 : Nat) (Z0 : n0 ≤ h0.size) (a1 : Addr) (a2 : Addr) (hne : ¬ a2 = a1) (E_a2 : Exa Z h0 a2 "java/lang/Integer") :
    own_C l Z (⟨"com/example/nullward/nullward/Elements", "equals", "(Ljava/lang/Object;)Z"⟩ : MethodName) prog_4_method_10_code 3 (some .boolean) [] ({ frames := 0, cells := 0, slots := 0, locals := 0 } : Room) #[(.ref a1), (.ref a2)] h0 (own_P (.int 0) h0) := by
  refine own_body own_pn4 (f0 := fun m => (mkF m 0 #[.val (.ref a1), .val (.ref a2), .unset] [])) (fun m => own_ef4i m a1 a2) ?_
  intro p e s m below meth c s₁ hx hby hml hown hnm hret hlk hZ X0 e0
  change own_G p e below (own_F (own_P (.int 0) h0) s 0 0) s₁ (mkF m 0 #[.val (.ref a1), .val (.ref a2), .unset] [])
  have N0 := Fr.nil n0
  refine own_st (T' := s₁) (g' := (mkF m 1 #[.val (.ref a1), .val (.ref a2), .unset] [(.ref a2)])) (fun t k => XS.aloadN X0.here hx rfl (hb hby own_d4_0) rfl rfl k) ?_
  refine own_st (T' := s₁) (g' := (mkF m 2 #[.val (.ref a1), .val (.ref a2), .unset] [(.ref a1), (.ref a2)])) (fun t k => XS.aloadN X0.here hx rfl (hb hby own_d4_1) rfl rfl k) ?_
  have hk1 : ¬ (a2 = a1) := hne
  refine own_st (T' := s₁) (g' := (mkF m 5 #[.val (.ref a1), .val (.ref a2), .unset] [])) (fun t k => Jvm.RoadKit.acmp (g := (mkF m 2 #[.val (.ref a1), .val (.ref a2), .unset] [(.ref a1), (.ref a2)])) X0 hx rfl rfl rfl (pc0 := 2) (pc' := 5) (same := false) rfl (hb hby own_d4_2) rfl (decide_eq_false fun z => hk1 (Value.ref.inj z)) (by decide) (by decide) k) ?_
  refine own_st (T' := s₁) (g' := (mkF m 6 #[.val (.ref a1), .val (.ref a2), .unset] [(.ref a2)])) (fun t k => XS.aloadN X0.here hx rfl (hb hby own_d4_5) rfl rfl k) ?_
  obtain ⟨T2, X2, e2, st2⟩ := instNo X0 hx hZ hown (hw _ (List.mem_of_getElem? (i := 29) rfl)) e0 E_a2 (own_na hw) (g := (mkF m 6 #[.val (.ref a1), .val (.ref a2), .unset] [(.ref a2)])) rfl rfl (hb hby own_d4_6)
  refine own_st (T' := T2) (g' := (mkF m 9 #[.val (.ref a1), .val (.ref a2), .unset] [(.int (0 : Int32))])) st2 ?_
  refine own_st (T' := T2) (g' := (mkF m 76 #[.val (.ref a1), .val (.ref a2), .unset] [])) (fun t k => XS.ifYes X2.here hx rfl (pc0 := 9) (pc' := 76) rfl (hb hby own_d4_9) rfl ((if0 _ _).trans (teq (by decide)).1) (by decide) (by decide) k) ?_
  refine own_st (T' := T2) (g' := (mkF m 77 #[.val (.ref a1), .val (.ref a2), .unset] [(.int (0 : Int32))])) (fun t k => XS.iconst X2.here hx rfl (hb hby own_d4_76) k) ?_
  exact own_retB X2 hx hlk hret (hb hby own_d4_77) (by decide) (by decide) rfl ⟨rfl, e2, rfl⟩
theorem own_d4_12 : decode prog_4_method_10_code 12 = .ok (.aload_n 1, 1) := by decide +kernel
theorem own_d4_13 : decode prog_4_method_10_code 13 = .ok (.checkcast 10, 3) := by decide +kernel
theorem own_d4_16 : decode prog_4_method_10_code 16 = .ok (.astore_n 2, 1) := by decide +kernel
theorem own_d4_17 : decode prog_4_method_10_code 17 = .ok (.aload_n 0, 1) := by decide +kernel
theorem own_d4_18 : decode prog_4_method_10_code 18 = .ok (.getfield 9, 3) := by decide +kernel
theorem own_d4_21 : decode prog_4_method_10_code 21 = .ok (.aload_n 2, 1) := by decide +kernel
theorem own_d4_22 : decode prog_4_method_10_code 22 = .ok (.getfield 9, 3) := by decide +kernel
theorem own_d4_25 : decode prog_4_method_10_code 25 = .ok (.if_icmp .ne 51, 3) := by decide +kernel
theorem own_d4_28 : decode prog_4_method_10_code 28 = .ok (.aload_n 0, 1) := by decide +kernel
theorem own_d4_29 : decode prog_4_method_10_code 29 = .ok (.getfield 15, 3) := by decide +kernel
theorem own_d4_32 : decode prog_4_method_10_code 32 = .ok (.aload_n 2, 1) := by decide +kernel
theorem own_d4_33 : decode prog_4_method_10_code 33 = .ok (.getfield 15, 3) := by decide +kernel
theorem own_d4_36 : decode prog_4_method_10_code 36 = .ok (.if_icmp .ne 40, 3) := by decide +kernel
theorem own_d4_39 : decode prog_4_method_10_code 39 = .ok (.aload_n 0, 1) := by decide +kernel
theorem own_d4_40 : decode prog_4_method_10_code 40 = .ok (.getfield 18, 3) := by decide +kernel
theorem own_d4_43 : decode prog_4_method_10_code 43 = .ok (.aload_n 2, 1) := by decide +kernel
theorem own_d4_44 : decode prog_4_method_10_code 44 = .ok (.getfield 18, 3) := by decide +kernel
theorem own_d4_47 : decode prog_4_method_10_code 47 = .ok (.if_icmp .ne 29, 3) := by decide +kernel
theorem own_d4_50 : decode prog_4_method_10_code 50 = .ok (.aload_n 0, 1) := by decide +kernel
theorem own_d4_51 : decode prog_4_method_10_code 51 = .ok (.getfield 21, 3) := by decide +kernel
theorem own_d4_54 : decode prog_4_method_10_code 54 = .ok (.aload_n 2, 1) := by decide +kernel
theorem own_d4_55 : decode prog_4_method_10_code 55 = .ok (.getfield 21, 3) := by decide +kernel
theorem own_d4_58 : decode prog_4_method_10_code 58 = .ok (.if_icmp .ne 18, 3) := by decide +kernel
theorem own_d4_61 : decode prog_4_method_10_code 61 = .ok (.aload_n 0, 1) := by decide +kernel
theorem own_d4_62 : decode prog_4_method_10_code 62 = .ok (.getfield 24, 3) := by decide +kernel
theorem own_d4_65 : decode prog_4_method_10_code 65 = .ok (.aload_n 2, 1) := by decide +kernel
theorem own_d4_66 : decode prog_4_method_10_code 66 = .ok (.getfield 24, 3) := by decide +kernel
theorem own_d4_69 : decode prog_4_method_10_code 69 = .ok (.if_icmp .ne 7, 3) := by decide +kernel
theorem own_ef4 (m : MethodId) (a1 : Addr) (a2 : Addr) : entryFrame m #[(.ref a1), (.ref a2)] 3 = (mkF m 0 #[.val (.ref a1), .val (.ref a2), .unset] []) := by first | (simp [entryFrame, mkF, argsToLocals, Value.category]; done) | rfl
set_option maxRecDepth 65536 in
set_option maxHeartbeats 40000000 in
theorem own_rm4 (l : Launch) (Z : State) (a0 : Array Value) (hw : ∀ d ∈ tables_1, d.before a0 Z = true) (h0 : Heap) (n0 : Nat) (Z0 : n0 ≤ h0.size) (a1 : Addr) (a2 : Addr) (hne : ¬ a2 = a1) (E_a2 : Exa Z h0 a2 "com/example/nullward/nullward/Elements") (x1 : Int32) (F_length_a1 : Fld Z h0 a1 "com/example/nullward/nullward/Elements" "length" "I" (.int x1)) (y1 : Int32) (F_length_a2 : Fld Z h0 a2 "com/example/nullward/nullward/Elements" "length" "I" (.int y1)) (x2 : Int32) (F_filled_a1 : Fld Z h0 a1 "com/example/nullward/nullward/Elements" "filled" "I" (.int x2)) (y2 : Int32) (F_filled_a2 : Fld Z h0 a2 "com/example/nullward/nullward/Elements" "filled" "I" (.int y2)) (x3 : Int32) (F_lengthLocal_a1 : Fld Z h0 a1 "com/example/nullward/nullward/Elements" "lengthLocal" "I" (.int x3)) (y3 : Int32) (F_lengthLocal_a2 : Fld Z h0 a2 "com/example/nullward/nullward/Elements" "lengthLocal" "I" (.int y3)) (x4 : Int32) (F_indexLocal_a1 : Fld Z h0 a1 "com/example/nullward/nullward/Elements" "indexLocal" "I" (.int x4)) (y4 : Int32) (F_indexLocal_a2 : Fld Z h0 a2 "com/example/nullward/nullward/Elements" "indexLocal" "I" (.int y4)) (x5 : Int32) (F_past_a1 : Fld Z h0 a1 "com/example/nullward/nullward/Elements" "past" "I" (.int x5)) (y5 : Int32) (F_past_a2 : Fld Z h0 a2 "com/example/nullward/nullward/Elements" "past" "I" (.int y5)) (r : Int32) (hr : r = own_eq x1 x2 x3 x4 x5 y1 y2 y3 y4 y5) :
    own_C l Z (⟨"com/example/nullward/nullward/Elements", "equals", "(Ljava/lang/Object;)Z"⟩ : MethodName) prog_4_method_10_code 3 (some .boolean) [] ({ frames := 0, cells := 0, slots := 0, locals := 0 } : Room) #[(.ref a1), (.ref a2)] h0 (own_P (.int r) h0) := by
  refine own_body own_pn4 (f0 := fun m => (mkF m 0 #[.val (.ref a1), .val (.ref a2), .unset] [])) (fun m => own_ef4 m a1 a2) ?_
  intro p e s m below meth c s₁ hx hby hml hown hnm hret hlk hZ X0 e0
  change own_G p e below (own_F (own_P (.int r) h0) s 0 0) s₁ (mkF m 0 #[.val (.ref a1), .val (.ref a2), .unset] [])
  have N0 := Fr.nil n0
  refine own_st (T' := s₁) (g' := (mkF m 1 #[.val (.ref a1), .val (.ref a2), .unset] [(.ref a2)])) (fun t k => XS.aloadN X0.here hx rfl (hb hby own_d4_0) rfl rfl k) ?_
  refine own_st (T' := s₁) (g' := (mkF m 2 #[.val (.ref a1), .val (.ref a2), .unset] [(.ref a1), (.ref a2)])) (fun t k => XS.aloadN X0.here hx rfl (hb hby own_d4_1) rfl rfl k) ?_
  have hk1 : ¬ (a2 = a1) := hne
  refine own_st (T' := s₁) (g' := (mkF m 5 #[.val (.ref a1), .val (.ref a2), .unset] [])) (fun t k => Jvm.RoadKit.acmp (g := (mkF m 2 #[.val (.ref a1), .val (.ref a2), .unset] [(.ref a1), (.ref a2)])) X0 hx rfl rfl rfl (pc0 := 2) (pc' := 5) (same := false) rfl (hb hby own_d4_2) rfl (decide_eq_false fun z => hk1 (Value.ref.inj z)) (by decide) (by decide) k) ?_
  refine own_st (T' := s₁) (g' := (mkF m 6 #[.val (.ref a1), .val (.ref a2), .unset] [(.ref a2)])) (fun t k => XS.aloadN X0.here hx rfl (hb hby own_d4_5) rfl rfl k) ?_
  obtain ⟨T2, X2, e2, st2⟩ := instY X0 hx hZ hown (hw _ (List.mem_of_getElem? (i := 29) rfl)) e0 (Ins.self E_a2) (g := (mkF m 6 #[.val (.ref a1), .val (.ref a2), .unset] [(.ref a2)])) rfl rfl (hb hby own_d4_6)
  refine own_st (T' := T2) (g' := (mkF m 9 #[.val (.ref a1), .val (.ref a2), .unset] [(.int (1 : Int32))])) st2 ?_
  refine own_st (T' := T2) (g' := (mkF m 12 #[.val (.ref a1), .val (.ref a2), .unset] [])) (fun t k => XS.ifNo X2.here hx rfl (hb hby own_d4_9) rfl ((if0 _ _).trans (feq (by decide)).1) k) ?_
  refine own_st (T' := T2) (g' := (mkF m 13 #[.val (.ref a1), .val (.ref a2), .unset] [(.ref a2)])) (fun t k => XS.aloadN X2.here hx rfl (hb hby own_d4_12) rfl rfl k) ?_
  obtain ⟨T3, X3, e3, st3⟩ := castY X2 hx hZ hown (hw _ (List.mem_of_getElem? (i := 29) rfl)) e2 (Ins.self E_a2) (g := (mkF m 13 #[.val (.ref a1), .val (.ref a2), .unset] [(.ref a2)])) rfl rfl (hb hby own_d4_13)
  refine own_st (T' := T3) (g' := (mkF m 16 #[.val (.ref a1), .val (.ref a2), .unset] [(.ref a2)])) st3 ?_
  refine own_st (T' := T3) (g' := (mkF m 17 #[.val (.ref a1), .val (.ref a2), .val (.ref a2)] [])) (fun t k => XS.astoreN X3.here hx rfl (hb hby own_d4_16) rfl rfl (l' := #[.val (.ref a1), .val (.ref a2), .val (.ref a2)]) rfl k) ?_
  refine own_st (T' := T3) (g' := (mkF m 18 #[.val (.ref a1), .val (.ref a2), .val (.ref a2)] [(.ref a1)])) (fun t k => XS.aloadN X3.here hx rfl (hb hby own_d4_17) rfl rfl k) ?_
  obtain ⟨T4, X4, e4, st4⟩ := getF X3 hx hZ hown (host := "") (Or.inl (hw _ (List.mem_of_getElem? (i := 14) rfl))) Via.refl e3 F_length_a1 (g := (mkF m 18 #[.val (.ref a1), .val (.ref a2), .val (.ref a2)] [(.ref a1)])) rfl rfl (hb hby own_d4_18)
  refine own_st (T' := T4) (g' := (mkF m 21 #[.val (.ref a1), .val (.ref a2), .val (.ref a2)] [(.int x1)])) st4 ?_
  refine own_st (T' := T4) (g' := (mkF m 22 #[.val (.ref a1), .val (.ref a2), .val (.ref a2)] [(.ref a2), (.int x1)])) (fun t k => XS.aloadN X4.here hx rfl (hb hby own_d4_21) rfl rfl k) ?_
  obtain ⟨T5, X5, e5, st5⟩ := getF X4 hx hZ hown (host := "") (Or.inl (hw _ (List.mem_of_getElem? (i := 14) rfl))) Via.refl e4 F_length_a2 (g := (mkF m 22 #[.val (.ref a1), .val (.ref a2), .val (.ref a2)] [(.ref a2), (.int x1)])) rfl rfl (hb hby own_d4_22)
  refine own_st (T' := T5) (g' := (mkF m 25 #[.val (.ref a1), .val (.ref a2), .val (.ref a2)] [(.int y1), (.int x1)])) st5 ?_
  have K7 : ∀ (T7 : State) (X7 : Stand p l e ({ frames := 0, cells := 0, slots := 0, locals := 0 } : Room) s m #[(.ref a1), (.ref a2)] below meth c T7 [] 0 0) (e7 : T7.heap = h0) (v8 : Int32) (hv8 : v8 = (if x1 = y1 then (if x2 = y2 then (if x3 = y3 then (if x4 = y4 then (if x5 = y5 then (1 : Int32) else (0 : Int32)) else (0 : Int32)) else (0 : Int32)) else (0 : Int32)) else (0 : Int32))), own_G p e below (own_F (own_P (.int r) h0) s 0 0) T7 (mkF m 77 #[.val (.ref a1), .val (.ref a2), .val (.ref a2)] [(.int v8)]) := by
    intro T7 X7 e7 v8 hv8
    exact own_retB X7 hx hlk hret (hb hby own_d4_77) (by decide) (by decide) (own_nar (by rw [hv8]; exact (own_01 (own_01 (own_01 (own_01 (own_01 (Or.inr rfl) (Or.inl rfl)) (Or.inl rfl)) (Or.inl rfl)) (Or.inl rfl)) (Or.inl rfl)))) ⟨by rw [hr, hv8]; rfl, e7, rfl⟩
  by_cases hc25_6 : x1 = y1
  ·
    refine own_st (T' := T5) (g' := (mkF m 28 #[.val (.ref a1), .val (.ref a2), .val (.ref a2)] [])) (fun t k => XS.icmpNo X5.here hx rfl (hb hby own_d4_25) rfl (teq hc25_6).2 k) ?_
    refine own_st (T' := T5) (g' := (mkF m 29 #[.val (.ref a1), .val (.ref a2), .val (.ref a2)] [(.ref a1)])) (fun t k => XS.aloadN X5.here hx rfl (hb hby own_d4_28) rfl rfl k) ?_
    obtain ⟨T9, X9, e9, st9⟩ := getF X5 hx hZ hown (host := "") (Or.inl (hw _ (List.mem_of_getElem? (i := 16) rfl))) Via.refl e5 F_filled_a1 (g := (mkF m 29 #[.val (.ref a1), .val (.ref a2), .val (.ref a2)] [(.ref a1)])) rfl rfl (hb hby own_d4_29)
    refine own_st (T' := T9) (g' := (mkF m 32 #[.val (.ref a1), .val (.ref a2), .val (.ref a2)] [(.int x2)])) st9 ?_
    refine own_st (T' := T9) (g' := (mkF m 33 #[.val (.ref a1), .val (.ref a2), .val (.ref a2)] [(.ref a2), (.int x2)])) (fun t k => XS.aloadN X9.here hx rfl (hb hby own_d4_32) rfl rfl k) ?_
    obtain ⟨T10, X10, e10, st10⟩ := getF X9 hx hZ hown (host := "") (Or.inl (hw _ (List.mem_of_getElem? (i := 16) rfl))) Via.refl e9 F_filled_a2 (g := (mkF m 33 #[.val (.ref a1), .val (.ref a2), .val (.ref a2)] [(.ref a2), (.int x2)])) rfl rfl (hb hby own_d4_33)
    refine own_st (T' := T10) (g' := (mkF m 36 #[.val (.ref a1), .val (.ref a2), .val (.ref a2)] [(.int y2), (.int x2)])) st10 ?_
    by_cases hc36_11 : x2 = y2
    ·
      refine own_st (T' := T10) (g' := (mkF m 39 #[.val (.ref a1), .val (.ref a2), .val (.ref a2)] [])) (fun t k => XS.icmpNo X10.here hx rfl (hb hby own_d4_36) rfl (teq hc36_11).2 k) ?_
      refine own_st (T' := T10) (g' := (mkF m 40 #[.val (.ref a1), .val (.ref a2), .val (.ref a2)] [(.ref a1)])) (fun t k => XS.aloadN X10.here hx rfl (hb hby own_d4_39) rfl rfl k) ?_
      obtain ⟨T12, X12, e12, st12⟩ := getF X10 hx hZ hown (host := "") (Or.inl (hw _ (List.mem_of_getElem? (i := 18) rfl))) Via.refl e10 F_lengthLocal_a1 (g := (mkF m 40 #[.val (.ref a1), .val (.ref a2), .val (.ref a2)] [(.ref a1)])) rfl rfl (hb hby own_d4_40)
      refine own_st (T' := T12) (g' := (mkF m 43 #[.val (.ref a1), .val (.ref a2), .val (.ref a2)] [(.int x3)])) st12 ?_
      refine own_st (T' := T12) (g' := (mkF m 44 #[.val (.ref a1), .val (.ref a2), .val (.ref a2)] [(.ref a2), (.int x3)])) (fun t k => XS.aloadN X12.here hx rfl (hb hby own_d4_43) rfl rfl k) ?_
      obtain ⟨T13, X13, e13, st13⟩ := getF X12 hx hZ hown (host := "") (Or.inl (hw _ (List.mem_of_getElem? (i := 18) rfl))) Via.refl e12 F_lengthLocal_a2 (g := (mkF m 44 #[.val (.ref a1), .val (.ref a2), .val (.ref a2)] [(.ref a2), (.int x3)])) rfl rfl (hb hby own_d4_44)
      refine own_st (T' := T13) (g' := (mkF m 47 #[.val (.ref a1), .val (.ref a2), .val (.ref a2)] [(.int y3), (.int x3)])) st13 ?_
      by_cases hc47_14 : x3 = y3
      ·
        refine own_st (T' := T13) (g' := (mkF m 50 #[.val (.ref a1), .val (.ref a2), .val (.ref a2)] [])) (fun t k => XS.icmpNo X13.here hx rfl (hb hby own_d4_47) rfl (teq hc47_14).2 k) ?_
        refine own_st (T' := T13) (g' := (mkF m 51 #[.val (.ref a1), .val (.ref a2), .val (.ref a2)] [(.ref a1)])) (fun t k => XS.aloadN X13.here hx rfl (hb hby own_d4_50) rfl rfl k) ?_
        obtain ⟨T15, X15, e15, st15⟩ := getF X13 hx hZ hown (host := "") (Or.inl (hw _ (List.mem_of_getElem? (i := 20) rfl))) Via.refl e13 F_indexLocal_a1 (g := (mkF m 51 #[.val (.ref a1), .val (.ref a2), .val (.ref a2)] [(.ref a1)])) rfl rfl (hb hby own_d4_51)
        refine own_st (T' := T15) (g' := (mkF m 54 #[.val (.ref a1), .val (.ref a2), .val (.ref a2)] [(.int x4)])) st15 ?_
        refine own_st (T' := T15) (g' := (mkF m 55 #[.val (.ref a1), .val (.ref a2), .val (.ref a2)] [(.ref a2), (.int x4)])) (fun t k => XS.aloadN X15.here hx rfl (hb hby own_d4_54) rfl rfl k) ?_
        obtain ⟨T16, X16, e16, st16⟩ := getF X15 hx hZ hown (host := "") (Or.inl (hw _ (List.mem_of_getElem? (i := 20) rfl))) Via.refl e15 F_indexLocal_a2 (g := (mkF m 55 #[.val (.ref a1), .val (.ref a2), .val (.ref a2)] [(.ref a2), (.int x4)])) rfl rfl (hb hby own_d4_55)
        refine own_st (T' := T16) (g' := (mkF m 58 #[.val (.ref a1), .val (.ref a2), .val (.ref a2)] [(.int y4), (.int x4)])) st16 ?_
        by_cases hc58_17 : x4 = y4
        ·
          refine own_st (T' := T16) (g' := (mkF m 61 #[.val (.ref a1), .val (.ref a2), .val (.ref a2)] [])) (fun t k => XS.icmpNo X16.here hx rfl (hb hby own_d4_58) rfl (teq hc58_17).2 k) ?_
          refine own_st (T' := T16) (g' := (mkF m 62 #[.val (.ref a1), .val (.ref a2), .val (.ref a2)] [(.ref a1)])) (fun t k => XS.aloadN X16.here hx rfl (hb hby own_d4_61) rfl rfl k) ?_
          obtain ⟨T18, X18, e18, st18⟩ := getF X16 hx hZ hown (host := "") (Or.inl (hw _ (List.mem_of_getElem? (i := 22) rfl))) Via.refl e16 F_past_a1 (g := (mkF m 62 #[.val (.ref a1), .val (.ref a2), .val (.ref a2)] [(.ref a1)])) rfl rfl (hb hby own_d4_62)
          refine own_st (T' := T18) (g' := (mkF m 65 #[.val (.ref a1), .val (.ref a2), .val (.ref a2)] [(.int x5)])) st18 ?_
          refine own_st (T' := T18) (g' := (mkF m 66 #[.val (.ref a1), .val (.ref a2), .val (.ref a2)] [(.ref a2), (.int x5)])) (fun t k => XS.aloadN X18.here hx rfl (hb hby own_d4_65) rfl rfl k) ?_
          obtain ⟨T19, X19, e19, st19⟩ := getF X18 hx hZ hown (host := "") (Or.inl (hw _ (List.mem_of_getElem? (i := 22) rfl))) Via.refl e18 F_past_a2 (g := (mkF m 66 #[.val (.ref a1), .val (.ref a2), .val (.ref a2)] [(.ref a2), (.int x5)])) rfl rfl (hb hby own_d4_66)
          refine own_st (T' := T19) (g' := (mkF m 69 #[.val (.ref a1), .val (.ref a2), .val (.ref a2)] [(.int y5), (.int x5)])) st19 ?_
          by_cases hc69_20 : x5 = y5
          ·
            refine own_st (T' := T19) (g' := (mkF m 72 #[.val (.ref a1), .val (.ref a2), .val (.ref a2)] [])) (fun t k => XS.icmpNo X19.here hx rfl (hb hby own_d4_69) rfl (teq hc69_20).2 k) ?_
            refine own_st (T' := T19) (g' := (mkF m 73 #[.val (.ref a1), .val (.ref a2), .val (.ref a2)] [(.int (1 : Int32))])) (fun t k => XS.iconst X19.here hx rfl (hb hby own_d4_72) k) ?_
            refine own_st (T' := T19) (g' := (mkF m 77 #[.val (.ref a1), .val (.ref a2), .val (.ref a2)] [(.int (1 : Int32))])) (fun t k => XS.goto X19.here hx rfl (pc0 := 73) (pc' := 77) rfl (hb hby own_d4_73) (by decide) (by decide) k) ?_
            exact K7 T19 X19 e19 _ ((if_pos hc25_6).trans ((if_pos hc36_11).trans ((if_pos hc47_14).trans ((if_pos hc58_17).trans (if_pos hc69_20))))).symm
          ·
            refine own_st (T' := T19) (g' := (mkF m 76 #[.val (.ref a1), .val (.ref a2), .val (.ref a2)] [])) (fun t k => XS.icmpYes X19.here hx rfl (pc0 := 69) (pc' := 76) rfl (hb hby own_d4_69) rfl (feq hc69_20).2 (by decide) (by decide) k) ?_
            refine own_st (T' := T19) (g' := (mkF m 77 #[.val (.ref a1), .val (.ref a2), .val (.ref a2)] [(.int (0 : Int32))])) (fun t k => XS.iconst X19.here hx rfl (hb hby own_d4_76) k) ?_
            exact K7 T19 X19 e19 _ ((if_pos hc25_6).trans ((if_pos hc36_11).trans ((if_pos hc47_14).trans ((if_pos hc58_17).trans (if_neg hc69_20))))).symm
        ·
          refine own_st (T' := T16) (g' := (mkF m 76 #[.val (.ref a1), .val (.ref a2), .val (.ref a2)] [])) (fun t k => XS.icmpYes X16.here hx rfl (pc0 := 58) (pc' := 76) rfl (hb hby own_d4_58) rfl (feq hc58_17).2 (by decide) (by decide) k) ?_
          refine own_st (T' := T16) (g' := (mkF m 77 #[.val (.ref a1), .val (.ref a2), .val (.ref a2)] [(.int (0 : Int32))])) (fun t k => XS.iconst X16.here hx rfl (hb hby own_d4_76) k) ?_
          exact K7 T16 X16 e16 _ ((if_pos hc25_6).trans ((if_pos hc36_11).trans ((if_pos hc47_14).trans (if_neg hc58_17)))).symm
      ·
        refine own_st (T' := T13) (g' := (mkF m 76 #[.val (.ref a1), .val (.ref a2), .val (.ref a2)] [])) (fun t k => XS.icmpYes X13.here hx rfl (pc0 := 47) (pc' := 76) rfl (hb hby own_d4_47) rfl (feq hc47_14).2 (by decide) (by decide) k) ?_
        refine own_st (T' := T13) (g' := (mkF m 77 #[.val (.ref a1), .val (.ref a2), .val (.ref a2)] [(.int (0 : Int32))])) (fun t k => XS.iconst X13.here hx rfl (hb hby own_d4_76) k) ?_
        exact K7 T13 X13 e13 _ ((if_pos hc25_6).trans ((if_pos hc36_11).trans (if_neg hc47_14))).symm
    ·
      refine own_st (T' := T10) (g' := (mkF m 76 #[.val (.ref a1), .val (.ref a2), .val (.ref a2)] [])) (fun t k => XS.icmpYes X10.here hx rfl (pc0 := 36) (pc' := 76) rfl (hb hby own_d4_36) rfl (feq hc36_11).2 (by decide) (by decide) k) ?_
      refine own_st (T' := T10) (g' := (mkF m 77 #[.val (.ref a1), .val (.ref a2), .val (.ref a2)] [(.int (0 : Int32))])) (fun t k => XS.iconst X10.here hx rfl (hb hby own_d4_76) k) ?_
      exact K7 T10 X10 e10 _ ((if_pos hc25_6).trans (if_neg hc36_11)).symm
  ·
    refine own_st (T' := T5) (g' := (mkF m 76 #[.val (.ref a1), .val (.ref a2), .val (.ref a2)] [])) (fun t k => XS.icmpYes X5.here hx rfl (pc0 := 25) (pc' := 76) rfl (hb hby own_d4_25) rfl (feq hc25_6).2 (by decide) (by decide) k) ?_
    refine own_st (T' := T5) (g' := (mkF m 77 #[.val (.ref a1), .val (.ref a2), .val (.ref a2)] [(.int (0 : Int32))])) (fun t k => XS.iconst X5.here hx rfl (hb hby own_d4_76) k) ?_
    exact K7 T5 X5 e5 _ (if_neg hc25_6).symm
theorem own_pn0 : plainFor x = true := plainFor_of_name (show plainName "com/example/nullward/nullward/ElementsEqualsPinLaw" = true by first | (simp [plainName, overriddenIn]; done) | decide +kernel)
theorem own_ef0 (m : MethodId) (p1 : Int32) (p2 : Int32) (p3 : Int32) (p4 : Int32) (p5 : Int32) (p6 : Int32) : entryFrame m #[(.int p1), (.int p2), (.int p3), (.int p4), (.int p5), (.int p6)] maxLocals = (mkF m 0 #[.val (.int p1), .val (.int p2), .val (.int p3), .val (.int p4), .val (.int p5), .val (.int p6), .unset, .unset, .unset, .unset, .unset, .unset, .unset, .unset, .unset, .unset] []) := by first | (simp [entryFrame, mkF, argsToLocals, Value.category, maxLocals]; done) | rfl
set_option maxRecDepth 65536 in
set_option maxHeartbeats 40000000 in
theorem own_rm0 (l : Launch) (Z : State) (a0 : Array Value) (hw : ∀ d ∈ tables_1, d.before a0 Z = true) (h0 : Heap)     (n0 : Nat) (Z0 : n0 ≤ h0.size) (p1 : Int32) (p2 : Int32) (p3 : Int32) (p4 : Int32) (p5 : Int32) (p6 : Int32) (O : Old Z n0 h0) (s_cache : Addr) (cc : Cell) (S_high : Sta Z Z.heap "java/lang/Integer$IntegerCache" "high" "I" (.int 127)) (S_cache : Sta Z Z.heap "java/lang/Integer$IntegerCache" "cache" "[Ljava/lang/Integer;" (.ref s_cache)) (B_cache : Bxs Z s_cache cc "java/lang/Integer" "I" 256 (fun j => .int (j - 128))) :
    own_C l Z x code maxLocals ret tables_1 room_1 #[(.int p1), (.int p2), (.int p3), (.int p4), (.int p5), (.int p6)] h0 (own_qr (.int 1) n0) := by
  refine own_body own_pn0 (f0 := fun m => (mkF m 0 #[.val (.int p1), .val (.int p2), .val (.int p3), .val (.int p4), .val (.int p5), .val (.int p6), .unset, .unset, .unset, .unset, .unset, .unset, .unset, .unset, .unset, .unset] [])) (fun m => own_ef0 m p1 p2 p3 p4 p5 p6) ?_
  intro p e s m below meth c s₁ hx hby hml hown hnm hret hlk hZ X0 e0
  change own_G p e below (own_F (own_qr (.int 1) n0) s room_1.cells room_1.slots) s₁ (mkF m 0 #[.val (.int p1), .val (.int p2), .val (.int p3), .val (.int p4), .val (.int p5), .val (.int p6), .unset, .unset, .unset, .unset, .unset, .unset, .unset, .unset, .unset, .unset] [])
  have N0 := Fr.nil n0
  refine own_st (T' := s₁) (g' := (mkF m 2 #[.val (.int p1), .val (.int p2), .val (.int p3), .val (.int p4), .val (.int p5), .val (.int p6), .unset, .unset, .unset, .unset, .unset, .unset, .unset, .unset, .unset, .unset] [(.int p6)])) (fun t k => XS.iload X0.here hx rfl (hb hby at_0) rfl k) ?_
  refine own_st (T' := s₁) (g' := (mkF m 4 #[.val (.int p1), .val (.int p2), .val (.int p3), .val (.int p4), .val (.int p5), .val (.int p6), .unset, .unset, .unset, .unset, .unset, .unset, .unset, .unset, .unset, .unset] [(.int (8 : Int32)), (.int p6)])) (fun t k => XS.bipush X0.here hx rfl (hb hby at_2) k) ?_
  refine own_st (T' := s₁) (g' := (mkF m 5 #[.val (.int p1), .val (.int p2), .val (.int p3), .val (.int p4), .val (.int p5), .val (.int p6), .unset, .unset, .unset, .unset, .unset, .unset, .unset, .unset, .unset, .unset] [(.int ((p6.toUInt32 >>> ((8 : Int32) &&& 31).toUInt32).toInt32))])) (fun t k => XS.iushr X0.here hx rfl (hb hby at_4) rfl k) ?_
  refine own_st (T' := s₁) (g' := (mkF m 6 #[.val (.int p1), .val (.int p2), .val (.int p3), .val (.int p4), .val (.int p5), .val (.int p6), .unset, .unset, .unset, .unset, .unset, .unset, .unset, .unset, .unset, .unset] [(.int (1 : Int32)), (.int ((p6.toUInt32 >>> ((8 : Int32) &&& 31).toUInt32).toInt32))])) (fun t k => XS.iconst X0.here hx rfl (hb hby at_5) k) ?_
  refine own_st (T' := s₁) (g' := (mkF m 7 #[.val (.int p1), .val (.int p2), .val (.int p3), .val (.int p4), .val (.int p5), .val (.int p6), .unset, .unset, .unset, .unset, .unset, .unset, .unset, .unset, .unset, .unset] [(.int (((p6.toUInt32 >>> ((8 : Int32) &&& 31).toUInt32).toInt32) ||| (1 : Int32)))])) (fun t k => XS.ior X0.here hx rfl (hb hby at_6) rfl k) ?_
  refine own_st (T' := s₁) (g' := (mkF m 9 #[.val (.int p1), .val (.int p2), .val (.int p3), .val (.int p4), .val (.int p5), .val (.int p6), .val (.int (((p6.toUInt32 >>> ((8 : Int32) &&& 31).toUInt32).toInt32) ||| (1 : Int32))), .unset, .unset, .unset, .unset, .unset, .unset, .unset, .unset, .unset] [])) (fun t k => XS.istore X0.here hx rfl (hb hby at_7) rfl (l' := #[.val (.int p1), .val (.int p2), .val (.int p3), .val (.int p4), .val (.int p5), .val (.int p6), .val (.int (((p6.toUInt32 >>> ((8 : Int32) &&& 31).toUInt32).toInt32) ||| (1 : Int32))), .unset, .unset, .unset, .unset, .unset, .unset, .unset, .unset, .unset]) rfl k) ?_
  refine own_st (T' := s₁) (g' := (mkF m 11 #[.val (.int p1), .val (.int p2), .val (.int p3), .val (.int p4), .val (.int p5), .val (.int p6), .val (.int (((p6.toUInt32 >>> ((8 : Int32) &&& 31).toUInt32).toInt32) ||| (1 : Int32))), .unset, .unset, .unset, .unset, .unset, .unset, .unset, .unset, .unset] [(.int p6)])) (fun t k => XS.iload X0.here hx rfl (hb hby at_9) rfl k) ?_
  refine own_st (T' := s₁) (g' := (mkF m 12 #[.val (.int p1), .val (.int p2), .val (.int p3), .val (.int p4), .val (.int p5), .val (.int p6), .val (.int (((p6.toUInt32 >>> ((8 : Int32) &&& 31).toUInt32).toInt32) ||| (1 : Int32))), .unset, .unset, .unset, .unset, .unset, .unset, .unset, .unset, .unset] [(.int (1 : Int32)), (.int p6)])) (fun t k => XS.iconst X0.here hx rfl (hb hby at_11) k) ?_
  refine own_st (T' := s₁) (g' := (mkF m 13 #[.val (.int p1), .val (.int p2), .val (.int p3), .val (.int p4), .val (.int p5), .val (.int p6), .val (.int (((p6.toUInt32 >>> ((8 : Int32) &&& 31).toUInt32).toInt32) ||| (1 : Int32))), .unset, .unset, .unset, .unset, .unset, .unset, .unset, .unset, .unset] [(.int (p6 &&& (1 : Int32)))])) (fun t k => XS.iand X0.here hx rfl (hb hby at_12) rfl k) ?_
  have K2 : ∀ (v3 : Int32) (hv3 : v3 = (if (p6 &&& (1 : Int32)) = (0 : Int32) then p1 else (p1 ^^^ (((p6.toUInt32 >>> ((8 : Int32) &&& 31).toUInt32).toInt32) ||| (1 : Int32))))), own_G p e below (own_F (own_qr (.int 1) n0) s room_1.cells room_1.slots) s₁ (mkF m 24 #[.val (.int p1), .val (.int p2), .val (.int p3), .val (.int p4), .val (.int p5), .val (.int p6), .val (.int (((p6.toUInt32 >>> ((8 : Int32) &&& 31).toUInt32).toInt32) ||| (1 : Int32))), .unset, .unset, .unset, .unset, .unset, .unset, .unset, .unset, .unset] [(.int v3)]) := by
    intro v3 hv3
    refine own_st (T' := s₁) (g' := (mkF m 26 #[.val (.int p1), .val (.int p2), .val (.int p3), .val (.int p4), .val (.int p5), .val (.int p6), .val (.int (((p6.toUInt32 >>> ((8 : Int32) &&& 31).toUInt32).toInt32) ||| (1 : Int32))), .val (.int v3), .unset, .unset, .unset, .unset, .unset, .unset, .unset, .unset] [])) (fun t k => XS.istore X0.here hx rfl (hb hby at_24) rfl (l' := #[.val (.int p1), .val (.int p2), .val (.int p3), .val (.int p4), .val (.int p5), .val (.int p6), .val (.int (((p6.toUInt32 >>> ((8 : Int32) &&& 31).toUInt32).toInt32) ||| (1 : Int32))), .val (.int v3), .unset, .unset, .unset, .unset, .unset, .unset, .unset, .unset]) rfl k) ?_
    refine own_st (T' := s₁) (g' := (mkF m 28 #[.val (.int p1), .val (.int p2), .val (.int p3), .val (.int p4), .val (.int p5), .val (.int p6), .val (.int (((p6.toUInt32 >>> ((8 : Int32) &&& 31).toUInt32).toInt32) ||| (1 : Int32))), .val (.int v3), .unset, .unset, .unset, .unset, .unset, .unset, .unset, .unset] [(.int p6)])) (fun t k => XS.iload X0.here hx rfl (hb hby at_26) rfl k) ?_
    refine own_st (T' := s₁) (g' := (mkF m 29 #[.val (.int p1), .val (.int p2), .val (.int p3), .val (.int p4), .val (.int p5), .val (.int p6), .val (.int (((p6.toUInt32 >>> ((8 : Int32) &&& 31).toUInt32).toInt32) ||| (1 : Int32))), .val (.int v3), .unset, .unset, .unset, .unset, .unset, .unset, .unset, .unset] [(.int (2 : Int32)), (.int p6)])) (fun t k => XS.iconst X0.here hx rfl (hb hby at_28) k) ?_
    refine own_st (T' := s₁) (g' := (mkF m 30 #[.val (.int p1), .val (.int p2), .val (.int p3), .val (.int p4), .val (.int p5), .val (.int p6), .val (.int (((p6.toUInt32 >>> ((8 : Int32) &&& 31).toUInt32).toInt32) ||| (1 : Int32))), .val (.int v3), .unset, .unset, .unset, .unset, .unset, .unset, .unset, .unset] [(.int (p6 &&& (2 : Int32)))])) (fun t k => XS.iand X0.here hx rfl (hb hby at_29) rfl k) ?_
    have K5 : ∀ (v6 : Int32) (hv6 : v6 = (if (p6 &&& (2 : Int32)) = (0 : Int32) then p2 else (p2 ^^^ (((p6.toUInt32 >>> ((8 : Int32) &&& 31).toUInt32).toInt32) ||| (1 : Int32))))), own_G p e below (own_F (own_qr (.int 1) n0) s room_1.cells room_1.slots) s₁ (mkF m 41 #[.val (.int p1), .val (.int p2), .val (.int p3), .val (.int p4), .val (.int p5), .val (.int p6), .val (.int (((p6.toUInt32 >>> ((8 : Int32) &&& 31).toUInt32).toInt32) ||| (1 : Int32))), .val (.int v3), .unset, .unset, .unset, .unset, .unset, .unset, .unset, .unset] [(.int v6)]) := by
      intro v6 hv6
      refine own_st (T' := s₁) (g' := (mkF m 43 #[.val (.int p1), .val (.int p2), .val (.int p3), .val (.int p4), .val (.int p5), .val (.int p6), .val (.int (((p6.toUInt32 >>> ((8 : Int32) &&& 31).toUInt32).toInt32) ||| (1 : Int32))), .val (.int v3), .val (.int v6), .unset, .unset, .unset, .unset, .unset, .unset, .unset] [])) (fun t k => XS.istore X0.here hx rfl (hb hby at_41) rfl (l' := #[.val (.int p1), .val (.int p2), .val (.int p3), .val (.int p4), .val (.int p5), .val (.int p6), .val (.int (((p6.toUInt32 >>> ((8 : Int32) &&& 31).toUInt32).toInt32) ||| (1 : Int32))), .val (.int v3), .val (.int v6), .unset, .unset, .unset, .unset, .unset, .unset, .unset]) rfl k) ?_
      refine own_st (T' := s₁) (g' := (mkF m 45 #[.val (.int p1), .val (.int p2), .val (.int p3), .val (.int p4), .val (.int p5), .val (.int p6), .val (.int (((p6.toUInt32 >>> ((8 : Int32) &&& 31).toUInt32).toInt32) ||| (1 : Int32))), .val (.int v3), .val (.int v6), .unset, .unset, .unset, .unset, .unset, .unset, .unset] [(.int p6)])) (fun t k => XS.iload X0.here hx rfl (hb hby at_43) rfl k) ?_
      refine own_st (T' := s₁) (g' := (mkF m 46 #[.val (.int p1), .val (.int p2), .val (.int p3), .val (.int p4), .val (.int p5), .val (.int p6), .val (.int (((p6.toUInt32 >>> ((8 : Int32) &&& 31).toUInt32).toInt32) ||| (1 : Int32))), .val (.int v3), .val (.int v6), .unset, .unset, .unset, .unset, .unset, .unset, .unset] [(.int (4 : Int32)), (.int p6)])) (fun t k => XS.iconst X0.here hx rfl (hb hby at_45) k) ?_
      refine own_st (T' := s₁) (g' := (mkF m 47 #[.val (.int p1), .val (.int p2), .val (.int p3), .val (.int p4), .val (.int p5), .val (.int p6), .val (.int (((p6.toUInt32 >>> ((8 : Int32) &&& 31).toUInt32).toInt32) ||| (1 : Int32))), .val (.int v3), .val (.int v6), .unset, .unset, .unset, .unset, .unset, .unset, .unset] [(.int (p6 &&& (4 : Int32)))])) (fun t k => XS.iand X0.here hx rfl (hb hby at_46) rfl k) ?_
      have K8 : ∀ (v9 : Int32) (hv9 : v9 = (if (p6 &&& (4 : Int32)) = (0 : Int32) then p3 else (p3 ^^^ (((p6.toUInt32 >>> ((8 : Int32) &&& 31).toUInt32).toInt32) ||| (1 : Int32))))), own_G p e below (own_F (own_qr (.int 1) n0) s room_1.cells room_1.slots) s₁ (mkF m 58 #[.val (.int p1), .val (.int p2), .val (.int p3), .val (.int p4), .val (.int p5), .val (.int p6), .val (.int (((p6.toUInt32 >>> ((8 : Int32) &&& 31).toUInt32).toInt32) ||| (1 : Int32))), .val (.int v3), .val (.int v6), .unset, .unset, .unset, .unset, .unset, .unset, .unset] [(.int v9)]) := by
        intro v9 hv9
        refine own_st (T' := s₁) (g' := (mkF m 60 #[.val (.int p1), .val (.int p2), .val (.int p3), .val (.int p4), .val (.int p5), .val (.int p6), .val (.int (((p6.toUInt32 >>> ((8 : Int32) &&& 31).toUInt32).toInt32) ||| (1 : Int32))), .val (.int v3), .val (.int v6), .val (.int v9), .unset, .unset, .unset, .unset, .unset, .unset] [])) (fun t k => XS.istore X0.here hx rfl (hb hby at_58) rfl (l' := #[.val (.int p1), .val (.int p2), .val (.int p3), .val (.int p4), .val (.int p5), .val (.int p6), .val (.int (((p6.toUInt32 >>> ((8 : Int32) &&& 31).toUInt32).toInt32) ||| (1 : Int32))), .val (.int v3), .val (.int v6), .val (.int v9), .unset, .unset, .unset, .unset, .unset, .unset]) rfl k) ?_
        refine own_st (T' := s₁) (g' := (mkF m 62 #[.val (.int p1), .val (.int p2), .val (.int p3), .val (.int p4), .val (.int p5), .val (.int p6), .val (.int (((p6.toUInt32 >>> ((8 : Int32) &&& 31).toUInt32).toInt32) ||| (1 : Int32))), .val (.int v3), .val (.int v6), .val (.int v9), .unset, .unset, .unset, .unset, .unset, .unset] [(.int p6)])) (fun t k => XS.iload X0.here hx rfl (hb hby at_60) rfl k) ?_
        refine own_st (T' := s₁) (g' := (mkF m 64 #[.val (.int p1), .val (.int p2), .val (.int p3), .val (.int p4), .val (.int p5), .val (.int p6), .val (.int (((p6.toUInt32 >>> ((8 : Int32) &&& 31).toUInt32).toInt32) ||| (1 : Int32))), .val (.int v3), .val (.int v6), .val (.int v9), .unset, .unset, .unset, .unset, .unset, .unset] [(.int (8 : Int32)), (.int p6)])) (fun t k => XS.bipush X0.here hx rfl (hb hby at_62) k) ?_
        refine own_st (T' := s₁) (g' := (mkF m 65 #[.val (.int p1), .val (.int p2), .val (.int p3), .val (.int p4), .val (.int p5), .val (.int p6), .val (.int (((p6.toUInt32 >>> ((8 : Int32) &&& 31).toUInt32).toInt32) ||| (1 : Int32))), .val (.int v3), .val (.int v6), .val (.int v9), .unset, .unset, .unset, .unset, .unset, .unset] [(.int (p6 &&& (8 : Int32)))])) (fun t k => XS.iand X0.here hx rfl (hb hby at_64) rfl k) ?_
        have K11 : ∀ (v12 : Int32) (hv12 : v12 = (if (p6 &&& (8 : Int32)) = (0 : Int32) then p4 else (p4 ^^^ (((p6.toUInt32 >>> ((8 : Int32) &&& 31).toUInt32).toInt32) ||| (1 : Int32))))), own_G p e below (own_F (own_qr (.int 1) n0) s room_1.cells room_1.slots) s₁ (mkF m 76 #[.val (.int p1), .val (.int p2), .val (.int p3), .val (.int p4), .val (.int p5), .val (.int p6), .val (.int (((p6.toUInt32 >>> ((8 : Int32) &&& 31).toUInt32).toInt32) ||| (1 : Int32))), .val (.int v3), .val (.int v6), .val (.int v9), .unset, .unset, .unset, .unset, .unset, .unset] [(.int v12)]) := by
          intro v12 hv12
          refine own_st (T' := s₁) (g' := (mkF m 78 #[.val (.int p1), .val (.int p2), .val (.int p3), .val (.int p4), .val (.int p5), .val (.int p6), .val (.int (((p6.toUInt32 >>> ((8 : Int32) &&& 31).toUInt32).toInt32) ||| (1 : Int32))), .val (.int v3), .val (.int v6), .val (.int v9), .val (.int v12), .unset, .unset, .unset, .unset, .unset] [])) (fun t k => XS.istore X0.here hx rfl (hb hby at_76) rfl (l' := #[.val (.int p1), .val (.int p2), .val (.int p3), .val (.int p4), .val (.int p5), .val (.int p6), .val (.int (((p6.toUInt32 >>> ((8 : Int32) &&& 31).toUInt32).toInt32) ||| (1 : Int32))), .val (.int v3), .val (.int v6), .val (.int v9), .val (.int v12), .unset, .unset, .unset, .unset, .unset]) rfl k) ?_
          refine own_st (T' := s₁) (g' := (mkF m 80 #[.val (.int p1), .val (.int p2), .val (.int p3), .val (.int p4), .val (.int p5), .val (.int p6), .val (.int (((p6.toUInt32 >>> ((8 : Int32) &&& 31).toUInt32).toInt32) ||| (1 : Int32))), .val (.int v3), .val (.int v6), .val (.int v9), .val (.int v12), .unset, .unset, .unset, .unset, .unset] [(.int p6)])) (fun t k => XS.iload X0.here hx rfl (hb hby at_78) rfl k) ?_
          refine own_st (T' := s₁) (g' := (mkF m 82 #[.val (.int p1), .val (.int p2), .val (.int p3), .val (.int p4), .val (.int p5), .val (.int p6), .val (.int (((p6.toUInt32 >>> ((8 : Int32) &&& 31).toUInt32).toInt32) ||| (1 : Int32))), .val (.int v3), .val (.int v6), .val (.int v9), .val (.int v12), .unset, .unset, .unset, .unset, .unset] [(.int (16 : Int32)), (.int p6)])) (fun t k => XS.bipush X0.here hx rfl (hb hby at_80) k) ?_
          refine own_st (T' := s₁) (g' := (mkF m 83 #[.val (.int p1), .val (.int p2), .val (.int p3), .val (.int p4), .val (.int p5), .val (.int p6), .val (.int (((p6.toUInt32 >>> ((8 : Int32) &&& 31).toUInt32).toInt32) ||| (1 : Int32))), .val (.int v3), .val (.int v6), .val (.int v9), .val (.int v12), .unset, .unset, .unset, .unset, .unset] [(.int (p6 &&& (16 : Int32)))])) (fun t k => XS.iand X0.here hx rfl (hb hby at_82) rfl k) ?_
          have K14 : ∀ (v15 : Int32) (hv15 : v15 = (if (p6 &&& (16 : Int32)) = (0 : Int32) then p5 else (p5 ^^^ (((p6.toUInt32 >>> ((8 : Int32) &&& 31).toUInt32).toInt32) ||| (1 : Int32))))), own_G p e below (own_F (own_qr (.int 1) n0) s room_1.cells room_1.slots) s₁ (mkF m 96 #[.val (.int p1), .val (.int p2), .val (.int p3), .val (.int p4), .val (.int p5), .val (.int p6), .val (.int (((p6.toUInt32 >>> ((8 : Int32) &&& 31).toUInt32).toInt32) ||| (1 : Int32))), .val (.int v3), .val (.int v6), .val (.int v9), .val (.int v12), .unset, .unset, .unset, .unset, .unset] [(.int v15)]) := by
            intro v15 hv15
            refine own_st (T' := s₁) (g' := (mkF m 98 #[.val (.int p1), .val (.int p2), .val (.int p3), .val (.int p4), .val (.int p5), .val (.int p6), .val (.int (((p6.toUInt32 >>> ((8 : Int32) &&& 31).toUInt32).toInt32) ||| (1 : Int32))), .val (.int v3), .val (.int v6), .val (.int v9), .val (.int v12), .val (.int v15), .unset, .unset, .unset, .unset] [])) (fun t k => XS.istore X0.here hx rfl (hb hby at_96) rfl (l' := #[.val (.int p1), .val (.int p2), .val (.int p3), .val (.int p4), .val (.int p5), .val (.int p6), .val (.int (((p6.toUInt32 >>> ((8 : Int32) &&& 31).toUInt32).toInt32) ||| (1 : Int32))), .val (.int v3), .val (.int v6), .val (.int v9), .val (.int v12), .val (.int v15), .unset, .unset, .unset, .unset]) rfl k) ?_
            obtain ⟨T16, h16, X16, e16, E16, A16, D16, -, st16⟩ := newO X0 hx hZ hown (hw _ (List.mem_of_getElem? (i := 0) rfl)) (hw _ (List.mem_of_getElem? (i := 1) rfl)) (hw _ (List.mem_of_getElem? (i := 2) rfl)) e0 (g := (mkF m 98 #[.val (.int p1), .val (.int p2), .val (.int p3), .val (.int p4), .val (.int p5), .val (.int p6), .val (.int (((p6.toUInt32 >>> ((8 : Int32) &&& 31).toUInt32).toInt32) ||| (1 : Int32))), .val (.int v3), .val (.int v6), .val (.int v9), .val (.int v12), .val (.int v15), .unset, .unset, .unset, .unset] [])) rfl (hb hby at_98) (by decide) (by decide)
            obtain ⟨b16, gb16⟩ : ∃ z, z = h0.size := ⟨_, rfl⟩
            rw [← gb16] at A16 D16 st16
            have g_b16 : n0 ≤ b16 := Nat.le_trans Z0 (Nat.le_of_eq gb16.symm)
            have Z16 : n0 ≤ h16.size := Nat.le_trans Z0 E16.1
            have O := O.ext E16
            have E_b16 := A16
            have F_length_b16 : Fld Z h16 b16 "com/example/nullward/nullward/Elements" "length" "I" (.int (0 : Int32)) := D16 (Or.inr (hw _ (List.mem_of_getElem? (i := 15) rfl))) (ty := .int) (by decide)
            have F_filled_b16 : Fld Z h16 b16 "com/example/nullward/nullward/Elements" "filled" "I" (.int (0 : Int32)) := D16 (Or.inr (hw _ (List.mem_of_getElem? (i := 17) rfl))) (ty := .int) (by decide)
            have F_lengthLocal_b16 : Fld Z h16 b16 "com/example/nullward/nullward/Elements" "lengthLocal" "I" (.int (0 : Int32)) := D16 (Or.inr (hw _ (List.mem_of_getElem? (i := 19) rfl))) (ty := .int) (by decide)
            have F_indexLocal_b16 : Fld Z h16 b16 "com/example/nullward/nullward/Elements" "indexLocal" "I" (.int (0 : Int32)) := D16 (Or.inr (hw _ (List.mem_of_getElem? (i := 21) rfl))) (ty := .int) (by decide)
            have F_past_b16 : Fld Z h16 b16 "com/example/nullward/nullward/Elements" "past" "I" (.int (0 : Int32)) := D16 (Or.inr (hw _ (List.mem_of_getElem? (i := 23) rfl))) (ty := .int) (by decide)
            have X16 : Stand p l e room_1 s m #[(.int p1), (.int p2), (.int p3), (.int p4), (.int p5), (.int p6)] below meth c T16 [] 1 5 := X16
            refine own_st (T' := T16) (g' := (mkF m 101 #[.val (.int p1), .val (.int p2), .val (.int p3), .val (.int p4), .val (.int p5), .val (.int p6), .val (.int (((p6.toUInt32 >>> ((8 : Int32) &&& 31).toUInt32).toInt32) ||| (1 : Int32))), .val (.int v3), .val (.int v6), .val (.int v9), .val (.int v12), .val (.int v15), .unset, .unset, .unset, .unset] [(.ref b16)])) st16 ?_
            refine own_st (T' := T16) (g' := (mkF m 102 #[.val (.int p1), .val (.int p2), .val (.int p3), .val (.int p4), .val (.int p5), .val (.int p6), .val (.int (((p6.toUInt32 >>> ((8 : Int32) &&& 31).toUInt32).toInt32) ||| (1 : Int32))), .val (.int v3), .val (.int v6), .val (.int v9), .val (.int v12), .val (.int v15), .unset, .unset, .unset, .unset] [(.ref b16), (.ref b16)])) (fun t k => XS.dup X16.here hx rfl (hb hby at_101) rfl rfl k) ?_
            refine own_st (T' := T16) (g' := (mkF m 103 #[.val (.int p1), .val (.int p2), .val (.int p3), .val (.int p4), .val (.int p5), .val (.int p6), .val (.int (((p6.toUInt32 >>> ((8 : Int32) &&& 31).toUInt32).toInt32) ||| (1 : Int32))), .val (.int v3), .val (.int v6), .val (.int v9), .val (.int v12), .val (.int v15), .unset, .unset, .unset, .unset] [(.int p1), (.ref b16), (.ref b16)])) (fun t k => XS.iloadN X16.here hx rfl (hb hby at_102) rfl k) ?_
            refine own_st (T' := T16) (g' := (mkF m 104 #[.val (.int p1), .val (.int p2), .val (.int p3), .val (.int p4), .val (.int p5), .val (.int p6), .val (.int (((p6.toUInt32 >>> ((8 : Int32) &&& 31).toUInt32).toInt32) ||| (1 : Int32))), .val (.int v3), .val (.int v6), .val (.int v9), .val (.int v12), .val (.int v15), .unset, .unset, .unset, .unset] [(.int p2), (.int p1), (.ref b16), (.ref b16)])) (fun t k => XS.iloadN X16.here hx rfl (hb hby at_103) rfl k) ?_
            refine own_st (T' := T16) (g' := (mkF m 105 #[.val (.int p1), .val (.int p2), .val (.int p3), .val (.int p4), .val (.int p5), .val (.int p6), .val (.int (((p6.toUInt32 >>> ((8 : Int32) &&& 31).toUInt32).toInt32) ||| (1 : Int32))), .val (.int v3), .val (.int v6), .val (.int v9), .val (.int v12), .val (.int v15), .unset, .unset, .unset, .unset] [(.int p3), (.int p2), (.int p1), (.ref b16), (.ref b16)])) (fun t k => XS.iloadN X16.here hx rfl (hb hby at_104) rfl k) ?_
            refine own_st (T' := T16) (g' := (mkF m 106 #[.val (.int p1), .val (.int p2), .val (.int p3), .val (.int p4), .val (.int p5), .val (.int p6), .val (.int (((p6.toUInt32 >>> ((8 : Int32) &&& 31).toUInt32).toInt32) ||| (1 : Int32))), .val (.int v3), .val (.int v6), .val (.int v9), .val (.int v12), .val (.int v15), .unset, .unset, .unset, .unset] [(.int p4), (.int p3), (.int p2), (.int p1), (.ref b16), (.ref b16)])) (fun t k => XS.iloadN X16.here hx rfl (hb hby at_105) rfl k) ?_
            refine own_st (T' := T16) (g' := (mkF m 108 #[.val (.int p1), .val (.int p2), .val (.int p3), .val (.int p4), .val (.int p5), .val (.int p6), .val (.int (((p6.toUInt32 >>> ((8 : Int32) &&& 31).toUInt32).toInt32) ||| (1 : Int32))), .val (.int v3), .val (.int v6), .val (.int v9), .val (.int v12), .val (.int v15), .unset, .unset, .unset, .unset] [(.int p5), (.int p4), (.int p3), (.int p2), (.int p1), (.ref b16), (.ref b16)])) (fun t k => XS.iload X16.here hx rfl (hb hby at_106) rfl k) ?_
            obtain ⟨_, T17, L17, hQ17, X17, st17⟩ := own_callI (y := (⟨"com/example/nullward/nullward/Elements", "<init>", "(IIIII)V"⟩ : MethodName)) (argsL := [(.int p1), (.int p2), (.int p3), (.int p4), (.int p5)]) 1 [(.ref b16)] (own_rm1 l Z a0 hw h16 n0 Z16 b16 p1 p2 p3 p4 p5 E_b16 g_b16 _ F_length_b16 _ F_filled_b16 _ F_lengthLocal_b16 _ F_indexLocal_b16 _ F_past_b16) X16 hx hZ hown rfl (hw _ (List.mem_of_getElem? (i := 3) rfl)) (hw _ (List.mem_of_getElem? (i := 4) rfl)) (hw _ (List.mem_of_getElem? (i := 5) rfl)) (hw _ (List.mem_of_getElem? (i := 2) rfl)) (by decide) (by decide) (by decide) (by decide) (by decide) e16 (g := (mkF m 108 #[.val (.int p1), .val (.int p2), .val (.int p3), .val (.int p4), .val (.int p5), .val (.int p6), .val (.int (((p6.toUInt32 >>> ((8 : Int32) &&& 31).toUInt32).toInt32) ||| (1 : Int32))), .val (.int v3), .val (.int v6), .val (.int v9), .val (.int v12), .val (.int v15), .unset, .unset, .unset, .unset] [(.int p5), (.int p4), (.int p3), (.int p2), (.int p1), (.ref b16), (.ref b16)])) rfl (by rw [hml]; rfl) (lenOf own_pd2 rfl) rfl (by show 2 * 0 + _ ≤ _; exact Nat.le_of_eq rfl) (hb hby at_108)
            obtain ⟨rfl, N17q, Kq17, E_b16, F_length_b16, F_filled_b16, F_lengthLocal_b16, F_indexLocal_b16, F_past_b16⟩ := hQ17
            have Z17 : n0 ≤ T17.heap.size := Nat.le_trans Z16 Kq17.1
            have O := O.keep Kq17 (allS g_b16 all0)
            have N17 := Fr.app N0 N17q
            generalize hlc17 : ([] ++ L17 : List Loc) = lc17 at X17 N17
            have X17 : Stand p l e room_1 s m #[(.int p1), (.int p2), (.int p3), (.int p4), (.int p5), (.int p6)] below meth c T17 lc17 1 5 := X17
            refine own_st (T' := T17) (g' := (mkF m 111 #[.val (.int p1), .val (.int p2), .val (.int p3), .val (.int p4), .val (.int p5), .val (.int p6), .val (.int (((p6.toUInt32 >>> ((8 : Int32) &&& 31).toUInt32).toInt32) ||| (1 : Int32))), .val (.int v3), .val (.int v6), .val (.int v9), .val (.int v12), .val (.int v15), .unset, .unset, .unset, .unset] [(.ref b16)])) st17 ?_
            refine own_st (T' := T17) (g' := (mkF m 113 #[.val (.int p1), .val (.int p2), .val (.int p3), .val (.int p4), .val (.int p5), .val (.int p6), .val (.int (((p6.toUInt32 >>> ((8 : Int32) &&& 31).toUInt32).toInt32) ||| (1 : Int32))), .val (.int v3), .val (.int v6), .val (.int v9), .val (.int v12), .val (.int v15), .val (.ref b16), .unset, .unset, .unset] [])) (fun t k => XS.astore X17.here hx rfl (hb hby at_111) rfl rfl (l' := #[.val (.int p1), .val (.int p2), .val (.int p3), .val (.int p4), .val (.int p5), .val (.int p6), .val (.int (((p6.toUInt32 >>> ((8 : Int32) &&& 31).toUInt32).toInt32) ||| (1 : Int32))), .val (.int v3), .val (.int v6), .val (.int v9), .val (.int v12), .val (.int v15), .val (.ref b16), .unset, .unset, .unset]) rfl k) ?_
            obtain ⟨T18, h18, X18, e18, E18, A18, D18, -, st18⟩ := newO X17 hx hZ hown (hw _ (List.mem_of_getElem? (i := 0) rfl)) (hw _ (List.mem_of_getElem? (i := 1) rfl)) (hw _ (List.mem_of_getElem? (i := 2) rfl)) rfl (g := (mkF m 113 #[.val (.int p1), .val (.int p2), .val (.int p3), .val (.int p4), .val (.int p5), .val (.int p6), .val (.int (((p6.toUInt32 >>> ((8 : Int32) &&& 31).toUInt32).toInt32) ||| (1 : Int32))), .val (.int v3), .val (.int v6), .val (.int v9), .val (.int v12), .val (.int v15), .val (.ref b16), .unset, .unset, .unset] [])) rfl (hb hby at_113) (by decide) (by decide)
            obtain ⟨b18, gb18⟩ : ∃ z, z = T17.heap.size := ⟨_, rfl⟩
            rw [← gb18] at A18 D18 st18
            have ne_b16_b18 : b16 ≠ b18 := by rw [gb18]; exact Nat.ne_of_lt E_b16.lt
            have g_b18 : n0 ≤ b18 := Nat.le_trans Z17 (Nat.le_of_eq gb18.symm)
            have Z18 : n0 ≤ h18.size := Nat.le_trans Z17 E18.1
            have O := O.ext E18
            have E_b16 := E_b16.ext E18
            have F_length_b16 := F_length_b16.ext E18
            have F_filled_b16 := F_filled_b16.ext E18
            have F_lengthLocal_b16 := F_lengthLocal_b16.ext E18
            have F_indexLocal_b16 := F_indexLocal_b16.ext E18
            have F_past_b16 := F_past_b16.ext E18
            have E_b18 := A18
            have F_length_b18 : Fld Z h18 b18 "com/example/nullward/nullward/Elements" "length" "I" (.int (0 : Int32)) := D18 (Or.inr (hw _ (List.mem_of_getElem? (i := 15) rfl))) (ty := .int) (by decide)
            have F_filled_b18 : Fld Z h18 b18 "com/example/nullward/nullward/Elements" "filled" "I" (.int (0 : Int32)) := D18 (Or.inr (hw _ (List.mem_of_getElem? (i := 17) rfl))) (ty := .int) (by decide)
            have F_lengthLocal_b18 : Fld Z h18 b18 "com/example/nullward/nullward/Elements" "lengthLocal" "I" (.int (0 : Int32)) := D18 (Or.inr (hw _ (List.mem_of_getElem? (i := 19) rfl))) (ty := .int) (by decide)
            have F_indexLocal_b18 : Fld Z h18 b18 "com/example/nullward/nullward/Elements" "indexLocal" "I" (.int (0 : Int32)) := D18 (Or.inr (hw _ (List.mem_of_getElem? (i := 21) rfl))) (ty := .int) (by decide)
            have F_past_b18 : Fld Z h18 b18 "com/example/nullward/nullward/Elements" "past" "I" (.int (0 : Int32)) := D18 (Or.inr (hw _ (List.mem_of_getElem? (i := 23) rfl))) (ty := .int) (by decide)
            have X18 : Stand p l e room_1 s m #[(.int p1), (.int p2), (.int p3), (.int p4), (.int p5), (.int p6)] below meth c T18 lc17 2 10 := X18
            refine own_st (T' := T18) (g' := (mkF m 116 #[.val (.int p1), .val (.int p2), .val (.int p3), .val (.int p4), .val (.int p5), .val (.int p6), .val (.int (((p6.toUInt32 >>> ((8 : Int32) &&& 31).toUInt32).toInt32) ||| (1 : Int32))), .val (.int v3), .val (.int v6), .val (.int v9), .val (.int v12), .val (.int v15), .val (.ref b16), .unset, .unset, .unset] [(.ref b18)])) st18 ?_
            refine own_st (T' := T18) (g' := (mkF m 117 #[.val (.int p1), .val (.int p2), .val (.int p3), .val (.int p4), .val (.int p5), .val (.int p6), .val (.int (((p6.toUInt32 >>> ((8 : Int32) &&& 31).toUInt32).toInt32) ||| (1 : Int32))), .val (.int v3), .val (.int v6), .val (.int v9), .val (.int v12), .val (.int v15), .val (.ref b16), .unset, .unset, .unset] [(.ref b18), (.ref b18)])) (fun t k => XS.dup X18.here hx rfl (hb hby at_116) rfl rfl k) ?_
            refine own_st (T' := T18) (g' := (mkF m 119 #[.val (.int p1), .val (.int p2), .val (.int p3), .val (.int p4), .val (.int p5), .val (.int p6), .val (.int (((p6.toUInt32 >>> ((8 : Int32) &&& 31).toUInt32).toInt32) ||| (1 : Int32))), .val (.int v3), .val (.int v6), .val (.int v9), .val (.int v12), .val (.int v15), .val (.ref b16), .unset, .unset, .unset] [(.int v3), (.ref b18), (.ref b18)])) (fun t k => XS.iload X18.here hx rfl (hb hby at_117) rfl k) ?_
            refine own_st (T' := T18) (g' := (mkF m 121 #[.val (.int p1), .val (.int p2), .val (.int p3), .val (.int p4), .val (.int p5), .val (.int p6), .val (.int (((p6.toUInt32 >>> ((8 : Int32) &&& 31).toUInt32).toInt32) ||| (1 : Int32))), .val (.int v3), .val (.int v6), .val (.int v9), .val (.int v12), .val (.int v15), .val (.ref b16), .unset, .unset, .unset] [(.int v6), (.int v3), (.ref b18), (.ref b18)])) (fun t k => XS.iload X18.here hx rfl (hb hby at_119) rfl k) ?_
            refine own_st (T' := T18) (g' := (mkF m 123 #[.val (.int p1), .val (.int p2), .val (.int p3), .val (.int p4), .val (.int p5), .val (.int p6), .val (.int (((p6.toUInt32 >>> ((8 : Int32) &&& 31).toUInt32).toInt32) ||| (1 : Int32))), .val (.int v3), .val (.int v6), .val (.int v9), .val (.int v12), .val (.int v15), .val (.ref b16), .unset, .unset, .unset] [(.int v9), (.int v6), (.int v3), (.ref b18), (.ref b18)])) (fun t k => XS.iload X18.here hx rfl (hb hby at_121) rfl k) ?_
            refine own_st (T' := T18) (g' := (mkF m 125 #[.val (.int p1), .val (.int p2), .val (.int p3), .val (.int p4), .val (.int p5), .val (.int p6), .val (.int (((p6.toUInt32 >>> ((8 : Int32) &&& 31).toUInt32).toInt32) ||| (1 : Int32))), .val (.int v3), .val (.int v6), .val (.int v9), .val (.int v12), .val (.int v15), .val (.ref b16), .unset, .unset, .unset] [(.int v12), (.int v9), (.int v6), (.int v3), (.ref b18), (.ref b18)])) (fun t k => XS.iload X18.here hx rfl (hb hby at_123) rfl k) ?_
            refine own_st (T' := T18) (g' := (mkF m 127 #[.val (.int p1), .val (.int p2), .val (.int p3), .val (.int p4), .val (.int p5), .val (.int p6), .val (.int (((p6.toUInt32 >>> ((8 : Int32) &&& 31).toUInt32).toInt32) ||| (1 : Int32))), .val (.int v3), .val (.int v6), .val (.int v9), .val (.int v12), .val (.int v15), .val (.ref b16), .unset, .unset, .unset] [(.int v15), (.int v12), (.int v9), (.int v6), (.int v3), (.ref b18), (.ref b18)])) (fun t k => XS.iload X18.here hx rfl (hb hby at_125) rfl k) ?_
            obtain ⟨_, T19, L19, hQ19, X19, st19⟩ := own_callI (y := (⟨"com/example/nullward/nullward/Elements", "<init>", "(IIIII)V"⟩ : MethodName)) (argsL := [(.int v3), (.int v6), (.int v9), (.int v12), (.int v15)]) 1 [(.ref b18)] (own_rm1 l Z a0 hw h18 n0 Z18 b18 v3 v6 v9 v12 v15 E_b18 g_b18 _ F_length_b18 _ F_filled_b18 _ F_lengthLocal_b18 _ F_indexLocal_b18 _ F_past_b18) X18 hx hZ hown rfl (hw _ (List.mem_of_getElem? (i := 3) rfl)) (hw _ (List.mem_of_getElem? (i := 4) rfl)) (hw _ (List.mem_of_getElem? (i := 5) rfl)) (hw _ (List.mem_of_getElem? (i := 2) rfl)) (by decide) (by decide) (by decide) (by decide) (by decide) e18 (g := (mkF m 127 #[.val (.int p1), .val (.int p2), .val (.int p3), .val (.int p4), .val (.int p5), .val (.int p6), .val (.int (((p6.toUInt32 >>> ((8 : Int32) &&& 31).toUInt32).toInt32) ||| (1 : Int32))), .val (.int v3), .val (.int v6), .val (.int v9), .val (.int v12), .val (.int v15), .val (.ref b16), .unset, .unset, .unset] [(.int v15), (.int v12), (.int v9), (.int v6), (.int v3), (.ref b18), (.ref b18)])) rfl (by rw [hml]; rfl) (lenOf own_pd2 rfl) rfl (by show 2 * 0 + _ ≤ _; exact Nat.le_of_eq rfl) (hb hby at_127)
            obtain ⟨rfl, N19q, Kq19, E_b18, F_length_b18, F_filled_b18, F_lengthLocal_b18, F_indexLocal_b18, F_past_b18⟩ := hQ19
            have Z19 : n0 ≤ T19.heap.size := Nat.le_trans Z18 Kq19.1
            have O := O.keep Kq19 (allS g_b18 all0)
            have E_b16 := E_b16.keep Kq19
            have F_length_b16 := F_length_b16.keep Kq19 (ninS ne_b16_b18 nin0)
            have F_filled_b16 := F_filled_b16.keep Kq19 (ninS ne_b16_b18 nin0)
            have F_lengthLocal_b16 := F_lengthLocal_b16.keep Kq19 (ninS ne_b16_b18 nin0)
            have F_indexLocal_b16 := F_indexLocal_b16.keep Kq19 (ninS ne_b16_b18 nin0)
            have F_past_b16 := F_past_b16.keep Kq19 (ninS ne_b16_b18 nin0)
            have N19 := Fr.app N17 N19q
            generalize hlc19 : (lc17 ++ L19 : List Loc) = lc19 at X19 N19
            have X19 : Stand p l e room_1 s m #[(.int p1), (.int p2), (.int p3), (.int p4), (.int p5), (.int p6)] below meth c T19 lc19 2 10 := X19
            refine own_st (T' := T19) (g' := (mkF m 130 #[.val (.int p1), .val (.int p2), .val (.int p3), .val (.int p4), .val (.int p5), .val (.int p6), .val (.int (((p6.toUInt32 >>> ((8 : Int32) &&& 31).toUInt32).toInt32) ||| (1 : Int32))), .val (.int v3), .val (.int v6), .val (.int v9), .val (.int v12), .val (.int v15), .val (.ref b16), .unset, .unset, .unset] [(.ref b18)])) st19 ?_
            refine own_st (T' := T19) (g' := (mkF m 132 #[.val (.int p1), .val (.int p2), .val (.int p3), .val (.int p4), .val (.int p5), .val (.int p6), .val (.int (((p6.toUInt32 >>> ((8 : Int32) &&& 31).toUInt32).toInt32) ||| (1 : Int32))), .val (.int v3), .val (.int v6), .val (.int v9), .val (.int v12), .val (.int v15), .val (.ref b16), .val (.ref b18), .unset, .unset] [])) (fun t k => XS.astore X19.here hx rfl (hb hby at_130) rfl rfl (l' := #[.val (.int p1), .val (.int p2), .val (.int p3), .val (.int p4), .val (.int p5), .val (.int p6), .val (.int (((p6.toUInt32 >>> ((8 : Int32) &&& 31).toUInt32).toInt32) ||| (1 : Int32))), .val (.int v3), .val (.int v6), .val (.int v9), .val (.int v12), .val (.int v15), .val (.ref b16), .val (.ref b18), .unset, .unset]) rfl k) ?_
            refine own_st (T' := T19) (g' := (mkF m 134 #[.val (.int p1), .val (.int p2), .val (.int p3), .val (.int p4), .val (.int p5), .val (.int p6), .val (.int (((p6.toUInt32 >>> ((8 : Int32) &&& 31).toUInt32).toInt32) ||| (1 : Int32))), .val (.int v3), .val (.int v6), .val (.int v9), .val (.int v12), .val (.int v15), .val (.ref b16), .val (.ref b18), .unset, .unset] [(.int p6)])) (fun t k => XS.iload X19.here hx rfl (hb hby at_132) rfl k) ?_
            refine own_st (T' := T19) (g' := (mkF m 135 #[.val (.int p1), .val (.int p2), .val (.int p3), .val (.int p4), .val (.int p5), .val (.int p6), .val (.int (((p6.toUInt32 >>> ((8 : Int32) &&& 31).toUInt32).toInt32) ||| (1 : Int32))), .val (.int v3), .val (.int v6), .val (.int v9), .val (.int v12), .val (.int v15), .val (.ref b16), .val (.ref b18), .unset, .unset] [(.int (5 : Int32)), (.int p6)])) (fun t k => XS.iconst X19.here hx rfl (hb hby at_134) k) ?_
            refine own_st (T' := T19) (g' := (mkF m 136 #[.val (.int p1), .val (.int p2), .val (.int p3), .val (.int p4), .val (.int p5), .val (.int p6), .val (.int (((p6.toUInt32 >>> ((8 : Int32) &&& 31).toUInt32).toInt32) ||| (1 : Int32))), .val (.int v3), .val (.int v6), .val (.int v9), .val (.int v12), .val (.int v15), .val (.ref b16), .val (.ref b18), .unset, .unset] [(.int ((p6.toUInt32 >>> ((5 : Int32) &&& 31).toUInt32).toInt32))])) (fun t k => XS.iushr X19.here hx rfl (hb hby at_135) rfl k) ?_
            refine own_st (T' := T19) (g' := (mkF m 137 #[.val (.int p1), .val (.int p2), .val (.int p3), .val (.int p4), .val (.int p5), .val (.int p6), .val (.int (((p6.toUInt32 >>> ((8 : Int32) &&& 31).toUInt32).toInt32) ||| (1 : Int32))), .val (.int v3), .val (.int v6), .val (.int v9), .val (.int v12), .val (.int v15), .val (.ref b16), .val (.ref b18), .unset, .unset] [(.int (3 : Int32)), (.int ((p6.toUInt32 >>> ((5 : Int32) &&& 31).toUInt32).toInt32))])) (fun t k => XS.iconst X19.here hx rfl (hb hby at_136) k) ?_
            refine own_st (T' := T19) (g' := (mkF m 138 #[.val (.int p1), .val (.int p2), .val (.int p3), .val (.int p4), .val (.int p5), .val (.int p6), .val (.int (((p6.toUInt32 >>> ((8 : Int32) &&& 31).toUInt32).toInt32) ||| (1 : Int32))), .val (.int v3), .val (.int v6), .val (.int v9), .val (.int v12), .val (.int v15), .val (.ref b16), .val (.ref b18), .unset, .unset] [(.int (((p6.toUInt32 >>> ((5 : Int32) &&& 31).toUInt32).toInt32) &&& (3 : Int32)))])) (fun t k => XS.iand X19.here hx rfl (hb hby at_137) rfl k) ?_
            refine own_st (T' := T19) (g' := (mkF m 140 #[.val (.int p1), .val (.int p2), .val (.int p3), .val (.int p4), .val (.int p5), .val (.int p6), .val (.int (((p6.toUInt32 >>> ((8 : Int32) &&& 31).toUInt32).toInt32) ||| (1 : Int32))), .val (.int v3), .val (.int v6), .val (.int v9), .val (.int v12), .val (.int v15), .val (.ref b16), .val (.ref b18), .val (.int (((p6.toUInt32 >>> ((5 : Int32) &&& 31).toUInt32).toInt32) &&& (3 : Int32))), .unset] [])) (fun t k => XS.istore X19.here hx rfl (hb hby at_138) rfl (l' := #[.val (.int p1), .val (.int p2), .val (.int p3), .val (.int p4), .val (.int p5), .val (.int p6), .val (.int (((p6.toUInt32 >>> ((8 : Int32) &&& 31).toUInt32).toInt32) ||| (1 : Int32))), .val (.int v3), .val (.int v6), .val (.int v9), .val (.int v12), .val (.int v15), .val (.ref b16), .val (.ref b18), .val (.int (((p6.toUInt32 >>> ((5 : Int32) &&& 31).toUInt32).toInt32) &&& (3 : Int32))), .unset]) rfl k) ?_
            refine own_st (T' := T19) (g' := (mkF m 142 #[.val (.int p1), .val (.int p2), .val (.int p3), .val (.int p4), .val (.int p5), .val (.int p6), .val (.int (((p6.toUInt32 >>> ((8 : Int32) &&& 31).toUInt32).toInt32) ||| (1 : Int32))), .val (.int v3), .val (.int v6), .val (.int v9), .val (.int v12), .val (.int v15), .val (.ref b16), .val (.ref b18), .val (.int (((p6.toUInt32 >>> ((5 : Int32) &&& 31).toUInt32).toInt32) &&& (3 : Int32))), .unset] [(.int (((p6.toUInt32 >>> ((5 : Int32) &&& 31).toUInt32).toInt32) &&& (3 : Int32)))])) (fun t k => XS.iload X19.here hx rfl (hb hby at_140) rfl k) ?_
            refine own_st (T' := T19) (g' := (mkF m 143 #[.val (.int p1), .val (.int p2), .val (.int p3), .val (.int p4), .val (.int p5), .val (.int p6), .val (.int (((p6.toUInt32 >>> ((8 : Int32) &&& 31).toUInt32).toInt32) ||| (1 : Int32))), .val (.int v3), .val (.int v6), .val (.int v9), .val (.int v12), .val (.int v15), .val (.ref b16), .val (.ref b18), .val (.int (((p6.toUInt32 >>> ((5 : Int32) &&& 31).toUInt32).toInt32) &&& (3 : Int32))), .unset] [(.int (1 : Int32)), (.int (((p6.toUInt32 >>> ((5 : Int32) &&& 31).toUInt32).toInt32) &&& (3 : Int32)))])) (fun t k => XS.iconst X19.here hx rfl (hb hby at_142) k) ?_
            by_cases hc143_20 : (((p6.toUInt32 >>> ((5 : Int32) &&& 31).toUInt32).toInt32) &&& (3 : Int32)) = (1 : Int32)
            ·
              refine own_st (T' := T19) (g' := (mkF m 146 #[.val (.int p1), .val (.int p2), .val (.int p3), .val (.int p4), .val (.int p5), .val (.int p6), .val (.int (((p6.toUInt32 >>> ((8 : Int32) &&& 31).toUInt32).toInt32) ||| (1 : Int32))), .val (.int v3), .val (.int v6), .val (.int v9), .val (.int v12), .val (.int v15), .val (.ref b16), .val (.ref b18), .val (.int (((p6.toUInt32 >>> ((5 : Int32) &&& 31).toUInt32).toInt32) &&& (3 : Int32))), .unset] [])) (fun t k => XS.icmpNo X19.here hx rfl (hb hby at_143) rfl (teq hc143_20).2 k) ?_
              refine own_st (T' := T19) (g' := (mkF m 148 #[.val (.int p1), .val (.int p2), .val (.int p3), .val (.int p4), .val (.int p5), .val (.int p6), .val (.int (((p6.toUInt32 >>> ((8 : Int32) &&& 31).toUInt32).toInt32) ||| (1 : Int32))), .val (.int v3), .val (.int v6), .val (.int v9), .val (.int v12), .val (.int v15), .val (.ref b16), .val (.ref b18), .val (.int (((p6.toUInt32 >>> ((5 : Int32) &&& 31).toUInt32).toInt32) &&& (3 : Int32))), .unset] [(.ref b16)])) (fun t k => XS.aload X19.here hx rfl (hb hby at_146) rfl rfl k) ?_
              refine own_st (T' := T19) (g' := (mkF m 150 #[.val (.int p1), .val (.int p2), .val (.int p3), .val (.int p4), .val (.int p5), .val (.int p6), .val (.int (((p6.toUInt32 >>> ((8 : Int32) &&& 31).toUInt32).toInt32) ||| (1 : Int32))), .val (.int v3), .val (.int v6), .val (.int v9), .val (.int v12), .val (.int v15), .val (.ref b16), .val (.ref b18), .val (.int (((p6.toUInt32 >>> ((5 : Int32) &&& 31).toUInt32).toInt32) &&& (3 : Int32))), .unset] [(.ref b16), (.ref b16)])) (fun t k => XS.aload X19.here hx rfl (hb hby at_148) rfl rfl k) ?_
              obtain ⟨_, T21, L21, hQ21, X21, st21⟩ := own_callV (y := (⟨"com/example/nullward/nullward/Elements", "equals", "(Ljava/lang/Object;)Z"⟩ : MethodName)) (z := (⟨"com/example/nullward/nullward/Elements", "equals", "(Ljava/lang/Object;)Z"⟩ : MethodName)) (argsL := [(.ref b16)]) 0 [] (K := "com/example/nullward/nullward/Elements") (own_rm4s l Z a0 hw T19.heap n0 Z19 b16) X19 hx hZ hown (hw _ (List.mem_of_getElem? (i := 24) rfl)) (hw _ (List.mem_of_getElem? (i := 25) rfl)) (notFace_of_selects (args := #[]) (mvT hZ (hw _ (List.mem_of_getElem? (i := 27) rfl)))) (hw _ (List.mem_of_getElem? (i := 27) rfl)) (hw _ (List.mem_of_getElem? (i := 26) rfl)) (hw _ (List.mem_of_getElem? (i := 28) rfl)) (hw _ (List.mem_of_getElem? (i := 2) rfl)) (by decide) (by decide) (by decide) (by decide) (by decide) rfl E_b16 (g := (mkF m 150 #[.val (.int p1), .val (.int p2), .val (.int p3), .val (.int p4), .val (.int p5), .val (.int p6), .val (.int (((p6.toUInt32 >>> ((8 : Int32) &&& 31).toUInt32).toInt32) ||| (1 : Int32))), .val (.int v3), .val (.int v6), .val (.int v9), .val (.int v12), .val (.int v15), .val (.ref b16), .val (.ref b18), .val (.int (((p6.toUInt32 >>> ((5 : Int32) &&& 31).toUInt32).toInt32) &&& (3 : Int32))), .unset] [(.ref b16), (.ref b16)])) rfl (by rw [hml]; rfl) (lenOf own_pd3 rfl) rfl (by show 2 * 0 + _ ≤ _; exact Nat.le_of_eq rfl) (hb hby at_150)
              obtain ⟨rfl, e21, rfl⟩ := hQ21
              have X21 : Stand p l e room_1 s m #[(.int p1), (.int p2), (.int p3), (.int p4), (.int p5), (.int p6)] below meth c T21 lc19 2 10 := by have := X21; rwa [List.append_nil] at this
              refine own_st (T' := T21) (g' := (mkF m 153 #[.val (.int p1), .val (.int p2), .val (.int p3), .val (.int p4), .val (.int p5), .val (.int p6), .val (.int (((p6.toUInt32 >>> ((8 : Int32) &&& 31).toUInt32).toInt32) ||| (1 : Int32))), .val (.int v3), .val (.int v6), .val (.int v9), .val (.int v12), .val (.int v15), .val (.ref b16), .val (.ref b18), .val (.int (((p6.toUInt32 >>> ((5 : Int32) &&& 31).toUInt32).toInt32) &&& (3 : Int32))), .unset] [(.int (1 : Int32))])) st21 ?_
              exact own_retB X21 hx hlk hret (hb hby at_153) (by decide) (by decide) rfl ⟨rfl, N19⟩
            ·
              refine own_st (T' := T19) (g' := (mkF m 154 #[.val (.int p1), .val (.int p2), .val (.int p3), .val (.int p4), .val (.int p5), .val (.int p6), .val (.int (((p6.toUInt32 >>> ((8 : Int32) &&& 31).toUInt32).toInt32) ||| (1 : Int32))), .val (.int v3), .val (.int v6), .val (.int v9), .val (.int v12), .val (.int v15), .val (.ref b16), .val (.ref b18), .val (.int (((p6.toUInt32 >>> ((5 : Int32) &&& 31).toUInt32).toInt32) &&& (3 : Int32))), .unset] [])) (fun t k => XS.icmpYes X19.here hx rfl (pc0 := 143) (pc' := 154) rfl (hb hby at_143) rfl (feq hc143_20).2 (by decide) (by decide) k) ?_
              refine own_st (T' := T19) (g' := (mkF m 156 #[.val (.int p1), .val (.int p2), .val (.int p3), .val (.int p4), .val (.int p5), .val (.int p6), .val (.int (((p6.toUInt32 >>> ((8 : Int32) &&& 31).toUInt32).toInt32) ||| (1 : Int32))), .val (.int v3), .val (.int v6), .val (.int v9), .val (.int v12), .val (.int v15), .val (.ref b16), .val (.ref b18), .val (.int (((p6.toUInt32 >>> ((5 : Int32) &&& 31).toUInt32).toInt32) &&& (3 : Int32))), .unset] [(.int (((p6.toUInt32 >>> ((5 : Int32) &&& 31).toUInt32).toInt32) &&& (3 : Int32)))])) (fun t k => XS.iload X19.here hx rfl (hb hby at_154) rfl k) ?_
              refine own_st (T' := T19) (g' := (mkF m 157 #[.val (.int p1), .val (.int p2), .val (.int p3), .val (.int p4), .val (.int p5), .val (.int p6), .val (.int (((p6.toUInt32 >>> ((8 : Int32) &&& 31).toUInt32).toInt32) ||| (1 : Int32))), .val (.int v3), .val (.int v6), .val (.int v9), .val (.int v12), .val (.int v15), .val (.ref b16), .val (.ref b18), .val (.int (((p6.toUInt32 >>> ((5 : Int32) &&& 31).toUInt32).toInt32) &&& (3 : Int32))), .unset] [(.int (2 : Int32)), (.int (((p6.toUInt32 >>> ((5 : Int32) &&& 31).toUInt32).toInt32) &&& (3 : Int32)))])) (fun t k => XS.iconst X19.here hx rfl (hb hby at_156) k) ?_
              by_cases hc157_22 : (((p6.toUInt32 >>> ((5 : Int32) &&& 31).toUInt32).toInt32) &&& (3 : Int32)) = (2 : Int32)
              ·
                refine own_st (T' := T19) (g' := (mkF m 160 #[.val (.int p1), .val (.int p2), .val (.int p3), .val (.int p4), .val (.int p5), .val (.int p6), .val (.int (((p6.toUInt32 >>> ((8 : Int32) &&& 31).toUInt32).toInt32) ||| (1 : Int32))), .val (.int v3), .val (.int v6), .val (.int v9), .val (.int v12), .val (.int v15), .val (.ref b16), .val (.ref b18), .val (.int (((p6.toUInt32 >>> ((5 : Int32) &&& 31).toUInt32).toInt32) &&& (3 : Int32))), .unset] [])) (fun t k => XS.icmpNo X19.here hx rfl (hb hby at_157) rfl (teq hc157_22).2 k) ?_
                refine own_st (T' := T19) (g' := (mkF m 162 #[.val (.int p1), .val (.int p2), .val (.int p3), .val (.int p4), .val (.int p5), .val (.int p6), .val (.int (((p6.toUInt32 >>> ((8 : Int32) &&& 31).toUInt32).toInt32) ||| (1 : Int32))), .val (.int v3), .val (.int v6), .val (.int v9), .val (.int v12), .val (.int v15), .val (.ref b16), .val (.ref b18), .val (.int (((p6.toUInt32 >>> ((5 : Int32) &&& 31).toUInt32).toInt32) &&& (3 : Int32))), .unset] [(.ref b16)])) (fun t k => XS.aload X19.here hx rfl (hb hby at_160) rfl rfl k) ?_
                refine own_st (T' := T19) (g' := (mkF m 163 #[.val (.int p1), .val (.int p2), .val (.int p3), .val (.int p4), .val (.int p5), .val (.int p6), .val (.int (((p6.toUInt32 >>> ((8 : Int32) &&& 31).toUInt32).toInt32) ||| (1 : Int32))), .val (.int v3), .val (.int v6), .val (.int v9), .val (.int v12), .val (.int v15), .val (.ref b16), .val (.ref b18), .val (.int (((p6.toUInt32 >>> ((5 : Int32) &&& 31).toUInt32).toInt32) &&& (3 : Int32))), .unset] [.null, (.ref b16)])) (fun t k => XS.aconstNull X19.here hx rfl (hb hby at_162) k) ?_
                obtain ⟨_, T23, L23, hQ23, X23, st23⟩ := own_callV (y := (⟨"com/example/nullward/nullward/Elements", "equals", "(Ljava/lang/Object;)Z"⟩ : MethodName)) (z := (⟨"com/example/nullward/nullward/Elements", "equals", "(Ljava/lang/Object;)Z"⟩ : MethodName)) (argsL := [.null]) 0 [] (K := "com/example/nullward/nullward/Elements") (own_rm4n l Z a0 hw T19.heap n0 Z19 b16) X19 hx hZ hown (hw _ (List.mem_of_getElem? (i := 24) rfl)) (hw _ (List.mem_of_getElem? (i := 25) rfl)) (notFace_of_selects (args := #[]) (mvT hZ (hw _ (List.mem_of_getElem? (i := 27) rfl)))) (hw _ (List.mem_of_getElem? (i := 27) rfl)) (hw _ (List.mem_of_getElem? (i := 26) rfl)) (hw _ (List.mem_of_getElem? (i := 28) rfl)) (hw _ (List.mem_of_getElem? (i := 2) rfl)) (by decide) (by decide) (by decide) (by decide) (by decide) rfl E_b16 (g := (mkF m 163 #[.val (.int p1), .val (.int p2), .val (.int p3), .val (.int p4), .val (.int p5), .val (.int p6), .val (.int (((p6.toUInt32 >>> ((8 : Int32) &&& 31).toUInt32).toInt32) ||| (1 : Int32))), .val (.int v3), .val (.int v6), .val (.int v9), .val (.int v12), .val (.int v15), .val (.ref b16), .val (.ref b18), .val (.int (((p6.toUInt32 >>> ((5 : Int32) &&& 31).toUInt32).toInt32) &&& (3 : Int32))), .unset] [.null, (.ref b16)])) rfl (by rw [hml]; rfl) (lenOf own_pd3 rfl) rfl (by show 2 * 0 + _ ≤ _; exact Nat.le_of_eq rfl) (hb hby at_163)
                obtain ⟨rfl, e23, rfl⟩ := hQ23
                have X23 : Stand p l e room_1 s m #[(.int p1), (.int p2), (.int p3), (.int p4), (.int p5), (.int p6)] below meth c T23 lc19 2 10 := by have := X23; rwa [List.append_nil] at this
                refine own_st (T' := T23) (g' := (mkF m 166 #[.val (.int p1), .val (.int p2), .val (.int p3), .val (.int p4), .val (.int p5), .val (.int p6), .val (.int (((p6.toUInt32 >>> ((8 : Int32) &&& 31).toUInt32).toInt32) ||| (1 : Int32))), .val (.int v3), .val (.int v6), .val (.int v9), .val (.int v12), .val (.int v15), .val (.ref b16), .val (.ref b18), .val (.int (((p6.toUInt32 >>> ((5 : Int32) &&& 31).toUInt32).toInt32) &&& (3 : Int32))), .unset] [(.int (0 : Int32))])) st23 ?_
                refine own_st (T' := T23) (g' := (mkF m 169 #[.val (.int p1), .val (.int p2), .val (.int p3), .val (.int p4), .val (.int p5), .val (.int p6), .val (.int (((p6.toUInt32 >>> ((8 : Int32) &&& 31).toUInt32).toInt32) ||| (1 : Int32))), .val (.int v3), .val (.int v6), .val (.int v9), .val (.int v12), .val (.int v15), .val (.ref b16), .val (.ref b18), .val (.int (((p6.toUInt32 >>> ((5 : Int32) &&& 31).toUInt32).toInt32) &&& (3 : Int32))), .unset] [])) (fun t k => XS.ifNo X23.here hx rfl (hb hby at_166) rfl ((if0 _ _).trans (teq (by decide)).2) k) ?_
                refine own_st (T' := T23) (g' := (mkF m 170 #[.val (.int p1), .val (.int p2), .val (.int p3), .val (.int p4), .val (.int p5), .val (.int p6), .val (.int (((p6.toUInt32 >>> ((8 : Int32) &&& 31).toUInt32).toInt32) ||| (1 : Int32))), .val (.int v3), .val (.int v6), .val (.int v9), .val (.int v12), .val (.int v15), .val (.ref b16), .val (.ref b18), .val (.int (((p6.toUInt32 >>> ((5 : Int32) &&& 31).toUInt32).toInt32) &&& (3 : Int32))), .unset] [(.int (1 : Int32))])) (fun t k => XS.iconst X23.here hx rfl (hb hby at_169) k) ?_
                refine own_st (T' := T23) (g' := (mkF m 174 #[.val (.int p1), .val (.int p2), .val (.int p3), .val (.int p4), .val (.int p5), .val (.int p6), .val (.int (((p6.toUInt32 >>> ((8 : Int32) &&& 31).toUInt32).toInt32) ||| (1 : Int32))), .val (.int v3), .val (.int v6), .val (.int v9), .val (.int v12), .val (.int v15), .val (.ref b16), .val (.ref b18), .val (.int (((p6.toUInt32 >>> ((5 : Int32) &&& 31).toUInt32).toInt32) &&& (3 : Int32))), .unset] [(.int (1 : Int32))])) (fun t k => XS.goto X23.here hx rfl (pc0 := 170) (pc' := 174) rfl (hb hby at_170) (by decide) (by decide) k) ?_
                exact own_retB X23 hx hlk hret (hb hby at_174) (by decide) (by decide) rfl ⟨rfl, N19⟩
              ·
                refine own_st (T' := T19) (g' := (mkF m 175 #[.val (.int p1), .val (.int p2), .val (.int p3), .val (.int p4), .val (.int p5), .val (.int p6), .val (.int (((p6.toUInt32 >>> ((8 : Int32) &&& 31).toUInt32).toInt32) ||| (1 : Int32))), .val (.int v3), .val (.int v6), .val (.int v9), .val (.int v12), .val (.int v15), .val (.ref b16), .val (.ref b18), .val (.int (((p6.toUInt32 >>> ((5 : Int32) &&& 31).toUInt32).toInt32) &&& (3 : Int32))), .unset] [])) (fun t k => XS.icmpYes X19.here hx rfl (pc0 := 157) (pc' := 175) rfl (hb hby at_157) rfl (feq hc157_22).2 (by decide) (by decide) k) ?_
                refine own_st (T' := T19) (g' := (mkF m 177 #[.val (.int p1), .val (.int p2), .val (.int p3), .val (.int p4), .val (.int p5), .val (.int p6), .val (.int (((p6.toUInt32 >>> ((8 : Int32) &&& 31).toUInt32).toInt32) ||| (1 : Int32))), .val (.int v3), .val (.int v6), .val (.int v9), .val (.int v12), .val (.int v15), .val (.ref b16), .val (.ref b18), .val (.int (((p6.toUInt32 >>> ((5 : Int32) &&& 31).toUInt32).toInt32) &&& (3 : Int32))), .unset] [(.int (((p6.toUInt32 >>> ((5 : Int32) &&& 31).toUInt32).toInt32) &&& (3 : Int32)))])) (fun t k => XS.iload X19.here hx rfl (hb hby at_175) rfl k) ?_
                refine own_st (T' := T19) (g' := (mkF m 178 #[.val (.int p1), .val (.int p2), .val (.int p3), .val (.int p4), .val (.int p5), .val (.int p6), .val (.int (((p6.toUInt32 >>> ((8 : Int32) &&& 31).toUInt32).toInt32) ||| (1 : Int32))), .val (.int v3), .val (.int v6), .val (.int v9), .val (.int v12), .val (.int v15), .val (.ref b16), .val (.ref b18), .val (.int (((p6.toUInt32 >>> ((5 : Int32) &&& 31).toUInt32).toInt32) &&& (3 : Int32))), .unset] [(.int (3 : Int32)), (.int (((p6.toUInt32 >>> ((5 : Int32) &&& 31).toUInt32).toInt32) &&& (3 : Int32)))])) (fun t k => XS.iconst X19.here hx rfl (hb hby at_177) k) ?_
                by_cases hc178_24 : (((p6.toUInt32 >>> ((5 : Int32) &&& 31).toUInt32).toInt32) &&& (3 : Int32)) = (3 : Int32)
                ·
                  refine own_st (T' := T19) (g' := (mkF m 181 #[.val (.int p1), .val (.int p2), .val (.int p3), .val (.int p4), .val (.int p5), .val (.int p6), .val (.int (((p6.toUInt32 >>> ((8 : Int32) &&& 31).toUInt32).toInt32) ||| (1 : Int32))), .val (.int v3), .val (.int v6), .val (.int v9), .val (.int v12), .val (.int v15), .val (.ref b16), .val (.ref b18), .val (.int (((p6.toUInt32 >>> ((5 : Int32) &&& 31).toUInt32).toInt32) &&& (3 : Int32))), .unset] [])) (fun t k => XS.icmpNo X19.here hx rfl (hb hby at_178) rfl (teq hc178_24).2 k) ?_
                  refine own_st (T' := T19) (g' := (mkF m 183 #[.val (.int p1), .val (.int p2), .val (.int p3), .val (.int p4), .val (.int p5), .val (.int p6), .val (.int (((p6.toUInt32 >>> ((8 : Int32) &&& 31).toUInt32).toInt32) ||| (1 : Int32))), .val (.int v3), .val (.int v6), .val (.int v9), .val (.int v12), .val (.int v15), .val (.ref b16), .val (.ref b18), .val (.int (((p6.toUInt32 >>> ((5 : Int32) &&& 31).toUInt32).toInt32) &&& (3 : Int32))), .unset] [(.ref b16)])) (fun t k => XS.aload X19.here hx rfl (hb hby at_181) rfl rfl k) ?_
                  refine own_st (T' := T19) (g' := (mkF m 184 #[.val (.int p1), .val (.int p2), .val (.int p3), .val (.int p4), .val (.int p5), .val (.int p6), .val (.int (((p6.toUInt32 >>> ((8 : Int32) &&& 31).toUInt32).toInt32) ||| (1 : Int32))), .val (.int v3), .val (.int v6), .val (.int v9), .val (.int v12), .val (.int v15), .val (.ref b16), .val (.ref b18), .val (.int (((p6.toUInt32 >>> ((5 : Int32) &&& 31).toUInt32).toInt32) &&& (3 : Int32))), .unset] [(.int p1), (.ref b16)])) (fun t k => XS.iloadN X19.here hx rfl (hb hby at_183) rfl k) ?_
                  obtain ⟨_, T25, L25, hQ25, X25, st25⟩ := own_callS (y := (⟨"java/lang/Integer", "valueOf", "(I)Ljava/lang/Integer;"⟩ : MethodName)) (argsL := [(.int p1)]) 1 [(.ref b16)] (own_rm5 l Z a0 hw T19.heap n0 Z19 p1 O s_cache cc S_high S_cache B_cache) X19 hx hZ hown (hw _ (List.mem_of_getElem? (i := 31) rfl)) (hw _ (List.mem_of_getElem? (i := 32) rfl)) (hw _ (List.mem_of_getElem? (i := 33) rfl)) (hw _ (List.mem_of_getElem? (i := 34) rfl)) (by decide) (by decide) (by decide) (by decide) (by decide) rfl (g := (mkF m 184 #[.val (.int p1), .val (.int p2), .val (.int p3), .val (.int p4), .val (.int p5), .val (.int p6), .val (.int (((p6.toUInt32 >>> ((8 : Int32) &&& 31).toUInt32).toInt32) ||| (1 : Int32))), .val (.int v3), .val (.int v6), .val (.int v9), .val (.int v12), .val (.int v15), .val (.ref b16), .val (.ref b18), .val (.int (((p6.toUInt32 >>> ((5 : Int32) &&& 31).toUInt32).toInt32) &&& (3 : Int32))), .unset] [(.int p1), (.ref b16)])) rfl (by rw [hml]; rfl) (lenOf own_pd4 rfl) rfl (by show 2 * 0 + _ ≤ _; exact Nat.le_of_eq rfl) (hb hby at_184)
                  obtain ⟨o25, rfl, N25q, Eq25, E_o25⟩ := hQ25
                  have Z25 : n0 ≤ T25.heap.size := Nat.le_trans Z19 Eq25.1
                  have O := O.ext Eq25
                  have E_b16 := E_b16.ext Eq25
                  have F_length_b16 := F_length_b16.ext Eq25
                  have F_filled_b16 := F_filled_b16.ext Eq25
                  have F_lengthLocal_b16 := F_lengthLocal_b16.ext Eq25
                  have F_indexLocal_b16 := F_indexLocal_b16.ext Eq25
                  have F_past_b16 := F_past_b16.ext Eq25
                  have E_b18 := E_b18.ext Eq25
                  have F_length_b18 := F_length_b18.ext Eq25
                  have F_filled_b18 := F_filled_b18.ext Eq25
                  have F_lengthLocal_b18 := F_lengthLocal_b18.ext Eq25
                  have F_indexLocal_b18 := F_indexLocal_b18.ext Eq25
                  have F_past_b18 := F_past_b18.ext Eq25
                  have N25 := Fr.app N19 N25q
                  generalize hlc25 : (lc19 ++ L25 : List Loc) = lc25 at X25 N25
                  have X25 : Stand p l e room_1 s m #[(.int p1), (.int p2), (.int p3), (.int p4), (.int p5), (.int p6)] below meth c T25 lc25 3 11 := X25
                  refine own_st (T' := T25) (g' := (mkF m 187 #[.val (.int p1), .val (.int p2), .val (.int p3), .val (.int p4), .val (.int p5), .val (.int p6), .val (.int (((p6.toUInt32 >>> ((8 : Int32) &&& 31).toUInt32).toInt32) ||| (1 : Int32))), .val (.int v3), .val (.int v6), .val (.int v9), .val (.int v12), .val (.int v15), .val (.ref b16), .val (.ref b18), .val (.int (((p6.toUInt32 >>> ((5 : Int32) &&& 31).toUInt32).toInt32) &&& (3 : Int32))), .unset] [(.ref o25), (.ref b16)])) st25 ?_
                  obtain ⟨_, T26, L26, hQ26, X26, st26⟩ := own_callV (y := (⟨"com/example/nullward/nullward/Elements", "equals", "(Ljava/lang/Object;)Z"⟩ : MethodName)) (z := (⟨"com/example/nullward/nullward/Elements", "equals", "(Ljava/lang/Object;)Z"⟩ : MethodName)) (argsL := [(.ref o25)]) 0 [] (K := "com/example/nullward/nullward/Elements") (own_rm4i l Z a0 hw T25.heap n0 Z25 b16 o25 (ne_exa E_o25 E_b16 (by decide)) E_o25) X25 hx hZ hown (hw _ (List.mem_of_getElem? (i := 24) rfl)) (hw _ (List.mem_of_getElem? (i := 25) rfl)) (notFace_of_selects (args := #[]) (mvT hZ (hw _ (List.mem_of_getElem? (i := 27) rfl)))) (hw _ (List.mem_of_getElem? (i := 27) rfl)) (hw _ (List.mem_of_getElem? (i := 26) rfl)) (hw _ (List.mem_of_getElem? (i := 28) rfl)) (hw _ (List.mem_of_getElem? (i := 2) rfl)) (by decide) (by decide) (by decide) (by decide) (by decide) rfl E_b16 (g := (mkF m 187 #[.val (.int p1), .val (.int p2), .val (.int p3), .val (.int p4), .val (.int p5), .val (.int p6), .val (.int (((p6.toUInt32 >>> ((8 : Int32) &&& 31).toUInt32).toInt32) ||| (1 : Int32))), .val (.int v3), .val (.int v6), .val (.int v9), .val (.int v12), .val (.int v15), .val (.ref b16), .val (.ref b18), .val (.int (((p6.toUInt32 >>> ((5 : Int32) &&& 31).toUInt32).toInt32) &&& (3 : Int32))), .unset] [(.ref o25), (.ref b16)])) rfl (by rw [hml]; rfl) (lenOf own_pd3 rfl) rfl (by show 2 * 0 + _ ≤ _; exact Nat.le_of_eq rfl) (hb hby at_187)
                  obtain ⟨rfl, e26, rfl⟩ := hQ26
                  have X26 : Stand p l e room_1 s m #[(.int p1), (.int p2), (.int p3), (.int p4), (.int p5), (.int p6)] below meth c T26 lc25 3 11 := by have := X26; rwa [List.append_nil] at this
                  refine own_st (T' := T26) (g' := (mkF m 190 #[.val (.int p1), .val (.int p2), .val (.int p3), .val (.int p4), .val (.int p5), .val (.int p6), .val (.int (((p6.toUInt32 >>> ((8 : Int32) &&& 31).toUInt32).toInt32) ||| (1 : Int32))), .val (.int v3), .val (.int v6), .val (.int v9), .val (.int v12), .val (.int v15), .val (.ref b16), .val (.ref b18), .val (.int (((p6.toUInt32 >>> ((5 : Int32) &&& 31).toUInt32).toInt32) &&& (3 : Int32))), .unset] [(.int (0 : Int32))])) st26 ?_
                  refine own_st (T' := T26) (g' := (mkF m 193 #[.val (.int p1), .val (.int p2), .val (.int p3), .val (.int p4), .val (.int p5), .val (.int p6), .val (.int (((p6.toUInt32 >>> ((8 : Int32) &&& 31).toUInt32).toInt32) ||| (1 : Int32))), .val (.int v3), .val (.int v6), .val (.int v9), .val (.int v12), .val (.int v15), .val (.ref b16), .val (.ref b18), .val (.int (((p6.toUInt32 >>> ((5 : Int32) &&& 31).toUInt32).toInt32) &&& (3 : Int32))), .unset] [])) (fun t k => XS.ifNo X26.here hx rfl (hb hby at_190) rfl ((if0 _ _).trans (teq (by decide)).2) k) ?_
                  refine own_st (T' := T26) (g' := (mkF m 194 #[.val (.int p1), .val (.int p2), .val (.int p3), .val (.int p4), .val (.int p5), .val (.int p6), .val (.int (((p6.toUInt32 >>> ((8 : Int32) &&& 31).toUInt32).toInt32) ||| (1 : Int32))), .val (.int v3), .val (.int v6), .val (.int v9), .val (.int v12), .val (.int v15), .val (.ref b16), .val (.ref b18), .val (.int (((p6.toUInt32 >>> ((5 : Int32) &&& 31).toUInt32).toInt32) &&& (3 : Int32))), .unset] [(.int (1 : Int32))])) (fun t k => XS.iconst X26.here hx rfl (hb hby at_193) k) ?_
                  refine own_st (T' := T26) (g' := (mkF m 198 #[.val (.int p1), .val (.int p2), .val (.int p3), .val (.int p4), .val (.int p5), .val (.int p6), .val (.int (((p6.toUInt32 >>> ((8 : Int32) &&& 31).toUInt32).toInt32) ||| (1 : Int32))), .val (.int v3), .val (.int v6), .val (.int v9), .val (.int v12), .val (.int v15), .val (.ref b16), .val (.ref b18), .val (.int (((p6.toUInt32 >>> ((5 : Int32) &&& 31).toUInt32).toInt32) &&& (3 : Int32))), .unset] [(.int (1 : Int32))])) (fun t k => XS.goto X26.here hx rfl (pc0 := 194) (pc' := 198) rfl (hb hby at_194) (by decide) (by decide) k) ?_
                  exact own_retB X26 hx hlk hret (hb hby at_198) (by decide) (by decide) rfl ⟨rfl, N25⟩
                ·
                  refine own_st (T' := T19) (g' := (mkF m 199 #[.val (.int p1), .val (.int p2), .val (.int p3), .val (.int p4), .val (.int p5), .val (.int p6), .val (.int (((p6.toUInt32 >>> ((8 : Int32) &&& 31).toUInt32).toInt32) ||| (1 : Int32))), .val (.int v3), .val (.int v6), .val (.int v9), .val (.int v12), .val (.int v15), .val (.ref b16), .val (.ref b18), .val (.int (((p6.toUInt32 >>> ((5 : Int32) &&& 31).toUInt32).toInt32) &&& (3 : Int32))), .unset] [])) (fun t k => XS.icmpYes X19.here hx rfl (pc0 := 178) (pc' := 199) rfl (hb hby at_178) rfl (feq hc178_24).2 (by decide) (by decide) k) ?_
                  refine own_st (T' := T19) (g' := (mkF m 200 #[.val (.int p1), .val (.int p2), .val (.int p3), .val (.int p4), .val (.int p5), .val (.int p6), .val (.int (((p6.toUInt32 >>> ((8 : Int32) &&& 31).toUInt32).toInt32) ||| (1 : Int32))), .val (.int v3), .val (.int v6), .val (.int v9), .val (.int v12), .val (.int v15), .val (.ref b16), .val (.ref b18), .val (.int (((p6.toUInt32 >>> ((5 : Int32) &&& 31).toUInt32).toInt32) &&& (3 : Int32))), .unset] [(.int p1)])) (fun t k => XS.iloadN X19.here hx rfl (hb hby at_199) rfl k) ?_
                  refine own_st (T' := T19) (g' := (mkF m 202 #[.val (.int p1), .val (.int p2), .val (.int p3), .val (.int p4), .val (.int p5), .val (.int p6), .val (.int (((p6.toUInt32 >>> ((8 : Int32) &&& 31).toUInt32).toInt32) ||| (1 : Int32))), .val (.int v3), .val (.int v6), .val (.int v9), .val (.int v12), .val (.int v15), .val (.ref b16), .val (.ref b18), .val (.int (((p6.toUInt32 >>> ((5 : Int32) &&& 31).toUInt32).toInt32) &&& (3 : Int32))), .unset] [(.int v3), (.int p1)])) (fun t k => XS.iload X19.here hx rfl (hb hby at_200) rfl k) ?_
                  have K28 : ∀ (v29 : Int32) (hv29 : v29 = (if p1 = v3 then (if p2 = v6 then (if p3 = v9 then (if p4 = v12 then (if p5 = v15 then (1 : Int32) else (0 : Int32)) else (0 : Int32)) else (0 : Int32)) else (0 : Int32)) else (0 : Int32))), own_G p e below (own_F (own_qr (.int 1) n0) s room_1.cells room_1.slots) T19 (mkF m 235 #[.val (.int p1), .val (.int p2), .val (.int p3), .val (.int p4), .val (.int p5), .val (.int p6), .val (.int (((p6.toUInt32 >>> ((8 : Int32) &&& 31).toUInt32).toInt32) ||| (1 : Int32))), .val (.int v3), .val (.int v6), .val (.int v9), .val (.int v12), .val (.int v15), .val (.ref b16), .val (.ref b18), .val (.int (((p6.toUInt32 >>> ((5 : Int32) &&& 31).toUInt32).toInt32) &&& (3 : Int32))), .unset] [(.int v29)]) := by
                    intro v29 hv29
                    refine own_st (T' := T19) (g' := (mkF m 237 #[.val (.int p1), .val (.int p2), .val (.int p3), .val (.int p4), .val (.int p5), .val (.int p6), .val (.int (((p6.toUInt32 >>> ((8 : Int32) &&& 31).toUInt32).toInt32) ||| (1 : Int32))), .val (.int v3), .val (.int v6), .val (.int v9), .val (.int v12), .val (.int v15), .val (.ref b16), .val (.ref b18), .val (.int (((p6.toUInt32 >>> ((5 : Int32) &&& 31).toUInt32).toInt32) &&& (3 : Int32))), .val (.int v29)] [])) (fun t k => XS.istore X19.here hx rfl (hb hby at_235) rfl (l' := #[.val (.int p1), .val (.int p2), .val (.int p3), .val (.int p4), .val (.int p5), .val (.int p6), .val (.int (((p6.toUInt32 >>> ((8 : Int32) &&& 31).toUInt32).toInt32) ||| (1 : Int32))), .val (.int v3), .val (.int v6), .val (.int v9), .val (.int v12), .val (.int v15), .val (.ref b16), .val (.ref b18), .val (.int (((p6.toUInt32 >>> ((5 : Int32) &&& 31).toUInt32).toInt32) &&& (3 : Int32))), .val (.int v29)]) rfl k) ?_
                    refine own_st (T' := T19) (g' := (mkF m 239 #[.val (.int p1), .val (.int p2), .val (.int p3), .val (.int p4), .val (.int p5), .val (.int p6), .val (.int (((p6.toUInt32 >>> ((8 : Int32) &&& 31).toUInt32).toInt32) ||| (1 : Int32))), .val (.int v3), .val (.int v6), .val (.int v9), .val (.int v12), .val (.int v15), .val (.ref b16), .val (.ref b18), .val (.int (((p6.toUInt32 >>> ((5 : Int32) &&& 31).toUInt32).toInt32) &&& (3 : Int32))), .val (.int v29)] [(.ref b16)])) (fun t k => XS.aload X19.here hx rfl (hb hby at_237) rfl rfl k) ?_
                    refine own_st (T' := T19) (g' := (mkF m 241 #[.val (.int p1), .val (.int p2), .val (.int p3), .val (.int p4), .val (.int p5), .val (.int p6), .val (.int (((p6.toUInt32 >>> ((8 : Int32) &&& 31).toUInt32).toInt32) ||| (1 : Int32))), .val (.int v3), .val (.int v6), .val (.int v9), .val (.int v12), .val (.int v15), .val (.ref b16), .val (.ref b18), .val (.int (((p6.toUInt32 >>> ((5 : Int32) &&& 31).toUInt32).toInt32) &&& (3 : Int32))), .val (.int v29)] [(.ref b18), (.ref b16)])) (fun t k => XS.aload X19.here hx rfl (hb hby at_239) rfl rfl k) ?_
                    obtain ⟨r30, hr30⟩ : ∃ q, q = own_eq p1 p2 p3 p4 p5 v3 v6 v9 v12 v15 := ⟨_, rfl⟩
                    obtain ⟨_, T30, L30, hQ30, X30, st30⟩ := own_callV (y := (⟨"com/example/nullward/nullward/Elements", "equals", "(Ljava/lang/Object;)Z"⟩ : MethodName)) (z := (⟨"com/example/nullward/nullward/Elements", "equals", "(Ljava/lang/Object;)Z"⟩ : MethodName)) (argsL := [(.ref b18)]) 0 [] (K := "com/example/nullward/nullward/Elements") (own_rm4 l Z a0 hw T19.heap n0 Z19 b16 b18 (Ne.symm ne_b16_b18) E_b18 p1 F_length_b16 v3 F_length_b18 p2 F_filled_b16 v6 F_filled_b18 p3 F_lengthLocal_b16 v9 F_lengthLocal_b18 p4 F_indexLocal_b16 v12 F_indexLocal_b18 p5 F_past_b16 v15 F_past_b18 _ hr30) X19 hx hZ hown (hw _ (List.mem_of_getElem? (i := 24) rfl)) (hw _ (List.mem_of_getElem? (i := 25) rfl)) (notFace_of_selects (args := #[]) (mvT hZ (hw _ (List.mem_of_getElem? (i := 27) rfl)))) (hw _ (List.mem_of_getElem? (i := 27) rfl)) (hw _ (List.mem_of_getElem? (i := 26) rfl)) (hw _ (List.mem_of_getElem? (i := 28) rfl)) (hw _ (List.mem_of_getElem? (i := 2) rfl)) (by decide) (by decide) (by decide) (by decide) (by decide) rfl E_b16 (g := (mkF m 241 #[.val (.int p1), .val (.int p2), .val (.int p3), .val (.int p4), .val (.int p5), .val (.int p6), .val (.int (((p6.toUInt32 >>> ((8 : Int32) &&& 31).toUInt32).toInt32) ||| (1 : Int32))), .val (.int v3), .val (.int v6), .val (.int v9), .val (.int v12), .val (.int v15), .val (.ref b16), .val (.ref b18), .val (.int (((p6.toUInt32 >>> ((5 : Int32) &&& 31).toUInt32).toInt32) &&& (3 : Int32))), .val (.int v29)] [(.ref b18), (.ref b16)])) rfl (by rw [hml]; rfl) (lenOf own_pd3 rfl) rfl (by show 2 * 0 + _ ≤ _; exact Nat.le_of_eq rfl) (hb hby at_241)
                    obtain ⟨rfl, e30, rfl⟩ := hQ30
                    have X30 : Stand p l e room_1 s m #[(.int p1), (.int p2), (.int p3), (.int p4), (.int p5), (.int p6)] below meth c T30 lc19 2 10 := by have := X30; rwa [List.append_nil] at this
                    refine own_st (T' := T30) (g' := (mkF m 244 #[.val (.int p1), .val (.int p2), .val (.int p3), .val (.int p4), .val (.int p5), .val (.int p6), .val (.int (((p6.toUInt32 >>> ((8 : Int32) &&& 31).toUInt32).toInt32) ||| (1 : Int32))), .val (.int v3), .val (.int v6), .val (.int v9), .val (.int v12), .val (.int v15), .val (.ref b16), .val (.ref b18), .val (.int (((p6.toUInt32 >>> ((5 : Int32) &&& 31).toUInt32).toInt32) &&& (3 : Int32))), .val (.int v29)] [(.int r30)])) st30 ?_
                    refine own_st (T' := T30) (g' := (mkF m 246 #[.val (.int p1), .val (.int p2), .val (.int p3), .val (.int p4), .val (.int p5), .val (.int p6), .val (.int (((p6.toUInt32 >>> ((8 : Int32) &&& 31).toUInt32).toInt32) ||| (1 : Int32))), .val (.int v3), .val (.int v6), .val (.int v9), .val (.int v12), .val (.int v15), .val (.ref b16), .val (.ref b18), .val (.int (((p6.toUInt32 >>> ((5 : Int32) &&& 31).toUInt32).toInt32) &&& (3 : Int32))), .val (.int v29)] [(.int v29), (.int r30)])) (fun t k => XS.iload X30.here hx rfl (hb hby at_244) rfl k) ?_
                    have hk31 : r30 = v29 := by rw [hr30, hv29]; rfl
                    refine own_st (T' := T30) (g' := (mkF m 249 #[.val (.int p1), .val (.int p2), .val (.int p3), .val (.int p4), .val (.int p5), .val (.int p6), .val (.int (((p6.toUInt32 >>> ((8 : Int32) &&& 31).toUInt32).toInt32) ||| (1 : Int32))), .val (.int v3), .val (.int v6), .val (.int v9), .val (.int v12), .val (.int v15), .val (.ref b16), .val (.ref b18), .val (.int (((p6.toUInt32 >>> ((5 : Int32) &&& 31).toUInt32).toInt32) &&& (3 : Int32))), .val (.int v29)] [])) (fun t k => XS.icmpNo X30.here hx rfl (hb hby at_246) rfl (teq hk31).2 k) ?_
                    refine own_st (T' := T30) (g' := (mkF m 251 #[.val (.int p1), .val (.int p2), .val (.int p3), .val (.int p4), .val (.int p5), .val (.int p6), .val (.int (((p6.toUInt32 >>> ((8 : Int32) &&& 31).toUInt32).toInt32) ||| (1 : Int32))), .val (.int v3), .val (.int v6), .val (.int v9), .val (.int v12), .val (.int v15), .val (.ref b16), .val (.ref b18), .val (.int (((p6.toUInt32 >>> ((5 : Int32) &&& 31).toUInt32).toInt32) &&& (3 : Int32))), .val (.int v29)] [(.ref b18)])) (fun t k => XS.aload X30.here hx rfl (hb hby at_249) rfl rfl k) ?_
                    refine own_st (T' := T30) (g' := (mkF m 253 #[.val (.int p1), .val (.int p2), .val (.int p3), .val (.int p4), .val (.int p5), .val (.int p6), .val (.int (((p6.toUInt32 >>> ((8 : Int32) &&& 31).toUInt32).toInt32) ||| (1 : Int32))), .val (.int v3), .val (.int v6), .val (.int v9), .val (.int v12), .val (.int v15), .val (.ref b16), .val (.ref b18), .val (.int (((p6.toUInt32 >>> ((5 : Int32) &&& 31).toUInt32).toInt32) &&& (3 : Int32))), .val (.int v29)] [(.ref b16), (.ref b18)])) (fun t k => XS.aload X30.here hx rfl (hb hby at_251) rfl rfl k) ?_
                    obtain ⟨r32, hr32⟩ : ∃ q, q = own_eq v3 v6 v9 v12 v15 p1 p2 p3 p4 p5 := ⟨_, rfl⟩
                    obtain ⟨_, T32, L32, hQ32, X32, st32⟩ := own_callV (y := (⟨"com/example/nullward/nullward/Elements", "equals", "(Ljava/lang/Object;)Z"⟩ : MethodName)) (z := (⟨"com/example/nullward/nullward/Elements", "equals", "(Ljava/lang/Object;)Z"⟩ : MethodName)) (argsL := [(.ref b16)]) 0 [] (K := "com/example/nullward/nullward/Elements") (own_rm4 l Z a0 hw T19.heap n0 Z19 b18 b16 ne_b16_b18 E_b16 v3 F_length_b18 p1 F_length_b16 v6 F_filled_b18 p2 F_filled_b16 v9 F_lengthLocal_b18 p3 F_lengthLocal_b16 v12 F_indexLocal_b18 p4 F_indexLocal_b16 v15 F_past_b18 p5 F_past_b16 _ hr32) X30 hx hZ hown (hw _ (List.mem_of_getElem? (i := 24) rfl)) (hw _ (List.mem_of_getElem? (i := 25) rfl)) (notFace_of_selects (args := #[]) (mvT hZ (hw _ (List.mem_of_getElem? (i := 27) rfl)))) (hw _ (List.mem_of_getElem? (i := 27) rfl)) (hw _ (List.mem_of_getElem? (i := 26) rfl)) (hw _ (List.mem_of_getElem? (i := 28) rfl)) (hw _ (List.mem_of_getElem? (i := 2) rfl)) (by decide) (by decide) (by decide) (by decide) (by decide) e30 E_b18 (g := (mkF m 253 #[.val (.int p1), .val (.int p2), .val (.int p3), .val (.int p4), .val (.int p5), .val (.int p6), .val (.int (((p6.toUInt32 >>> ((8 : Int32) &&& 31).toUInt32).toInt32) ||| (1 : Int32))), .val (.int v3), .val (.int v6), .val (.int v9), .val (.int v12), .val (.int v15), .val (.ref b16), .val (.ref b18), .val (.int (((p6.toUInt32 >>> ((5 : Int32) &&& 31).toUInt32).toInt32) &&& (3 : Int32))), .val (.int v29)] [(.ref b16), (.ref b18)])) rfl (by rw [hml]; rfl) (lenOf own_pd3 rfl) rfl (by show 2 * 0 + _ ≤ _; exact Nat.le_of_eq rfl) (hb hby at_253)
                    obtain ⟨rfl, e32, rfl⟩ := hQ32
                    have X32 : Stand p l e room_1 s m #[(.int p1), (.int p2), (.int p3), (.int p4), (.int p5), (.int p6)] below meth c T32 lc19 2 10 := by have := X32; rwa [List.append_nil] at this
                    refine own_st (T' := T32) (g' := (mkF m 256 #[.val (.int p1), .val (.int p2), .val (.int p3), .val (.int p4), .val (.int p5), .val (.int p6), .val (.int (((p6.toUInt32 >>> ((8 : Int32) &&& 31).toUInt32).toInt32) ||| (1 : Int32))), .val (.int v3), .val (.int v6), .val (.int v9), .val (.int v12), .val (.int v15), .val (.ref b16), .val (.ref b18), .val (.int (((p6.toUInt32 >>> ((5 : Int32) &&& 31).toUInt32).toInt32) &&& (3 : Int32))), .val (.int v29)] [(.int r32)])) st32 ?_
                    refine own_st (T' := T32) (g' := (mkF m 258 #[.val (.int p1), .val (.int p2), .val (.int p3), .val (.int p4), .val (.int p5), .val (.int p6), .val (.int (((p6.toUInt32 >>> ((8 : Int32) &&& 31).toUInt32).toInt32) ||| (1 : Int32))), .val (.int v3), .val (.int v6), .val (.int v9), .val (.int v12), .val (.int v15), .val (.ref b16), .val (.ref b18), .val (.int (((p6.toUInt32 >>> ((5 : Int32) &&& 31).toUInt32).toInt32) &&& (3 : Int32))), .val (.int v29)] [(.int v29), (.int r32)])) (fun t k => XS.iload X32.here hx rfl (hb hby at_256) rfl k) ?_
                    have hk33 : r32 = v29 := by rw [hr32, own_eq_symm, hv29]; rfl
                    refine own_st (T' := T32) (g' := (mkF m 261 #[.val (.int p1), .val (.int p2), .val (.int p3), .val (.int p4), .val (.int p5), .val (.int p6), .val (.int (((p6.toUInt32 >>> ((8 : Int32) &&& 31).toUInt32).toInt32) ||| (1 : Int32))), .val (.int v3), .val (.int v6), .val (.int v9), .val (.int v12), .val (.int v15), .val (.ref b16), .val (.ref b18), .val (.int (((p6.toUInt32 >>> ((5 : Int32) &&& 31).toUInt32).toInt32) &&& (3 : Int32))), .val (.int v29)] [])) (fun t k => XS.icmpNo X32.here hx rfl (hb hby at_258) rfl (teq hk33).2 k) ?_
                    refine own_st (T' := T32) (g' := (mkF m 262 #[.val (.int p1), .val (.int p2), .val (.int p3), .val (.int p4), .val (.int p5), .val (.int p6), .val (.int (((p6.toUInt32 >>> ((8 : Int32) &&& 31).toUInt32).toInt32) ||| (1 : Int32))), .val (.int v3), .val (.int v6), .val (.int v9), .val (.int v12), .val (.int v15), .val (.ref b16), .val (.ref b18), .val (.int (((p6.toUInt32 >>> ((5 : Int32) &&& 31).toUInt32).toInt32) &&& (3 : Int32))), .val (.int v29)] [(.int (1 : Int32))])) (fun t k => XS.iconst X32.here hx rfl (hb hby at_261) k) ?_
                    refine own_st (T' := T32) (g' := (mkF m 266 #[.val (.int p1), .val (.int p2), .val (.int p3), .val (.int p4), .val (.int p5), .val (.int p6), .val (.int (((p6.toUInt32 >>> ((8 : Int32) &&& 31).toUInt32).toInt32) ||| (1 : Int32))), .val (.int v3), .val (.int v6), .val (.int v9), .val (.int v12), .val (.int v15), .val (.ref b16), .val (.ref b18), .val (.int (((p6.toUInt32 >>> ((5 : Int32) &&& 31).toUInt32).toInt32) &&& (3 : Int32))), .val (.int v29)] [(.int (1 : Int32))])) (fun t k => XS.goto X32.here hx rfl (pc0 := 262) (pc' := 266) rfl (hb hby at_262) (by decide) (by decide) k) ?_
                    exact own_retB X32 hx hlk hret (hb hby at_266) (by decide) (by decide) rfl ⟨rfl, N19⟩
                  by_cases hc202_27 : p1 = v3
                  ·
                    refine own_st (T' := T19) (g' := (mkF m 205 #[.val (.int p1), .val (.int p2), .val (.int p3), .val (.int p4), .val (.int p5), .val (.int p6), .val (.int (((p6.toUInt32 >>> ((8 : Int32) &&& 31).toUInt32).toInt32) ||| (1 : Int32))), .val (.int v3), .val (.int v6), .val (.int v9), .val (.int v12), .val (.int v15), .val (.ref b16), .val (.ref b18), .val (.int (((p6.toUInt32 >>> ((5 : Int32) &&& 31).toUInt32).toInt32) &&& (3 : Int32))), .unset] [])) (fun t k => XS.icmpNo X19.here hx rfl (hb hby at_202) rfl (teq hc202_27).2 k) ?_
                    refine own_st (T' := T19) (g' := (mkF m 206 #[.val (.int p1), .val (.int p2), .val (.int p3), .val (.int p4), .val (.int p5), .val (.int p6), .val (.int (((p6.toUInt32 >>> ((8 : Int32) &&& 31).toUInt32).toInt32) ||| (1 : Int32))), .val (.int v3), .val (.int v6), .val (.int v9), .val (.int v12), .val (.int v15), .val (.ref b16), .val (.ref b18), .val (.int (((p6.toUInt32 >>> ((5 : Int32) &&& 31).toUInt32).toInt32) &&& (3 : Int32))), .unset] [(.int p2)])) (fun t k => XS.iloadN X19.here hx rfl (hb hby at_205) rfl k) ?_
                    refine own_st (T' := T19) (g' := (mkF m 208 #[.val (.int p1), .val (.int p2), .val (.int p3), .val (.int p4), .val (.int p5), .val (.int p6), .val (.int (((p6.toUInt32 >>> ((8 : Int32) &&& 31).toUInt32).toInt32) ||| (1 : Int32))), .val (.int v3), .val (.int v6), .val (.int v9), .val (.int v12), .val (.int v15), .val (.ref b16), .val (.ref b18), .val (.int (((p6.toUInt32 >>> ((5 : Int32) &&& 31).toUInt32).toInt32) &&& (3 : Int32))), .unset] [(.int v6), (.int p2)])) (fun t k => XS.iload X19.here hx rfl (hb hby at_206) rfl k) ?_
                    by_cases hc208_34 : p2 = v6
                    ·
                      refine own_st (T' := T19) (g' := (mkF m 211 #[.val (.int p1), .val (.int p2), .val (.int p3), .val (.int p4), .val (.int p5), .val (.int p6), .val (.int (((p6.toUInt32 >>> ((8 : Int32) &&& 31).toUInt32).toInt32) ||| (1 : Int32))), .val (.int v3), .val (.int v6), .val (.int v9), .val (.int v12), .val (.int v15), .val (.ref b16), .val (.ref b18), .val (.int (((p6.toUInt32 >>> ((5 : Int32) &&& 31).toUInt32).toInt32) &&& (3 : Int32))), .unset] [])) (fun t k => XS.icmpNo X19.here hx rfl (hb hby at_208) rfl (teq hc208_34).2 k) ?_
                      refine own_st (T' := T19) (g' := (mkF m 212 #[.val (.int p1), .val (.int p2), .val (.int p3), .val (.int p4), .val (.int p5), .val (.int p6), .val (.int (((p6.toUInt32 >>> ((8 : Int32) &&& 31).toUInt32).toInt32) ||| (1 : Int32))), .val (.int v3), .val (.int v6), .val (.int v9), .val (.int v12), .val (.int v15), .val (.ref b16), .val (.ref b18), .val (.int (((p6.toUInt32 >>> ((5 : Int32) &&& 31).toUInt32).toInt32) &&& (3 : Int32))), .unset] [(.int p3)])) (fun t k => XS.iloadN X19.here hx rfl (hb hby at_211) rfl k) ?_
                      refine own_st (T' := T19) (g' := (mkF m 214 #[.val (.int p1), .val (.int p2), .val (.int p3), .val (.int p4), .val (.int p5), .val (.int p6), .val (.int (((p6.toUInt32 >>> ((8 : Int32) &&& 31).toUInt32).toInt32) ||| (1 : Int32))), .val (.int v3), .val (.int v6), .val (.int v9), .val (.int v12), .val (.int v15), .val (.ref b16), .val (.ref b18), .val (.int (((p6.toUInt32 >>> ((5 : Int32) &&& 31).toUInt32).toInt32) &&& (3 : Int32))), .unset] [(.int v9), (.int p3)])) (fun t k => XS.iload X19.here hx rfl (hb hby at_212) rfl k) ?_
                      by_cases hc214_35 : p3 = v9
                      ·
                        refine own_st (T' := T19) (g' := (mkF m 217 #[.val (.int p1), .val (.int p2), .val (.int p3), .val (.int p4), .val (.int p5), .val (.int p6), .val (.int (((p6.toUInt32 >>> ((8 : Int32) &&& 31).toUInt32).toInt32) ||| (1 : Int32))), .val (.int v3), .val (.int v6), .val (.int v9), .val (.int v12), .val (.int v15), .val (.ref b16), .val (.ref b18), .val (.int (((p6.toUInt32 >>> ((5 : Int32) &&& 31).toUInt32).toInt32) &&& (3 : Int32))), .unset] [])) (fun t k => XS.icmpNo X19.here hx rfl (hb hby at_214) rfl (teq hc214_35).2 k) ?_
                        refine own_st (T' := T19) (g' := (mkF m 218 #[.val (.int p1), .val (.int p2), .val (.int p3), .val (.int p4), .val (.int p5), .val (.int p6), .val (.int (((p6.toUInt32 >>> ((8 : Int32) &&& 31).toUInt32).toInt32) ||| (1 : Int32))), .val (.int v3), .val (.int v6), .val (.int v9), .val (.int v12), .val (.int v15), .val (.ref b16), .val (.ref b18), .val (.int (((p6.toUInt32 >>> ((5 : Int32) &&& 31).toUInt32).toInt32) &&& (3 : Int32))), .unset] [(.int p4)])) (fun t k => XS.iloadN X19.here hx rfl (hb hby at_217) rfl k) ?_
                        refine own_st (T' := T19) (g' := (mkF m 220 #[.val (.int p1), .val (.int p2), .val (.int p3), .val (.int p4), .val (.int p5), .val (.int p6), .val (.int (((p6.toUInt32 >>> ((8 : Int32) &&& 31).toUInt32).toInt32) ||| (1 : Int32))), .val (.int v3), .val (.int v6), .val (.int v9), .val (.int v12), .val (.int v15), .val (.ref b16), .val (.ref b18), .val (.int (((p6.toUInt32 >>> ((5 : Int32) &&& 31).toUInt32).toInt32) &&& (3 : Int32))), .unset] [(.int v12), (.int p4)])) (fun t k => XS.iload X19.here hx rfl (hb hby at_218) rfl k) ?_
                        by_cases hc220_36 : p4 = v12
                        ·
                          refine own_st (T' := T19) (g' := (mkF m 223 #[.val (.int p1), .val (.int p2), .val (.int p3), .val (.int p4), .val (.int p5), .val (.int p6), .val (.int (((p6.toUInt32 >>> ((8 : Int32) &&& 31).toUInt32).toInt32) ||| (1 : Int32))), .val (.int v3), .val (.int v6), .val (.int v9), .val (.int v12), .val (.int v15), .val (.ref b16), .val (.ref b18), .val (.int (((p6.toUInt32 >>> ((5 : Int32) &&& 31).toUInt32).toInt32) &&& (3 : Int32))), .unset] [])) (fun t k => XS.icmpNo X19.here hx rfl (hb hby at_220) rfl (teq hc220_36).2 k) ?_
                          refine own_st (T' := T19) (g' := (mkF m 225 #[.val (.int p1), .val (.int p2), .val (.int p3), .val (.int p4), .val (.int p5), .val (.int p6), .val (.int (((p6.toUInt32 >>> ((8 : Int32) &&& 31).toUInt32).toInt32) ||| (1 : Int32))), .val (.int v3), .val (.int v6), .val (.int v9), .val (.int v12), .val (.int v15), .val (.ref b16), .val (.ref b18), .val (.int (((p6.toUInt32 >>> ((5 : Int32) &&& 31).toUInt32).toInt32) &&& (3 : Int32))), .unset] [(.int p5)])) (fun t k => XS.iload X19.here hx rfl (hb hby at_223) rfl k) ?_
                          refine own_st (T' := T19) (g' := (mkF m 227 #[.val (.int p1), .val (.int p2), .val (.int p3), .val (.int p4), .val (.int p5), .val (.int p6), .val (.int (((p6.toUInt32 >>> ((8 : Int32) &&& 31).toUInt32).toInt32) ||| (1 : Int32))), .val (.int v3), .val (.int v6), .val (.int v9), .val (.int v12), .val (.int v15), .val (.ref b16), .val (.ref b18), .val (.int (((p6.toUInt32 >>> ((5 : Int32) &&& 31).toUInt32).toInt32) &&& (3 : Int32))), .unset] [(.int v15), (.int p5)])) (fun t k => XS.iload X19.here hx rfl (hb hby at_225) rfl k) ?_
                          by_cases hc227_37 : p5 = v15
                          ·
                            refine own_st (T' := T19) (g' := (mkF m 230 #[.val (.int p1), .val (.int p2), .val (.int p3), .val (.int p4), .val (.int p5), .val (.int p6), .val (.int (((p6.toUInt32 >>> ((8 : Int32) &&& 31).toUInt32).toInt32) ||| (1 : Int32))), .val (.int v3), .val (.int v6), .val (.int v9), .val (.int v12), .val (.int v15), .val (.ref b16), .val (.ref b18), .val (.int (((p6.toUInt32 >>> ((5 : Int32) &&& 31).toUInt32).toInt32) &&& (3 : Int32))), .unset] [])) (fun t k => XS.icmpNo X19.here hx rfl (hb hby at_227) rfl (teq hc227_37).2 k) ?_
                            refine own_st (T' := T19) (g' := (mkF m 231 #[.val (.int p1), .val (.int p2), .val (.int p3), .val (.int p4), .val (.int p5), .val (.int p6), .val (.int (((p6.toUInt32 >>> ((8 : Int32) &&& 31).toUInt32).toInt32) ||| (1 : Int32))), .val (.int v3), .val (.int v6), .val (.int v9), .val (.int v12), .val (.int v15), .val (.ref b16), .val (.ref b18), .val (.int (((p6.toUInt32 >>> ((5 : Int32) &&& 31).toUInt32).toInt32) &&& (3 : Int32))), .unset] [(.int (1 : Int32))])) (fun t k => XS.iconst X19.here hx rfl (hb hby at_230) k) ?_
                            refine own_st (T' := T19) (g' := (mkF m 235 #[.val (.int p1), .val (.int p2), .val (.int p3), .val (.int p4), .val (.int p5), .val (.int p6), .val (.int (((p6.toUInt32 >>> ((8 : Int32) &&& 31).toUInt32).toInt32) ||| (1 : Int32))), .val (.int v3), .val (.int v6), .val (.int v9), .val (.int v12), .val (.int v15), .val (.ref b16), .val (.ref b18), .val (.int (((p6.toUInt32 >>> ((5 : Int32) &&& 31).toUInt32).toInt32) &&& (3 : Int32))), .unset] [(.int (1 : Int32))])) (fun t k => XS.goto X19.here hx rfl (pc0 := 231) (pc' := 235) rfl (hb hby at_231) (by decide) (by decide) k) ?_
                            exact K28 _ ((if_pos hc202_27).trans ((if_pos hc208_34).trans ((if_pos hc214_35).trans ((if_pos hc220_36).trans (if_pos hc227_37))))).symm
                          ·
                            refine own_st (T' := T19) (g' := (mkF m 234 #[.val (.int p1), .val (.int p2), .val (.int p3), .val (.int p4), .val (.int p5), .val (.int p6), .val (.int (((p6.toUInt32 >>> ((8 : Int32) &&& 31).toUInt32).toInt32) ||| (1 : Int32))), .val (.int v3), .val (.int v6), .val (.int v9), .val (.int v12), .val (.int v15), .val (.ref b16), .val (.ref b18), .val (.int (((p6.toUInt32 >>> ((5 : Int32) &&& 31).toUInt32).toInt32) &&& (3 : Int32))), .unset] [])) (fun t k => XS.icmpYes X19.here hx rfl (pc0 := 227) (pc' := 234) rfl (hb hby at_227) rfl (feq hc227_37).2 (by decide) (by decide) k) ?_
                            refine own_st (T' := T19) (g' := (mkF m 235 #[.val (.int p1), .val (.int p2), .val (.int p3), .val (.int p4), .val (.int p5), .val (.int p6), .val (.int (((p6.toUInt32 >>> ((8 : Int32) &&& 31).toUInt32).toInt32) ||| (1 : Int32))), .val (.int v3), .val (.int v6), .val (.int v9), .val (.int v12), .val (.int v15), .val (.ref b16), .val (.ref b18), .val (.int (((p6.toUInt32 >>> ((5 : Int32) &&& 31).toUInt32).toInt32) &&& (3 : Int32))), .unset] [(.int (0 : Int32))])) (fun t k => XS.iconst X19.here hx rfl (hb hby at_234) k) ?_
                            exact K28 _ ((if_pos hc202_27).trans ((if_pos hc208_34).trans ((if_pos hc214_35).trans ((if_pos hc220_36).trans (if_neg hc227_37))))).symm
                        ·
                          refine own_st (T' := T19) (g' := (mkF m 234 #[.val (.int p1), .val (.int p2), .val (.int p3), .val (.int p4), .val (.int p5), .val (.int p6), .val (.int (((p6.toUInt32 >>> ((8 : Int32) &&& 31).toUInt32).toInt32) ||| (1 : Int32))), .val (.int v3), .val (.int v6), .val (.int v9), .val (.int v12), .val (.int v15), .val (.ref b16), .val (.ref b18), .val (.int (((p6.toUInt32 >>> ((5 : Int32) &&& 31).toUInt32).toInt32) &&& (3 : Int32))), .unset] [])) (fun t k => XS.icmpYes X19.here hx rfl (pc0 := 220) (pc' := 234) rfl (hb hby at_220) rfl (feq hc220_36).2 (by decide) (by decide) k) ?_
                          refine own_st (T' := T19) (g' := (mkF m 235 #[.val (.int p1), .val (.int p2), .val (.int p3), .val (.int p4), .val (.int p5), .val (.int p6), .val (.int (((p6.toUInt32 >>> ((8 : Int32) &&& 31).toUInt32).toInt32) ||| (1 : Int32))), .val (.int v3), .val (.int v6), .val (.int v9), .val (.int v12), .val (.int v15), .val (.ref b16), .val (.ref b18), .val (.int (((p6.toUInt32 >>> ((5 : Int32) &&& 31).toUInt32).toInt32) &&& (3 : Int32))), .unset] [(.int (0 : Int32))])) (fun t k => XS.iconst X19.here hx rfl (hb hby at_234) k) ?_
                          exact K28 _ ((if_pos hc202_27).trans ((if_pos hc208_34).trans ((if_pos hc214_35).trans (if_neg hc220_36)))).symm
                      ·
                        refine own_st (T' := T19) (g' := (mkF m 234 #[.val (.int p1), .val (.int p2), .val (.int p3), .val (.int p4), .val (.int p5), .val (.int p6), .val (.int (((p6.toUInt32 >>> ((8 : Int32) &&& 31).toUInt32).toInt32) ||| (1 : Int32))), .val (.int v3), .val (.int v6), .val (.int v9), .val (.int v12), .val (.int v15), .val (.ref b16), .val (.ref b18), .val (.int (((p6.toUInt32 >>> ((5 : Int32) &&& 31).toUInt32).toInt32) &&& (3 : Int32))), .unset] [])) (fun t k => XS.icmpYes X19.here hx rfl (pc0 := 214) (pc' := 234) rfl (hb hby at_214) rfl (feq hc214_35).2 (by decide) (by decide) k) ?_
                        refine own_st (T' := T19) (g' := (mkF m 235 #[.val (.int p1), .val (.int p2), .val (.int p3), .val (.int p4), .val (.int p5), .val (.int p6), .val (.int (((p6.toUInt32 >>> ((8 : Int32) &&& 31).toUInt32).toInt32) ||| (1 : Int32))), .val (.int v3), .val (.int v6), .val (.int v9), .val (.int v12), .val (.int v15), .val (.ref b16), .val (.ref b18), .val (.int (((p6.toUInt32 >>> ((5 : Int32) &&& 31).toUInt32).toInt32) &&& (3 : Int32))), .unset] [(.int (0 : Int32))])) (fun t k => XS.iconst X19.here hx rfl (hb hby at_234) k) ?_
                        exact K28 _ ((if_pos hc202_27).trans ((if_pos hc208_34).trans (if_neg hc214_35))).symm
                    ·
                      refine own_st (T' := T19) (g' := (mkF m 234 #[.val (.int p1), .val (.int p2), .val (.int p3), .val (.int p4), .val (.int p5), .val (.int p6), .val (.int (((p6.toUInt32 >>> ((8 : Int32) &&& 31).toUInt32).toInt32) ||| (1 : Int32))), .val (.int v3), .val (.int v6), .val (.int v9), .val (.int v12), .val (.int v15), .val (.ref b16), .val (.ref b18), .val (.int (((p6.toUInt32 >>> ((5 : Int32) &&& 31).toUInt32).toInt32) &&& (3 : Int32))), .unset] [])) (fun t k => XS.icmpYes X19.here hx rfl (pc0 := 208) (pc' := 234) rfl (hb hby at_208) rfl (feq hc208_34).2 (by decide) (by decide) k) ?_
                      refine own_st (T' := T19) (g' := (mkF m 235 #[.val (.int p1), .val (.int p2), .val (.int p3), .val (.int p4), .val (.int p5), .val (.int p6), .val (.int (((p6.toUInt32 >>> ((8 : Int32) &&& 31).toUInt32).toInt32) ||| (1 : Int32))), .val (.int v3), .val (.int v6), .val (.int v9), .val (.int v12), .val (.int v15), .val (.ref b16), .val (.ref b18), .val (.int (((p6.toUInt32 >>> ((5 : Int32) &&& 31).toUInt32).toInt32) &&& (3 : Int32))), .unset] [(.int (0 : Int32))])) (fun t k => XS.iconst X19.here hx rfl (hb hby at_234) k) ?_
                      exact K28 _ ((if_pos hc202_27).trans (if_neg hc208_34)).symm
                  ·
                    refine own_st (T' := T19) (g' := (mkF m 234 #[.val (.int p1), .val (.int p2), .val (.int p3), .val (.int p4), .val (.int p5), .val (.int p6), .val (.int (((p6.toUInt32 >>> ((8 : Int32) &&& 31).toUInt32).toInt32) ||| (1 : Int32))), .val (.int v3), .val (.int v6), .val (.int v9), .val (.int v12), .val (.int v15), .val (.ref b16), .val (.ref b18), .val (.int (((p6.toUInt32 >>> ((5 : Int32) &&& 31).toUInt32).toInt32) &&& (3 : Int32))), .unset] [])) (fun t k => XS.icmpYes X19.here hx rfl (pc0 := 202) (pc' := 234) rfl (hb hby at_202) rfl (feq hc202_27).2 (by decide) (by decide) k) ?_
                    refine own_st (T' := T19) (g' := (mkF m 235 #[.val (.int p1), .val (.int p2), .val (.int p3), .val (.int p4), .val (.int p5), .val (.int p6), .val (.int (((p6.toUInt32 >>> ((8 : Int32) &&& 31).toUInt32).toInt32) ||| (1 : Int32))), .val (.int v3), .val (.int v6), .val (.int v9), .val (.int v12), .val (.int v15), .val (.ref b16), .val (.ref b18), .val (.int (((p6.toUInt32 >>> ((5 : Int32) &&& 31).toUInt32).toInt32) &&& (3 : Int32))), .unset] [(.int (0 : Int32))])) (fun t k => XS.iconst X19.here hx rfl (hb hby at_234) k) ?_
                    exact K28 _ (if_neg hc202_27).symm
          by_cases hc83_13 : (p6 &&& (16 : Int32)) = (0 : Int32)
          ·
            refine own_st (T' := s₁) (g' := (mkF m 94 #[.val (.int p1), .val (.int p2), .val (.int p3), .val (.int p4), .val (.int p5), .val (.int p6), .val (.int (((p6.toUInt32 >>> ((8 : Int32) &&& 31).toUInt32).toInt32) ||| (1 : Int32))), .val (.int v3), .val (.int v6), .val (.int v9), .val (.int v12), .unset, .unset, .unset, .unset, .unset] [])) (fun t k => XS.ifYes X0.here hx rfl (pc0 := 83) (pc' := 94) rfl (hb hby at_83) rfl ((if0 _ _).trans (teq hc83_13).1) (by decide) (by decide) k) ?_
            refine own_st (T' := s₁) (g' := (mkF m 96 #[.val (.int p1), .val (.int p2), .val (.int p3), .val (.int p4), .val (.int p5), .val (.int p6), .val (.int (((p6.toUInt32 >>> ((8 : Int32) &&& 31).toUInt32).toInt32) ||| (1 : Int32))), .val (.int v3), .val (.int v6), .val (.int v9), .val (.int v12), .unset, .unset, .unset, .unset, .unset] [(.int p5)])) (fun t k => XS.iload X0.here hx rfl (hb hby at_94) rfl k) ?_
            exact K14 _ (if_pos hc83_13).symm
          ·
            refine own_st (T' := s₁) (g' := (mkF m 86 #[.val (.int p1), .val (.int p2), .val (.int p3), .val (.int p4), .val (.int p5), .val (.int p6), .val (.int (((p6.toUInt32 >>> ((8 : Int32) &&& 31).toUInt32).toInt32) ||| (1 : Int32))), .val (.int v3), .val (.int v6), .val (.int v9), .val (.int v12), .unset, .unset, .unset, .unset, .unset] [])) (fun t k => XS.ifNo X0.here hx rfl (hb hby at_83) rfl ((if0 _ _).trans (feq hc83_13).1) k) ?_
            refine own_st (T' := s₁) (g' := (mkF m 88 #[.val (.int p1), .val (.int p2), .val (.int p3), .val (.int p4), .val (.int p5), .val (.int p6), .val (.int (((p6.toUInt32 >>> ((8 : Int32) &&& 31).toUInt32).toInt32) ||| (1 : Int32))), .val (.int v3), .val (.int v6), .val (.int v9), .val (.int v12), .unset, .unset, .unset, .unset, .unset] [(.int p5)])) (fun t k => XS.iload X0.here hx rfl (hb hby at_86) rfl k) ?_
            refine own_st (T' := s₁) (g' := (mkF m 90 #[.val (.int p1), .val (.int p2), .val (.int p3), .val (.int p4), .val (.int p5), .val (.int p6), .val (.int (((p6.toUInt32 >>> ((8 : Int32) &&& 31).toUInt32).toInt32) ||| (1 : Int32))), .val (.int v3), .val (.int v6), .val (.int v9), .val (.int v12), .unset, .unset, .unset, .unset, .unset] [(.int (((p6.toUInt32 >>> ((8 : Int32) &&& 31).toUInt32).toInt32) ||| (1 : Int32))), (.int p5)])) (fun t k => XS.iload X0.here hx rfl (hb hby at_88) rfl k) ?_
            refine own_st (T' := s₁) (g' := (mkF m 91 #[.val (.int p1), .val (.int p2), .val (.int p3), .val (.int p4), .val (.int p5), .val (.int p6), .val (.int (((p6.toUInt32 >>> ((8 : Int32) &&& 31).toUInt32).toInt32) ||| (1 : Int32))), .val (.int v3), .val (.int v6), .val (.int v9), .val (.int v12), .unset, .unset, .unset, .unset, .unset] [(.int (p5 ^^^ (((p6.toUInt32 >>> ((8 : Int32) &&& 31).toUInt32).toInt32) ||| (1 : Int32))))])) (fun t k => XS.ixor X0.here hx rfl (hb hby at_90) rfl k) ?_
            refine own_st (T' := s₁) (g' := (mkF m 96 #[.val (.int p1), .val (.int p2), .val (.int p3), .val (.int p4), .val (.int p5), .val (.int p6), .val (.int (((p6.toUInt32 >>> ((8 : Int32) &&& 31).toUInt32).toInt32) ||| (1 : Int32))), .val (.int v3), .val (.int v6), .val (.int v9), .val (.int v12), .unset, .unset, .unset, .unset, .unset] [(.int (p5 ^^^ (((p6.toUInt32 >>> ((8 : Int32) &&& 31).toUInt32).toInt32) ||| (1 : Int32))))])) (fun t k => XS.goto X0.here hx rfl (pc0 := 91) (pc' := 96) rfl (hb hby at_91) (by decide) (by decide) k) ?_
            exact K14 _ (if_neg hc83_13).symm
        by_cases hc65_10 : (p6 &&& (8 : Int32)) = (0 : Int32)
        ·
          refine own_st (T' := s₁) (g' := (mkF m 75 #[.val (.int p1), .val (.int p2), .val (.int p3), .val (.int p4), .val (.int p5), .val (.int p6), .val (.int (((p6.toUInt32 >>> ((8 : Int32) &&& 31).toUInt32).toInt32) ||| (1 : Int32))), .val (.int v3), .val (.int v6), .val (.int v9), .unset, .unset, .unset, .unset, .unset, .unset] [])) (fun t k => XS.ifYes X0.here hx rfl (pc0 := 65) (pc' := 75) rfl (hb hby at_65) rfl ((if0 _ _).trans (teq hc65_10).1) (by decide) (by decide) k) ?_
          refine own_st (T' := s₁) (g' := (mkF m 76 #[.val (.int p1), .val (.int p2), .val (.int p3), .val (.int p4), .val (.int p5), .val (.int p6), .val (.int (((p6.toUInt32 >>> ((8 : Int32) &&& 31).toUInt32).toInt32) ||| (1 : Int32))), .val (.int v3), .val (.int v6), .val (.int v9), .unset, .unset, .unset, .unset, .unset, .unset] [(.int p4)])) (fun t k => XS.iloadN X0.here hx rfl (hb hby at_75) rfl k) ?_
          exact K11 _ (if_pos hc65_10).symm
        ·
          refine own_st (T' := s₁) (g' := (mkF m 68 #[.val (.int p1), .val (.int p2), .val (.int p3), .val (.int p4), .val (.int p5), .val (.int p6), .val (.int (((p6.toUInt32 >>> ((8 : Int32) &&& 31).toUInt32).toInt32) ||| (1 : Int32))), .val (.int v3), .val (.int v6), .val (.int v9), .unset, .unset, .unset, .unset, .unset, .unset] [])) (fun t k => XS.ifNo X0.here hx rfl (hb hby at_65) rfl ((if0 _ _).trans (feq hc65_10).1) k) ?_
          refine own_st (T' := s₁) (g' := (mkF m 69 #[.val (.int p1), .val (.int p2), .val (.int p3), .val (.int p4), .val (.int p5), .val (.int p6), .val (.int (((p6.toUInt32 >>> ((8 : Int32) &&& 31).toUInt32).toInt32) ||| (1 : Int32))), .val (.int v3), .val (.int v6), .val (.int v9), .unset, .unset, .unset, .unset, .unset, .unset] [(.int p4)])) (fun t k => XS.iloadN X0.here hx rfl (hb hby at_68) rfl k) ?_
          refine own_st (T' := s₁) (g' := (mkF m 71 #[.val (.int p1), .val (.int p2), .val (.int p3), .val (.int p4), .val (.int p5), .val (.int p6), .val (.int (((p6.toUInt32 >>> ((8 : Int32) &&& 31).toUInt32).toInt32) ||| (1 : Int32))), .val (.int v3), .val (.int v6), .val (.int v9), .unset, .unset, .unset, .unset, .unset, .unset] [(.int (((p6.toUInt32 >>> ((8 : Int32) &&& 31).toUInt32).toInt32) ||| (1 : Int32))), (.int p4)])) (fun t k => XS.iload X0.here hx rfl (hb hby at_69) rfl k) ?_
          refine own_st (T' := s₁) (g' := (mkF m 72 #[.val (.int p1), .val (.int p2), .val (.int p3), .val (.int p4), .val (.int p5), .val (.int p6), .val (.int (((p6.toUInt32 >>> ((8 : Int32) &&& 31).toUInt32).toInt32) ||| (1 : Int32))), .val (.int v3), .val (.int v6), .val (.int v9), .unset, .unset, .unset, .unset, .unset, .unset] [(.int (p4 ^^^ (((p6.toUInt32 >>> ((8 : Int32) &&& 31).toUInt32).toInt32) ||| (1 : Int32))))])) (fun t k => XS.ixor X0.here hx rfl (hb hby at_71) rfl k) ?_
          refine own_st (T' := s₁) (g' := (mkF m 76 #[.val (.int p1), .val (.int p2), .val (.int p3), .val (.int p4), .val (.int p5), .val (.int p6), .val (.int (((p6.toUInt32 >>> ((8 : Int32) &&& 31).toUInt32).toInt32) ||| (1 : Int32))), .val (.int v3), .val (.int v6), .val (.int v9), .unset, .unset, .unset, .unset, .unset, .unset] [(.int (p4 ^^^ (((p6.toUInt32 >>> ((8 : Int32) &&& 31).toUInt32).toInt32) ||| (1 : Int32))))])) (fun t k => XS.goto X0.here hx rfl (pc0 := 72) (pc' := 76) rfl (hb hby at_72) (by decide) (by decide) k) ?_
          exact K11 _ (if_neg hc65_10).symm
      by_cases hc47_7 : (p6 &&& (4 : Int32)) = (0 : Int32)
      ·
        refine own_st (T' := s₁) (g' := (mkF m 57 #[.val (.int p1), .val (.int p2), .val (.int p3), .val (.int p4), .val (.int p5), .val (.int p6), .val (.int (((p6.toUInt32 >>> ((8 : Int32) &&& 31).toUInt32).toInt32) ||| (1 : Int32))), .val (.int v3), .val (.int v6), .unset, .unset, .unset, .unset, .unset, .unset, .unset] [])) (fun t k => XS.ifYes X0.here hx rfl (pc0 := 47) (pc' := 57) rfl (hb hby at_47) rfl ((if0 _ _).trans (teq hc47_7).1) (by decide) (by decide) k) ?_
        refine own_st (T' := s₁) (g' := (mkF m 58 #[.val (.int p1), .val (.int p2), .val (.int p3), .val (.int p4), .val (.int p5), .val (.int p6), .val (.int (((p6.toUInt32 >>> ((8 : Int32) &&& 31).toUInt32).toInt32) ||| (1 : Int32))), .val (.int v3), .val (.int v6), .unset, .unset, .unset, .unset, .unset, .unset, .unset] [(.int p3)])) (fun t k => XS.iloadN X0.here hx rfl (hb hby at_57) rfl k) ?_
        exact K8 _ (if_pos hc47_7).symm
      ·
        refine own_st (T' := s₁) (g' := (mkF m 50 #[.val (.int p1), .val (.int p2), .val (.int p3), .val (.int p4), .val (.int p5), .val (.int p6), .val (.int (((p6.toUInt32 >>> ((8 : Int32) &&& 31).toUInt32).toInt32) ||| (1 : Int32))), .val (.int v3), .val (.int v6), .unset, .unset, .unset, .unset, .unset, .unset, .unset] [])) (fun t k => XS.ifNo X0.here hx rfl (hb hby at_47) rfl ((if0 _ _).trans (feq hc47_7).1) k) ?_
        refine own_st (T' := s₁) (g' := (mkF m 51 #[.val (.int p1), .val (.int p2), .val (.int p3), .val (.int p4), .val (.int p5), .val (.int p6), .val (.int (((p6.toUInt32 >>> ((8 : Int32) &&& 31).toUInt32).toInt32) ||| (1 : Int32))), .val (.int v3), .val (.int v6), .unset, .unset, .unset, .unset, .unset, .unset, .unset] [(.int p3)])) (fun t k => XS.iloadN X0.here hx rfl (hb hby at_50) rfl k) ?_
        refine own_st (T' := s₁) (g' := (mkF m 53 #[.val (.int p1), .val (.int p2), .val (.int p3), .val (.int p4), .val (.int p5), .val (.int p6), .val (.int (((p6.toUInt32 >>> ((8 : Int32) &&& 31).toUInt32).toInt32) ||| (1 : Int32))), .val (.int v3), .val (.int v6), .unset, .unset, .unset, .unset, .unset, .unset, .unset] [(.int (((p6.toUInt32 >>> ((8 : Int32) &&& 31).toUInt32).toInt32) ||| (1 : Int32))), (.int p3)])) (fun t k => XS.iload X0.here hx rfl (hb hby at_51) rfl k) ?_
        refine own_st (T' := s₁) (g' := (mkF m 54 #[.val (.int p1), .val (.int p2), .val (.int p3), .val (.int p4), .val (.int p5), .val (.int p6), .val (.int (((p6.toUInt32 >>> ((8 : Int32) &&& 31).toUInt32).toInt32) ||| (1 : Int32))), .val (.int v3), .val (.int v6), .unset, .unset, .unset, .unset, .unset, .unset, .unset] [(.int (p3 ^^^ (((p6.toUInt32 >>> ((8 : Int32) &&& 31).toUInt32).toInt32) ||| (1 : Int32))))])) (fun t k => XS.ixor X0.here hx rfl (hb hby at_53) rfl k) ?_
        refine own_st (T' := s₁) (g' := (mkF m 58 #[.val (.int p1), .val (.int p2), .val (.int p3), .val (.int p4), .val (.int p5), .val (.int p6), .val (.int (((p6.toUInt32 >>> ((8 : Int32) &&& 31).toUInt32).toInt32) ||| (1 : Int32))), .val (.int v3), .val (.int v6), .unset, .unset, .unset, .unset, .unset, .unset, .unset] [(.int (p3 ^^^ (((p6.toUInt32 >>> ((8 : Int32) &&& 31).toUInt32).toInt32) ||| (1 : Int32))))])) (fun t k => XS.goto X0.here hx rfl (pc0 := 54) (pc' := 58) rfl (hb hby at_54) (by decide) (by decide) k) ?_
        exact K8 _ (if_neg hc47_7).symm
    by_cases hc30_4 : (p6 &&& (2 : Int32)) = (0 : Int32)
    ·
      refine own_st (T' := s₁) (g' := (mkF m 40 #[.val (.int p1), .val (.int p2), .val (.int p3), .val (.int p4), .val (.int p5), .val (.int p6), .val (.int (((p6.toUInt32 >>> ((8 : Int32) &&& 31).toUInt32).toInt32) ||| (1 : Int32))), .val (.int v3), .unset, .unset, .unset, .unset, .unset, .unset, .unset, .unset] [])) (fun t k => XS.ifYes X0.here hx rfl (pc0 := 30) (pc' := 40) rfl (hb hby at_30) rfl ((if0 _ _).trans (teq hc30_4).1) (by decide) (by decide) k) ?_
      refine own_st (T' := s₁) (g' := (mkF m 41 #[.val (.int p1), .val (.int p2), .val (.int p3), .val (.int p4), .val (.int p5), .val (.int p6), .val (.int (((p6.toUInt32 >>> ((8 : Int32) &&& 31).toUInt32).toInt32) ||| (1 : Int32))), .val (.int v3), .unset, .unset, .unset, .unset, .unset, .unset, .unset, .unset] [(.int p2)])) (fun t k => XS.iloadN X0.here hx rfl (hb hby at_40) rfl k) ?_
      exact K5 _ (if_pos hc30_4).symm
    ·
      refine own_st (T' := s₁) (g' := (mkF m 33 #[.val (.int p1), .val (.int p2), .val (.int p3), .val (.int p4), .val (.int p5), .val (.int p6), .val (.int (((p6.toUInt32 >>> ((8 : Int32) &&& 31).toUInt32).toInt32) ||| (1 : Int32))), .val (.int v3), .unset, .unset, .unset, .unset, .unset, .unset, .unset, .unset] [])) (fun t k => XS.ifNo X0.here hx rfl (hb hby at_30) rfl ((if0 _ _).trans (feq hc30_4).1) k) ?_
      refine own_st (T' := s₁) (g' := (mkF m 34 #[.val (.int p1), .val (.int p2), .val (.int p3), .val (.int p4), .val (.int p5), .val (.int p6), .val (.int (((p6.toUInt32 >>> ((8 : Int32) &&& 31).toUInt32).toInt32) ||| (1 : Int32))), .val (.int v3), .unset, .unset, .unset, .unset, .unset, .unset, .unset, .unset] [(.int p2)])) (fun t k => XS.iloadN X0.here hx rfl (hb hby at_33) rfl k) ?_
      refine own_st (T' := s₁) (g' := (mkF m 36 #[.val (.int p1), .val (.int p2), .val (.int p3), .val (.int p4), .val (.int p5), .val (.int p6), .val (.int (((p6.toUInt32 >>> ((8 : Int32) &&& 31).toUInt32).toInt32) ||| (1 : Int32))), .val (.int v3), .unset, .unset, .unset, .unset, .unset, .unset, .unset, .unset] [(.int (((p6.toUInt32 >>> ((8 : Int32) &&& 31).toUInt32).toInt32) ||| (1 : Int32))), (.int p2)])) (fun t k => XS.iload X0.here hx rfl (hb hby at_34) rfl k) ?_
      refine own_st (T' := s₁) (g' := (mkF m 37 #[.val (.int p1), .val (.int p2), .val (.int p3), .val (.int p4), .val (.int p5), .val (.int p6), .val (.int (((p6.toUInt32 >>> ((8 : Int32) &&& 31).toUInt32).toInt32) ||| (1 : Int32))), .val (.int v3), .unset, .unset, .unset, .unset, .unset, .unset, .unset, .unset] [(.int (p2 ^^^ (((p6.toUInt32 >>> ((8 : Int32) &&& 31).toUInt32).toInt32) ||| (1 : Int32))))])) (fun t k => XS.ixor X0.here hx rfl (hb hby at_36) rfl k) ?_
      refine own_st (T' := s₁) (g' := (mkF m 41 #[.val (.int p1), .val (.int p2), .val (.int p3), .val (.int p4), .val (.int p5), .val (.int p6), .val (.int (((p6.toUInt32 >>> ((8 : Int32) &&& 31).toUInt32).toInt32) ||| (1 : Int32))), .val (.int v3), .unset, .unset, .unset, .unset, .unset, .unset, .unset, .unset] [(.int (p2 ^^^ (((p6.toUInt32 >>> ((8 : Int32) &&& 31).toUInt32).toInt32) ||| (1 : Int32))))])) (fun t k => XS.goto X0.here hx rfl (pc0 := 37) (pc' := 41) rfl (hb hby at_37) (by decide) (by decide) k) ?_
      exact K5 _ (if_neg hc30_4).symm
  by_cases hc13_1 : (p6 &&& (1 : Int32)) = (0 : Int32)
  ·
    refine own_st (T' := s₁) (g' := (mkF m 23 #[.val (.int p1), .val (.int p2), .val (.int p3), .val (.int p4), .val (.int p5), .val (.int p6), .val (.int (((p6.toUInt32 >>> ((8 : Int32) &&& 31).toUInt32).toInt32) ||| (1 : Int32))), .unset, .unset, .unset, .unset, .unset, .unset, .unset, .unset, .unset] [])) (fun t k => XS.ifYes X0.here hx rfl (pc0 := 13) (pc' := 23) rfl (hb hby at_13) rfl ((if0 _ _).trans (teq hc13_1).1) (by decide) (by decide) k) ?_
    refine own_st (T' := s₁) (g' := (mkF m 24 #[.val (.int p1), .val (.int p2), .val (.int p3), .val (.int p4), .val (.int p5), .val (.int p6), .val (.int (((p6.toUInt32 >>> ((8 : Int32) &&& 31).toUInt32).toInt32) ||| (1 : Int32))), .unset, .unset, .unset, .unset, .unset, .unset, .unset, .unset, .unset] [(.int p1)])) (fun t k => XS.iloadN X0.here hx rfl (hb hby at_23) rfl k) ?_
    exact K2 _ (if_pos hc13_1).symm
  ·
    refine own_st (T' := s₁) (g' := (mkF m 16 #[.val (.int p1), .val (.int p2), .val (.int p3), .val (.int p4), .val (.int p5), .val (.int p6), .val (.int (((p6.toUInt32 >>> ((8 : Int32) &&& 31).toUInt32).toInt32) ||| (1 : Int32))), .unset, .unset, .unset, .unset, .unset, .unset, .unset, .unset, .unset] [])) (fun t k => XS.ifNo X0.here hx rfl (hb hby at_13) rfl ((if0 _ _).trans (feq hc13_1).1) k) ?_
    refine own_st (T' := s₁) (g' := (mkF m 17 #[.val (.int p1), .val (.int p2), .val (.int p3), .val (.int p4), .val (.int p5), .val (.int p6), .val (.int (((p6.toUInt32 >>> ((8 : Int32) &&& 31).toUInt32).toInt32) ||| (1 : Int32))), .unset, .unset, .unset, .unset, .unset, .unset, .unset, .unset, .unset] [(.int p1)])) (fun t k => XS.iloadN X0.here hx rfl (hb hby at_16) rfl k) ?_
    refine own_st (T' := s₁) (g' := (mkF m 19 #[.val (.int p1), .val (.int p2), .val (.int p3), .val (.int p4), .val (.int p5), .val (.int p6), .val (.int (((p6.toUInt32 >>> ((8 : Int32) &&& 31).toUInt32).toInt32) ||| (1 : Int32))), .unset, .unset, .unset, .unset, .unset, .unset, .unset, .unset, .unset] [(.int (((p6.toUInt32 >>> ((8 : Int32) &&& 31).toUInt32).toInt32) ||| (1 : Int32))), (.int p1)])) (fun t k => XS.iload X0.here hx rfl (hb hby at_17) rfl k) ?_
    refine own_st (T' := s₁) (g' := (mkF m 20 #[.val (.int p1), .val (.int p2), .val (.int p3), .val (.int p4), .val (.int p5), .val (.int p6), .val (.int (((p6.toUInt32 >>> ((8 : Int32) &&& 31).toUInt32).toInt32) ||| (1 : Int32))), .unset, .unset, .unset, .unset, .unset, .unset, .unset, .unset, .unset] [(.int (p1 ^^^ (((p6.toUInt32 >>> ((8 : Int32) &&& 31).toUInt32).toInt32) ||| (1 : Int32))))])) (fun t k => XS.ixor X0.here hx rfl (hb hby at_19) rfl k) ?_
    refine own_st (T' := s₁) (g' := (mkF m 24 #[.val (.int p1), .val (.int p2), .val (.int p3), .val (.int p4), .val (.int p5), .val (.int p6), .val (.int (((p6.toUInt32 >>> ((8 : Int32) &&& 31).toUInt32).toInt32) ||| (1 : Int32))), .unset, .unset, .unset, .unset, .unset, .unset, .unset, .unset, .unset] [(.int (p1 ^^^ (((p6.toUInt32 >>> ((8 : Int32) &&& 31).toUInt32).toInt32) ||| (1 : Int32))))])) (fun t k => XS.goto X0.here hx rfl (pc0 := 20) (pc' := 24) rfl (hb hby at_20) (by decide) (by decide) k) ?_
    exact K2 _ (if_neg hc13_1).symm
set_option maxRecDepth 65536 in
set_option maxHeartbeats 40000000 in
theorem own_comes {Post : Tables → Env → Array Value → State → Outcome → State → Prop} (hpost : ∀ tb e args s v u, (limb_1_1.after args s (.returned v) u = true ∧ limb_1_2.after args s (.returned v) u = true ∧ True) → FrameEnd s (.returned v) u (Jvm.fieldLocs frame_1_writes args s ++ Jvm.arrayLocs frame_1_arrays args s ++ Jvm.staticLocs frame_1_statics s) 16 128 → Post tb e args s (.returned v) u) :
    ArmFor flags0 classFile x code maxLocals ret World_1 tables_1 room_1 Calls_1 rest_1 Pre_1 Post := by
  intro l hfl _ _ p e ha hc hk s m args below hf hA hF happ hP
  obtain ⟨hcalls, hrest, hpre⟩ := hP
  obtain ⟨-, -, -, hnamed, -, -, -, hat⟩ := (Spec.applies_iff hf).mp happ
  obtain ⟨hg, hn⟩ := and_e (Cond.before_iff.mp (show (Jvm.Cond.and given_1 narrow_1).before args s = true from hpre))
  obtain ⟨hcount, hg⟩ := and_e hg
  obtain ⟨w0, w1, w2, w3, w4, w5, rfl⟩ : ∃ w0 w1 w2 w3 w4 w5 : Value, args = #[w0, w1, w2, w3, w4, w5] := by
    have hs : args.size = 6 := by simpa [Cond.value, given_1] using hcount
    obtain ⟨L⟩ := args
    match L, hs with
    | [w0, w1, w2, w3, w4, w5], _ => exact ⟨w0, w1, w2, w3, w4, w5, rfl⟩
  have hw := fun d (hd : d ∈ tables_1) => atoms_spec (ws := Jvm.Cond.code x code maxLocals ret :: tables_1) hat d (List.mem_cons_of_mem _ hd)
  have hfit : Fit s := fun {y c} hc i hi => by
    obtain ⟨ha, rfl⟩ := Array.getElem?_eq_some_iff.mp hc
    have q := List.all_eq_true.mp ((Array.all_eq_true_iff_forall_mem.mp hF) _ (Array.getElem_mem ha)) i (List.mem_range.mpr hi)
    simpa [Array.getElem?_eq_getElem hi] using q
  obtain ⟨g0, hg⟩ := and_e hg
  obtain ⟨i0, ei0⟩ := is_v g0
  obtain rfl : w0 = (.int i0) := Option.some.inj ei0
  obtain ⟨g1, hg⟩ := and_e hg
  obtain ⟨i1, ei1⟩ := is_v g1
  obtain rfl : w1 = (.int i1) := Option.some.inj ei1
  obtain ⟨g2, hg⟩ := and_e hg
  obtain ⟨i2, ei2⟩ := is_v g2
  obtain rfl : w2 = (.int i2) := Option.some.inj ei2
  obtain ⟨g3, hg⟩ := and_e hg
  obtain ⟨i3, ei3⟩ := is_v g3
  obtain rfl : w3 = (.int i3) := Option.some.inj ei3
  obtain ⟨g4, hg⟩ := and_e hg
  obtain ⟨i4, ei4⟩ := is_v g4
  obtain rfl : w4 = (.int i4) := Option.some.inj ei4
  have g5 := hg
  obtain ⟨i5, ei5⟩ := is_v g5
  obtain rfl : w5 = (.int i5) := Option.some.inj ei5
  obtain ⟨hsets, hown0⟩ := atoms_of _ (rest_1_c_eq ▸ (show rest_1_c.before _ s = true from hrest))
  have e_high := eqv_i (Term.int_eval (127)) (Cond.before_iff.mp (hsets _ (List.mem_of_getElem? (i := 3) rfl)))
  have S_high : Sta s s.heap "java/lang/Integer$IntegerCache" "high" "I" (.int 127) := Sta.start e_high (Or.inl (hsets _ (List.mem_of_getElem? (i := 1) rfl)))
  obtain ⟨s_cache, _, _, _, e_cache, -⟩ := Cond.exactly_spec (hsets _ (List.mem_of_getElem? (i := 5) rfl))
  have S_cache : Sta s s.heap "java/lang/Integer$IntegerCache" "cache" "[Ljava/lang/Integer;" (.ref s_cache) := Sta.start e_cache (Or.inr ⟨(hw _ (List.mem_of_getElem? (i := 54) rfl)), (hsets _ (List.mem_of_getElem? (i := 2) rfl))⟩)
  obtain ⟨cc, A_cache⟩ := Arr.start e_cache (Cond.before_iff.mp (hsets _ (List.mem_of_getElem? (i := 4) rfl)))
  obtain ⟨q1_cache, q2_cache⟩ := Jvm.Free.IntBox.length_fwd (hsets _ (List.mem_of_getElem? (i := 6) rfl)) e_cache A_cache.1 A_cache.2.1 A_cache.2.2
  have B_cache : Bxs s s_cache cc "java/lang/Integer" "I" 256 (fun j => .int (j - 128)) := Bxs.start (fun _ => e_cache) A_cache q1_cache q2_cache (by decide) (Cond.before_iff.mp (hsets _ (List.mem_of_getElem? (i := 7) rfl))) (fun X j nn h => eqv_i (by simp [Term.eval, idx_at nn]; first | rfl | (rw [(back32 nn).1])) h)
  obtain ⟨n, o, h1, h2, h3, _, L, rfl, ⟨rfl, N⟩, hq⟩ := own_rm0 l s _ hw s.heap     s.heap.size (Nat.le_refl _) i0 i1 i2 i3 i4 i5 (Old.start s) s_cache cc S_high S_cache B_cache p e ha hc hk s m _ below hf ((Spec.applies_iff_loose hf).mp happ).1 ⟨rfl, State.Warmed39.refl s, rfl⟩ trivial
  exact ⟨n, _, h1, h2, h3, hpost _ _ _ _ _ _ ⟨Cond.after_iff.mpr rfl, Cond.after_iff.mpr (eq_i res_at (Term.int_eval (1)) rfl), trivial⟩ ⟨hq.1, hq.2.1, (hq.2.2.sift fun y hy => Or.inr (N y hy)).mono (by decide) (by decide)⟩⟩
theorem main_1_1 : Claimed_1_1 := own_comes fun _ _ _ _ _ _ h hF => ⟨h.1, hF⟩
theorem main_1_2 : Claimed_1_2 := own_comes fun _ _ _ _ _ _ h hF => ⟨h.2.1, hF⟩
end Jvm.Pilot.@@N@@
namespace Jvm.Pilot.@@N@@
open Jvm Jvm.ClassFile Sem Op Lib Jvm.Free Jvm.Stand Jvm.Pilot.@@N@@.Jvm.D
/-! MADE BY PROGRAM (witnessworld.py) out of the Statement's table words and the real class files: 17 classes; the members and pool entries that the words name. The judged class is class 1, her method 1. -/
namespace start1
open Jvm.ClassFile
def u (s : String) : CpInfo := .utf8 (stringToUtf16 s)
/-- a pool by its gaps: so many unusable entries, then the entry; so many at the end -/
def gap : Nat → List CpInfo → List CpInfo
  | 0, r => r
  | n + 1, r => .unusable :: gap n r
def poolList (es : List (Nat × CpInfo)) (last : Nat) : List CpInfo := es.foldr (fun e r => gap e.1 (e.2 :: r)) (gap last [])
def pool (es : List (Nat × CpInfo)) (last : Nat) : Array CpInfo := ⟨poolList es last⟩
def fileOf (pool : Array CpInfo) (this : Nat) (attrs : Array Attribute := #[]) (ms : Array MethodInfo := #[]) (fl : Nat := 33) (sup : Nat := 0) (ifs : Array Nat := #[]) (fds : Array FieldInfo := #[]) : ClassFile where
  minorVersion := 0
  majorVersion := 65
  constantPool := pool
  accessFlags := fl
  thisClass := this
  superClass := sup
  interfaces := ifs
  fields := fds
  methods := ms
  attributes := attrs
def plain (name : String) (sup : Option ClassId) : Class where
  name := name
  kind := .ordinary
  loader := none
  accessFlags := 33
  super := sup
  interfaces := #[]
  cf := none
  fields := #[]
  methods := #[]
  instanceTypes := #[]
  staticTypes := #[]
  resolved := #[]
  callSites := []
  init := .initialized
  statics := none
  mirror := none

def pool0 : Array CpInfo := pool [(5, u "<init>"), (0, u "()V"), (1, .class_ 10), (1, u "java/lang/Object")] 113

def k0c0 : Code := { maxStack := 0, maxLocals := 1, code := object_method_1_code, exceptionTable := #[], attributes := #[] }
def k0m0 : Method := { name := "<init>", desc := "()V", sig := { parameters := [], returnType := none }, accessFlags := 1, code := some k0c0 }
/-- java/lang/Object -/
def k0 : Class := { plain "java/lang/Object" none with
  accessFlags := 33
  interfaces := #[]
  cf := some (fileOf pool0 8 #[] #[{ accessFlags := 1, nameIndex := 5, descriptorIndex := 6, attributes := #[] }] 33 0 #[] #[])
  fields := #[]
  methods := #[k0m0]
  instanceTypes := #[]
  staticTypes := #[]
  resolved := Array.replicate 124 none
  statics := none }

def pool1 : Array CpInfo := pool [(2, .class_ 4), (1, u "java/lang/Object"), (0, u "<init>"), (0, u "()V"), (0, .class_ 8), (0, u "com/example/nullward/nullward/Elements"), (0, .methodref 7 10), (0, .nameAndType 5 11), (0, u "(IIIII)V"), (0, .methodref 7 13), (0, .nameAndType 14 15), (0, u "equals"), (0, u "(Ljava/lang/Object;)Z"), (0, .methodref 17 18), (0, .class_ 19), (0, .nameAndType 20 21), (0, u "java/lang/Integer"), (0, u "valueOf"), (0, u "(I)Ljava/lang/Integer;"), (0, .class_ 23), (0, u "com/example/nullward/nullward/ElementsEqualsPinLaw"), (2, u "law"), (0, u "(IIIIII)Z")] 3

def k1m0 : Method := { name := "<init>", desc := "()V", sig := { parameters := [], returnType := none }, accessFlags := 1, code := none }
def k1c1 : Code := { maxStack := 7, maxLocals := 16, code := code, exceptionTable := #[], attributes := #[] }
def k1m1 : Method := { name := "law", desc := "(IIIIII)Z", sig := { parameters := [.int, .int, .int, .int, .int, .int], returnType := some .boolean }, accessFlags := 9, code := some k1c1 }
/-- com/example/nullward/nullward/ElementsEqualsPinLaw -/
def k1 : Class := { plain "com/example/nullward/nullward/ElementsEqualsPinLaw" (some 0) with
  accessFlags := 49
  interfaces := #[]
  cf := some (fileOf pool1 22 #[] #[{ accessFlags := 1, nameIndex := 5, descriptorIndex := 6, attributes := #[] }, { accessFlags := 9, nameIndex := 26, descriptorIndex := 27, attributes := #[] }] 49 2 #[] #[])
  fields := #[]
  methods := #[k1m0, k1m1]
  instanceTypes := #[]
  staticTypes := #[]
  resolved := Array.replicate 31 none
  statics := none }

def pool2 : Array CpInfo := pool [(1, .methodref 2 3), (0, .class_ 4), (0, .nameAndType 5 6), (0, u "java/lang/Object"), (0, u "<init>"), (0, u "()V"), (0, .class_ 8), (0, u "java/lang/Record")] 13

def k2c0 : Code := { maxStack := 1, maxLocals := 1, code := jdk_30_method_1_code, exceptionTable := #[], attributes := #[] }
def k2m0 : Method := { name := "<init>", desc := "()V", sig := { parameters := [], returnType := none }, accessFlags := 4, code := some k2c0 }
/-- java/lang/Record -/
def k2 : Class := { plain "java/lang/Record" (some 0) with
  accessFlags := 1057
  interfaces := #[]
  cf := some (fileOf pool2 7 #[] #[{ accessFlags := 4, nameIndex := 5, descriptorIndex := 6, attributes := #[] }] 1057 2 #[] #[])
  fields := #[]
  methods := #[k2m0]
  instanceTypes := #[]
  staticTypes := #[]
  resolved := Array.replicate 22 none
  statics := none }

def pool3 : Array CpInfo := pool [(3, .methodref 4 5), (0, .class_ 6), (0, .nameAndType 7 8), (0, u "java/lang/Record"), (0, u "<init>"), (0, u "()V"), (0, .fieldref 10 11), (0, .class_ 12), (0, .nameAndType 13 14), (0, u "com/example/nullward/nullward/Elements"), (0, u "length"), (0, u "I"), (0, .fieldref 10 16), (0, .nameAndType 17 14), (0, u "filled"), (0, .fieldref 10 19), (0, .nameAndType 20 14), (0, u "lengthLocal"), (0, .fieldref 10 22), (0, .nameAndType 23 14), (0, u "indexLocal"), (0, .fieldref 10 25), (0, .nameAndType 26 14), (0, u "past"), (2, u "(IIIII)V"), (2, u "NON_NULL"), (0, u "Lcom/example/nullward/nullward/Elements;"), (10, u "equals"), (0, u "(Ljava/lang/Object;)Z"), (2, u "UNKNOWN"), (6, u "OF_FIELDS"), (0, u "ALL"), (1, u "NONE"), (1, u "FIELDS"), (1, u "IN_LOOP")] 42

def k3c0 : Code := { maxStack := 2, maxLocals := 6, code := prog_4_method_2_code, exceptionTable := #[], attributes := #[] }
def k3m0 : Method := { name := "<init>", desc := "(IIIII)V", sig := { parameters := [.int, .int, .int, .int, .int], returnType := none }, accessFlags := 0, code := some k3c0 }
def k3c1 : Code := { maxStack := 2, maxLocals := 3, code := prog_4_method_10_code, exceptionTable := #[], attributes := #[] }
def k3m1 : Method := { name := "equals", desc := "(Ljava/lang/Object;)Z", sig := { parameters := [(.object "java/lang/Object")], returnType := some .boolean }, accessFlags := 1, code := some k3c1 }
/-- com/example/nullward/nullward/Elements -/
def k3 : Class := { plain "com/example/nullward/nullward/Elements" (some 2) with
  accessFlags := 48
  interfaces := #[]
  cf := some (fileOf pool3 10 #[] #[{ accessFlags := 0, nameIndex := 7, descriptorIndex := 29, attributes := #[] }, { accessFlags := 1, nameIndex := 44, descriptorIndex := 45, attributes := #[] }] 48 4 #[] #[{ accessFlags := 18, nameIndex := 13, descriptorIndex := 14, attributes := #[] }, { accessFlags := 18, nameIndex := 17, descriptorIndex := 14, attributes := #[] }, { accessFlags := 18, nameIndex := 20, descriptorIndex := 14, attributes := #[] }, { accessFlags := 18, nameIndex := 23, descriptorIndex := 14, attributes := #[] }, { accessFlags := 18, nameIndex := 26, descriptorIndex := 14, attributes := #[] }, { accessFlags := 24, nameIndex := 56, descriptorIndex := 14, attributes := #[] }, { accessFlags := 24, nameIndex := 58, descriptorIndex := 14, attributes := #[] }, { accessFlags := 24, nameIndex := 60, descriptorIndex := 14, attributes := #[] }, { accessFlags := 24, nameIndex := 62, descriptorIndex := 14, attributes := #[] }, { accessFlags := 24, nameIndex := 48, descriptorIndex := 33, attributes := #[] }, { accessFlags := 24, nameIndex := 32, descriptorIndex := 33, attributes := #[] }, { accessFlags := 24, nameIndex := 55, descriptorIndex := 33, attributes := #[] }])
  fields := #[{ name := "length", type := .int, accessFlags := 18, slot := 0, constantValue := 0 }, { name := "filled", type := .int, accessFlags := 18, slot := 1, constantValue := 0 }, { name := "lengthLocal", type := .int, accessFlags := 18, slot := 2, constantValue := 0 }, { name := "indexLocal", type := .int, accessFlags := 18, slot := 3, constantValue := 0 }, { name := "past", type := .int, accessFlags := 18, slot := 4, constantValue := 0 }, { name := "ALL", type := .int, accessFlags := 24, slot := 0, constantValue := 0 }, { name := "NONE", type := .int, accessFlags := 24, slot := 1, constantValue := 0 }, { name := "FIELDS", type := .int, accessFlags := 24, slot := 2, constantValue := 0 }, { name := "IN_LOOP", type := .int, accessFlags := 24, slot := 3, constantValue := 0 }, { name := "UNKNOWN", type := (.object "com/example/nullward/nullward/Elements"), accessFlags := 24, slot := 4, constantValue := 0 }, { name := "NON_NULL", type := (.object "com/example/nullward/nullward/Elements"), accessFlags := 24, slot := 5, constantValue := 0 }, { name := "OF_FIELDS", type := (.object "com/example/nullward/nullward/Elements"), accessFlags := 24, slot := 6, constantValue := 0 }]
  methods := #[k3m0, k3m1]
  instanceTypes := #[.int, .int, .int, .int, .int]
  staticTypes := #[.int, .int, .int, .int, (.object "com/example/nullward/nullward/Elements"), (.object "com/example/nullward/nullward/Elements"), (.object "com/example/nullward/nullward/Elements")]
  resolved := Array.replicate 105 none
  statics := none }

def pool4 : Array CpInfo := pool [(1, .class_ 2), (0, u "java/io/Serializable"), (0, .class_ 4), (0, u "java/lang/Object")] 2

/-- java/io/Serializable -/
def k4 : Class := { plain "java/io/Serializable" (some 0) with
  accessFlags := 1537
  interfaces := #[]
  cf := some (fileOf pool4 1 #[] #[] 1537 3 #[] #[])
  fields := #[]
  methods := #[]
  instanceTypes := #[]
  staticTypes := #[]
  resolved := Array.replicate 7 none
  statics := none }

def pool5 : Array CpInfo := pool [(1, .methodref 2 3), (0, .class_ 4), (0, .nameAndType 5 6), (0, u "java/lang/Object"), (0, u "<init>"), (0, u "()V"), (1, .class_ 10), (1, u "java/lang/Number"), (2, .class_ 14), (0, u "java/io/Serializable"), (0, u "serialVersionUID"), (0, u "J")] 20

def k5c0 : Code := { maxStack := 1, maxLocals := 1, code := jdk_18_method_1_code, exceptionTable := #[], attributes := #[] }
def k5m0 : Method := { name := "<init>", desc := "()V", sig := { parameters := [], returnType := none }, accessFlags := 1, code := some k5c0 }
/-- java/lang/Number -/
def k5 : Class := { plain "java/lang/Number" (some 0) with
  accessFlags := 1057
  interfaces := #[4]
  cf := some (fileOf pool5 8 #[] #[{ accessFlags := 1, nameIndex := 5, descriptorIndex := 6, attributes := #[] }] 1057 2 #[13] #[{ accessFlags := 26, nameIndex := 15, descriptorIndex := 16, attributes := #[] }])
  fields := #[{ name := "serialVersionUID", type := .long, accessFlags := 26, slot := 0, constantValue := 0 }]
  methods := #[k5m0]
  instanceTypes := #[]
  staticTypes := #[.long]
  resolved := Array.replicate 37 none
  statics := none }

def pool6 : Array CpInfo := pool [(1, .class_ 2), (0, u "java/lang/Comparable"), (0, .class_ 4), (0, u "java/lang/Object")] 7

/-- java/lang/Comparable -/
def k6 : Class := { plain "java/lang/Comparable" (some 0) with
  accessFlags := 1537
  interfaces := #[]
  cf := some (fileOf pool6 1 #[] #[] 1537 3 #[] #[])
  fields := #[]
  methods := #[]
  instanceTypes := #[]
  staticTypes := #[]
  resolved := Array.replicate 12 none
  statics := none }

def pool7 : Array CpInfo := pool [(1, .class_ 2), (0, u "java/lang/constant/Constable"), (0, .class_ 4), (0, u "java/lang/Object")] 6

/-- java/lang/constant/Constable -/
def k7 : Class := { plain "java/lang/constant/Constable" (some 0) with
  accessFlags := 1537
  interfaces := #[]
  cf := some (fileOf pool7 1 #[] #[] 1537 3 #[] #[])
  fields := #[]
  methods := #[]
  instanceTypes := #[]
  staticTypes := #[]
  resolved := Array.replicate 11 none
  statics := none }

def pool8 : Array CpInfo := pool [(1, .class_ 2), (0, u "java/lang/constant/ConstantDesc"), (0, .class_ 4), (0, u "java/lang/Object")] 32

/-- java/lang/constant/ConstantDesc -/
def k8 : Class := { plain "java/lang/constant/ConstantDesc" (some 0) with
  accessFlags := 1537
  interfaces := #[]
  cf := some (fileOf pool8 1 #[] #[] 1537 3 #[] #[])
  fields := #[]
  methods := #[]
  instanceTypes := #[]
  staticTypes := #[]
  resolved := Array.replicate 37 none
  statics := none }

def pool9 : Array CpInfo := pool [(1, .class_ 2), (0, u "java/lang/Integer"), (16, u "digits"), (0, u "[C"), (46, u "<init>"), (17, u "DigitOnes"), (0, u "[B"), (2, u "DigitTens"), (10, .nameAndType 67 101), (0, u "()V"), (85, u "valueOf"), (0, u "(I)Ljava/lang/Integer;"), (0, .class_ 190), (0, u "java/lang/Integer$IntegerCache"), (0, .fieldref 189 192), (0, .nameAndType 193 194), (0, u "high"), (0, u "I"), (0, .fieldref 189 196), (0, .nameAndType 197 198), (0, u "cache"), (0, u "[Ljava/lang/Integer;"), (0, .methodref 1 200), (0, .nameAndType 67 201), (0, u "(I)V"), (0, .methodref 203 100), (0, .class_ 204), (0, u "java/lang/Number"), (0, .fieldref 1 206), (0, .nameAndType 207 194), (0, u "value"), (94, u "TYPE"), (0, u "Ljava/lang/Class;"), (0, .class_ 305), (0, u "java/lang/Comparable"), (0, .class_ 307), (0, u "java/lang/constant/Constable"), (0, .class_ 309), (0, u "java/lang/constant/ConstantDesc"), (0, u "MIN_VALUE"), (1, u "MAX_VALUE"), (3, u "SIZE"), (1, u "BYTES"), (1, u "serialVersionUID"), (0, u "J")] 131

def k9c0 : Code := { maxStack := 3, maxLocals := 1, code := jdk_33_method_22_code, exceptionTable := #[], attributes := #[] }
def k9m0 : Method := { name := "valueOf", desc := "(I)Ljava/lang/Integer;", sig := { parameters := [.int], returnType := some (.object "java/lang/Integer") }, accessFlags := 9, code := some k9c0 }
def k9c1 : Code := { maxStack := 2, maxLocals := 2, code := jdk_33_method_23_code, exceptionTable := #[], attributes := #[] }
def k9m1 : Method := { name := "<init>", desc := "(I)V", sig := { parameters := [.int], returnType := none }, accessFlags := 1, code := some k9c1 }
/-- java/lang/Integer -/
def k9 : Class := { plain "java/lang/Integer" (some 5) with
  accessFlags := 49
  interfaces := #[6, 7, 8]
  cf := some (fileOf pool9 1 #[.nestMembers #[189]] #[{ accessFlags := 9, nameIndex := 187, descriptorIndex := 188, attributes := #[] }, { accessFlags := 1, nameIndex := 67, descriptorIndex := 201, attributes := #[] }] 49 203 #[304, 306, 308] #[{ accessFlags := 25, nameIndex := 310, descriptorIndex := 194, attributes := #[] }, { accessFlags := 25, nameIndex := 312, descriptorIndex := 194, attributes := #[] }, { accessFlags := 25, nameIndex := 302, descriptorIndex := 303, attributes := #[] }, { accessFlags := 24, nameIndex := 19, descriptorIndex := 20, attributes := #[] }, { accessFlags := 24, nameIndex := 89, descriptorIndex := 86, attributes := #[] }, { accessFlags := 24, nameIndex := 85, descriptorIndex := 86, attributes := #[] }, { accessFlags := 18, nameIndex := 207, descriptorIndex := 194, attributes := #[] }, { accessFlags := 25, nameIndex := 316, descriptorIndex := 194, attributes := #[] }, { accessFlags := 25, nameIndex := 318, descriptorIndex := 194, attributes := #[] }, { accessFlags := 26, nameIndex := 320, descriptorIndex := 321, attributes := #[] }])
  fields := #[{ name := "MIN_VALUE", type := .int, accessFlags := 25, slot := 0, constantValue := 0 }, { name := "MAX_VALUE", type := .int, accessFlags := 25, slot := 1, constantValue := 0 }, { name := "TYPE", type := (.object "java/lang/Class"), accessFlags := 25, slot := 2, constantValue := 0 }, { name := "digits", type := (.array .char), accessFlags := 24, slot := 3, constantValue := 0 }, { name := "DigitTens", type := (.array .byte), accessFlags := 24, slot := 4, constantValue := 0 }, { name := "DigitOnes", type := (.array .byte), accessFlags := 24, slot := 5, constantValue := 0 }, { name := "value", type := .int, accessFlags := 18, slot := 0, constantValue := 0 }, { name := "SIZE", type := .int, accessFlags := 25, slot := 6, constantValue := 0 }, { name := "BYTES", type := .int, accessFlags := 25, slot := 7, constantValue := 0 }, { name := "serialVersionUID", type := .long, accessFlags := 26, slot := 8, constantValue := 0 }]
  methods := #[k9m0, k9m1]
  instanceTypes := #[.int]
  staticTypes := #[.int, .int, (.object "java/lang/Class"), (.array .char), (.array .byte), (.array .byte), .int, .int, .long]
  resolved := Array.replicate 453 none
  statics := none }

def pool10 : Array CpInfo := pool [(2, .class_ 4), (1, u "java/lang/Object"), (0, u "<init>"), (0, u "()V"), (0, .class_ 8), (0, u "java/lang/Integer"), (7, .class_ 18), (1, u "java/lang/Integer$IntegerCache"), (0, u "$assertionsDisabled"), (0, u "Z"), (26, u "high"), (0, u "I"), (8, u "archivedCache"), (0, u "[Ljava/lang/Integer;"), (12, u "cache"), (0, u "low")] 27

def k10m0 : Method := { name := "<init>", desc := "()V", sig := { parameters := [], returnType := none }, accessFlags := 2, code := none }
/-- java/lang/Integer$IntegerCache -/
def k10 : Class := { plain "java/lang/Integer$IntegerCache" (some 0) with
  accessFlags := 48
  interfaces := #[]
  cf := some (fileOf pool10 16 #[.nestHost 7] #[{ accessFlags := 2, nameIndex := 5, descriptorIndex := 6, attributes := #[] }] 48 2 #[] #[{ accessFlags := 24, nameIndex := 72, descriptorIndex := 48, attributes := #[] }, { accessFlags := 24, nameIndex := 47, descriptorIndex := 48, attributes := #[] }, { accessFlags := 24, nameIndex := 71, descriptorIndex := 58, attributes := #[] }, { accessFlags := 8, nameIndex := 57, descriptorIndex := 58, attributes := #[] }, { accessFlags := 4120, nameIndex := 19, descriptorIndex := 20, attributes := #[] }])
  fields := #[{ name := "low", type := .int, accessFlags := 24, slot := 0, constantValue := 0 }, { name := "high", type := .int, accessFlags := 24, slot := 1, constantValue := 0 }, { name := "cache", type := (.array (.object "java/lang/Integer")), accessFlags := 24, slot := 2, constantValue := 0 }, { name := "archivedCache", type := (.array (.object "java/lang/Integer")), accessFlags := 8, slot := 3, constantValue := 0 }, { name := "$assertionsDisabled", type := .boolean, accessFlags := 4120, slot := 4, constantValue := 0 }]
  methods := #[k10m0]
  instanceTypes := #[]
  staticTypes := #[.int, .int, (.array (.object "java/lang/Integer")), (.array (.object "java/lang/Integer")), .boolean]
  resolved := Array.replicate 100 none
  statics := some 0 }

def pool11 : Array CpInfo := pool [(1, u "java/lang/Cloneable"), (0, .class_ 1), (0, u "java/lang/Object"), (0, .class_ 3)] 3

/-- java/lang/Cloneable -/
def k11 : Class := { plain "java/lang/Cloneable" (some 0) with
  accessFlags := 1537
  interfaces := #[]
  cf := some (fileOf pool11 2 #[] #[] 1537 4 #[] #[])
  fields := #[]
  methods := #[]
  instanceTypes := #[]
  staticTypes := #[]
  resolved := Array.replicate 8 none
  statics := none }

/-- the primitive byte -/
def k12 : Class := { plain "byte" none with kind := .primitive 'B', accessFlags := 0x411 }
/-- [B -/
def k13 : Class := { plain "[B" (some 0) with kind := .array 12 .byte, interfaces := #[11, 4], accessFlags := 1041 }

/-- the primitive int -/
def k14 : Class := { plain "int" none with kind := .primitive 'I', accessFlags := 0x411 }
/-- [I -/
def k15 : Class := { plain "[I" (some 0) with kind := .array 14 .int, interfaces := #[11, 4], accessFlags := 1041 }

/-- [Ljava/lang/Integer; -/
def k16 : Class := { plain "[Ljava/lang/Integer;" (some 0) with kind := .array 9 (.object "java/lang/Integer"), interfaces := #[11, 4], accessFlags := 1041 }

def heap : Heap := #[{ cls := 10, slots := #[.int 0, .int 127, .ref 1, .null, .int 0], vm := .statics 10 },
  { cls := 16, slots := #[.ref 2, .ref 3, .ref 4, .ref 5, .ref 6, .ref 7, .ref 8, .ref 9, .ref 10, .ref 11, .ref 12, .ref 13, .ref 14, .ref 15, .ref 16, .ref 17, .ref 18, .ref 19, .ref 20, .ref 21, .ref 22, .ref 23, .ref 24, .ref 25, .ref 26, .ref 27, .ref 28, .ref 29, .ref 30, .ref 31, .ref 32, .ref 33, .ref 34, .ref 35, .ref 36, .ref 37, .ref 38, .ref 39, .ref 40, .ref 41, .ref 42, .ref 43, .ref 44, .ref 45, .ref 46, .ref 47, .ref 48, .ref 49, .ref 50, .ref 51, .ref 52, .ref 53, .ref 54, .ref 55, .ref 56, .ref 57, .ref 58, .ref 59, .ref 60, .ref 61, .ref 62, .ref 63, .ref 64, .ref 65, .ref 66, .ref 67, .ref 68, .ref 69, .ref 70, .ref 71, .ref 72, .ref 73, .ref 74, .ref 75, .ref 76, .ref 77, .ref 78, .ref 79, .ref 80, .ref 81, .ref 82, .ref 83, .ref 84, .ref 85, .ref 86, .ref 87, .ref 88, .ref 89, .ref 90, .ref 91, .ref 92, .ref 93, .ref 94, .ref 95, .ref 96, .ref 97, .ref 98, .ref 99, .ref 100, .ref 101, .ref 102, .ref 103, .ref 104, .ref 105, .ref 106, .ref 107, .ref 108, .ref 109, .ref 110, .ref 111, .ref 112, .ref 113, .ref 114, .ref 115, .ref 116, .ref 117, .ref 118, .ref 119, .ref 120, .ref 121, .ref 122, .ref 123, .ref 124, .ref 125, .ref 126, .ref 127, .ref 128, .ref 129, .ref 130, .ref 131, .ref 132, .ref 133, .ref 134, .ref 135, .ref 136, .ref 137, .ref 138, .ref 139, .ref 140, .ref 141, .ref 142, .ref 143, .ref 144, .ref 145, .ref 146, .ref 147, .ref 148, .ref 149, .ref 150, .ref 151, .ref 152, .ref 153, .ref 154, .ref 155, .ref 156, .ref 157, .ref 158, .ref 159, .ref 160, .ref 161, .ref 162, .ref 163, .ref 164, .ref 165, .ref 166, .ref 167, .ref 168, .ref 169, .ref 170, .ref 171, .ref 172, .ref 173, .ref 174, .ref 175, .ref 176, .ref 177, .ref 178, .ref 179, .ref 180, .ref 181, .ref 182, .ref 183, .ref 184, .ref 185, .ref 186, .ref 187, .ref 188, .ref 189, .ref 190, .ref 191, .ref 192, .ref 193, .ref 194, .ref 195, .ref 196, .ref 197, .ref 198, .ref 199, .ref 200, .ref 201, .ref 202, .ref 203, .ref 204, .ref 205, .ref 206, .ref 207, .ref 208, .ref 209, .ref 210, .ref 211, .ref 212, .ref 213, .ref 214, .ref 215, .ref 216, .ref 217, .ref 218, .ref 219, .ref 220, .ref 221, .ref 222, .ref 223, .ref 224, .ref 225, .ref 226, .ref 227, .ref 228, .ref 229, .ref 230, .ref 231, .ref 232, .ref 233, .ref 234, .ref 235, .ref 236, .ref 237, .ref 238, .ref 239, .ref 240, .ref 241, .ref 242, .ref 243, .ref 244, .ref 245, .ref 246, .ref 247, .ref 248, .ref 249, .ref 250, .ref 251, .ref 252, .ref 253, .ref 254, .ref 255, .ref 256, .ref 257], vm := .none },
  { cls := 9, slots := #[.int (-128)], vm := .none },
  { cls := 9, slots := #[.int (-127)], vm := .none },
  { cls := 9, slots := #[.int (-126)], vm := .none },
  { cls := 9, slots := #[.int (-125)], vm := .none },
  { cls := 9, slots := #[.int (-124)], vm := .none },
  { cls := 9, slots := #[.int (-123)], vm := .none },
  { cls := 9, slots := #[.int (-122)], vm := .none },
  { cls := 9, slots := #[.int (-121)], vm := .none },
  { cls := 9, slots := #[.int (-120)], vm := .none },
  { cls := 9, slots := #[.int (-119)], vm := .none },
  { cls := 9, slots := #[.int (-118)], vm := .none },
  { cls := 9, slots := #[.int (-117)], vm := .none },
  { cls := 9, slots := #[.int (-116)], vm := .none },
  { cls := 9, slots := #[.int (-115)], vm := .none },
  { cls := 9, slots := #[.int (-114)], vm := .none },
  { cls := 9, slots := #[.int (-113)], vm := .none },
  { cls := 9, slots := #[.int (-112)], vm := .none },
  { cls := 9, slots := #[.int (-111)], vm := .none },
  { cls := 9, slots := #[.int (-110)], vm := .none },
  { cls := 9, slots := #[.int (-109)], vm := .none },
  { cls := 9, slots := #[.int (-108)], vm := .none },
  { cls := 9, slots := #[.int (-107)], vm := .none },
  { cls := 9, slots := #[.int (-106)], vm := .none },
  { cls := 9, slots := #[.int (-105)], vm := .none },
  { cls := 9, slots := #[.int (-104)], vm := .none },
  { cls := 9, slots := #[.int (-103)], vm := .none },
  { cls := 9, slots := #[.int (-102)], vm := .none },
  { cls := 9, slots := #[.int (-101)], vm := .none },
  { cls := 9, slots := #[.int (-100)], vm := .none },
  { cls := 9, slots := #[.int (-99)], vm := .none },
  { cls := 9, slots := #[.int (-98)], vm := .none },
  { cls := 9, slots := #[.int (-97)], vm := .none },
  { cls := 9, slots := #[.int (-96)], vm := .none },
  { cls := 9, slots := #[.int (-95)], vm := .none },
  { cls := 9, slots := #[.int (-94)], vm := .none },
  { cls := 9, slots := #[.int (-93)], vm := .none },
  { cls := 9, slots := #[.int (-92)], vm := .none },
  { cls := 9, slots := #[.int (-91)], vm := .none },
  { cls := 9, slots := #[.int (-90)], vm := .none },
  { cls := 9, slots := #[.int (-89)], vm := .none },
  { cls := 9, slots := #[.int (-88)], vm := .none },
  { cls := 9, slots := #[.int (-87)], vm := .none },
  { cls := 9, slots := #[.int (-86)], vm := .none },
  { cls := 9, slots := #[.int (-85)], vm := .none },
  { cls := 9, slots := #[.int (-84)], vm := .none },
  { cls := 9, slots := #[.int (-83)], vm := .none },
  { cls := 9, slots := #[.int (-82)], vm := .none },
  { cls := 9, slots := #[.int (-81)], vm := .none },
  { cls := 9, slots := #[.int (-80)], vm := .none },
  { cls := 9, slots := #[.int (-79)], vm := .none },
  { cls := 9, slots := #[.int (-78)], vm := .none },
  { cls := 9, slots := #[.int (-77)], vm := .none },
  { cls := 9, slots := #[.int (-76)], vm := .none },
  { cls := 9, slots := #[.int (-75)], vm := .none },
  { cls := 9, slots := #[.int (-74)], vm := .none },
  { cls := 9, slots := #[.int (-73)], vm := .none },
  { cls := 9, slots := #[.int (-72)], vm := .none },
  { cls := 9, slots := #[.int (-71)], vm := .none },
  { cls := 9, slots := #[.int (-70)], vm := .none },
  { cls := 9, slots := #[.int (-69)], vm := .none },
  { cls := 9, slots := #[.int (-68)], vm := .none },
  { cls := 9, slots := #[.int (-67)], vm := .none },
  { cls := 9, slots := #[.int (-66)], vm := .none },
  { cls := 9, slots := #[.int (-65)], vm := .none },
  { cls := 9, slots := #[.int (-64)], vm := .none },
  { cls := 9, slots := #[.int (-63)], vm := .none },
  { cls := 9, slots := #[.int (-62)], vm := .none },
  { cls := 9, slots := #[.int (-61)], vm := .none },
  { cls := 9, slots := #[.int (-60)], vm := .none },
  { cls := 9, slots := #[.int (-59)], vm := .none },
  { cls := 9, slots := #[.int (-58)], vm := .none },
  { cls := 9, slots := #[.int (-57)], vm := .none },
  { cls := 9, slots := #[.int (-56)], vm := .none },
  { cls := 9, slots := #[.int (-55)], vm := .none },
  { cls := 9, slots := #[.int (-54)], vm := .none },
  { cls := 9, slots := #[.int (-53)], vm := .none },
  { cls := 9, slots := #[.int (-52)], vm := .none },
  { cls := 9, slots := #[.int (-51)], vm := .none },
  { cls := 9, slots := #[.int (-50)], vm := .none },
  { cls := 9, slots := #[.int (-49)], vm := .none },
  { cls := 9, slots := #[.int (-48)], vm := .none },
  { cls := 9, slots := #[.int (-47)], vm := .none },
  { cls := 9, slots := #[.int (-46)], vm := .none },
  { cls := 9, slots := #[.int (-45)], vm := .none },
  { cls := 9, slots := #[.int (-44)], vm := .none },
  { cls := 9, slots := #[.int (-43)], vm := .none },
  { cls := 9, slots := #[.int (-42)], vm := .none },
  { cls := 9, slots := #[.int (-41)], vm := .none },
  { cls := 9, slots := #[.int (-40)], vm := .none },
  { cls := 9, slots := #[.int (-39)], vm := .none },
  { cls := 9, slots := #[.int (-38)], vm := .none },
  { cls := 9, slots := #[.int (-37)], vm := .none },
  { cls := 9, slots := #[.int (-36)], vm := .none },
  { cls := 9, slots := #[.int (-35)], vm := .none },
  { cls := 9, slots := #[.int (-34)], vm := .none },
  { cls := 9, slots := #[.int (-33)], vm := .none },
  { cls := 9, slots := #[.int (-32)], vm := .none },
  { cls := 9, slots := #[.int (-31)], vm := .none },
  { cls := 9, slots := #[.int (-30)], vm := .none },
  { cls := 9, slots := #[.int (-29)], vm := .none },
  { cls := 9, slots := #[.int (-28)], vm := .none },
  { cls := 9, slots := #[.int (-27)], vm := .none },
  { cls := 9, slots := #[.int (-26)], vm := .none },
  { cls := 9, slots := #[.int (-25)], vm := .none },
  { cls := 9, slots := #[.int (-24)], vm := .none },
  { cls := 9, slots := #[.int (-23)], vm := .none },
  { cls := 9, slots := #[.int (-22)], vm := .none },
  { cls := 9, slots := #[.int (-21)], vm := .none },
  { cls := 9, slots := #[.int (-20)], vm := .none },
  { cls := 9, slots := #[.int (-19)], vm := .none },
  { cls := 9, slots := #[.int (-18)], vm := .none },
  { cls := 9, slots := #[.int (-17)], vm := .none },
  { cls := 9, slots := #[.int (-16)], vm := .none },
  { cls := 9, slots := #[.int (-15)], vm := .none },
  { cls := 9, slots := #[.int (-14)], vm := .none },
  { cls := 9, slots := #[.int (-13)], vm := .none },
  { cls := 9, slots := #[.int (-12)], vm := .none },
  { cls := 9, slots := #[.int (-11)], vm := .none },
  { cls := 9, slots := #[.int (-10)], vm := .none },
  { cls := 9, slots := #[.int (-9)], vm := .none },
  { cls := 9, slots := #[.int (-8)], vm := .none },
  { cls := 9, slots := #[.int (-7)], vm := .none },
  { cls := 9, slots := #[.int (-6)], vm := .none },
  { cls := 9, slots := #[.int (-5)], vm := .none },
  { cls := 9, slots := #[.int (-4)], vm := .none },
  { cls := 9, slots := #[.int (-3)], vm := .none },
  { cls := 9, slots := #[.int (-2)], vm := .none },
  { cls := 9, slots := #[.int (-1)], vm := .none },
  { cls := 9, slots := #[.int (0)], vm := .none },
  { cls := 9, slots := #[.int (1)], vm := .none },
  { cls := 9, slots := #[.int (2)], vm := .none },
  { cls := 9, slots := #[.int (3)], vm := .none },
  { cls := 9, slots := #[.int (4)], vm := .none },
  { cls := 9, slots := #[.int (5)], vm := .none },
  { cls := 9, slots := #[.int (6)], vm := .none },
  { cls := 9, slots := #[.int (7)], vm := .none },
  { cls := 9, slots := #[.int (8)], vm := .none },
  { cls := 9, slots := #[.int (9)], vm := .none },
  { cls := 9, slots := #[.int (10)], vm := .none },
  { cls := 9, slots := #[.int (11)], vm := .none },
  { cls := 9, slots := #[.int (12)], vm := .none },
  { cls := 9, slots := #[.int (13)], vm := .none },
  { cls := 9, slots := #[.int (14)], vm := .none },
  { cls := 9, slots := #[.int (15)], vm := .none },
  { cls := 9, slots := #[.int (16)], vm := .none },
  { cls := 9, slots := #[.int (17)], vm := .none },
  { cls := 9, slots := #[.int (18)], vm := .none },
  { cls := 9, slots := #[.int (19)], vm := .none },
  { cls := 9, slots := #[.int (20)], vm := .none },
  { cls := 9, slots := #[.int (21)], vm := .none },
  { cls := 9, slots := #[.int (22)], vm := .none },
  { cls := 9, slots := #[.int (23)], vm := .none },
  { cls := 9, slots := #[.int (24)], vm := .none },
  { cls := 9, slots := #[.int (25)], vm := .none },
  { cls := 9, slots := #[.int (26)], vm := .none },
  { cls := 9, slots := #[.int (27)], vm := .none },
  { cls := 9, slots := #[.int (28)], vm := .none },
  { cls := 9, slots := #[.int (29)], vm := .none },
  { cls := 9, slots := #[.int (30)], vm := .none },
  { cls := 9, slots := #[.int (31)], vm := .none },
  { cls := 9, slots := #[.int (32)], vm := .none },
  { cls := 9, slots := #[.int (33)], vm := .none },
  { cls := 9, slots := #[.int (34)], vm := .none },
  { cls := 9, slots := #[.int (35)], vm := .none },
  { cls := 9, slots := #[.int (36)], vm := .none },
  { cls := 9, slots := #[.int (37)], vm := .none },
  { cls := 9, slots := #[.int (38)], vm := .none },
  { cls := 9, slots := #[.int (39)], vm := .none },
  { cls := 9, slots := #[.int (40)], vm := .none },
  { cls := 9, slots := #[.int (41)], vm := .none },
  { cls := 9, slots := #[.int (42)], vm := .none },
  { cls := 9, slots := #[.int (43)], vm := .none },
  { cls := 9, slots := #[.int (44)], vm := .none },
  { cls := 9, slots := #[.int (45)], vm := .none },
  { cls := 9, slots := #[.int (46)], vm := .none },
  { cls := 9, slots := #[.int (47)], vm := .none },
  { cls := 9, slots := #[.int (48)], vm := .none },
  { cls := 9, slots := #[.int (49)], vm := .none },
  { cls := 9, slots := #[.int (50)], vm := .none },
  { cls := 9, slots := #[.int (51)], vm := .none },
  { cls := 9, slots := #[.int (52)], vm := .none },
  { cls := 9, slots := #[.int (53)], vm := .none },
  { cls := 9, slots := #[.int (54)], vm := .none },
  { cls := 9, slots := #[.int (55)], vm := .none },
  { cls := 9, slots := #[.int (56)], vm := .none },
  { cls := 9, slots := #[.int (57)], vm := .none },
  { cls := 9, slots := #[.int (58)], vm := .none },
  { cls := 9, slots := #[.int (59)], vm := .none },
  { cls := 9, slots := #[.int (60)], vm := .none },
  { cls := 9, slots := #[.int (61)], vm := .none },
  { cls := 9, slots := #[.int (62)], vm := .none },
  { cls := 9, slots := #[.int (63)], vm := .none },
  { cls := 9, slots := #[.int (64)], vm := .none },
  { cls := 9, slots := #[.int (65)], vm := .none },
  { cls := 9, slots := #[.int (66)], vm := .none },
  { cls := 9, slots := #[.int (67)], vm := .none },
  { cls := 9, slots := #[.int (68)], vm := .none },
  { cls := 9, slots := #[.int (69)], vm := .none },
  { cls := 9, slots := #[.int (70)], vm := .none },
  { cls := 9, slots := #[.int (71)], vm := .none },
  { cls := 9, slots := #[.int (72)], vm := .none },
  { cls := 9, slots := #[.int (73)], vm := .none },
  { cls := 9, slots := #[.int (74)], vm := .none },
  { cls := 9, slots := #[.int (75)], vm := .none },
  { cls := 9, slots := #[.int (76)], vm := .none },
  { cls := 9, slots := #[.int (77)], vm := .none },
  { cls := 9, slots := #[.int (78)], vm := .none },
  { cls := 9, slots := #[.int (79)], vm := .none },
  { cls := 9, slots := #[.int (80)], vm := .none },
  { cls := 9, slots := #[.int (81)], vm := .none },
  { cls := 9, slots := #[.int (82)], vm := .none },
  { cls := 9, slots := #[.int (83)], vm := .none },
  { cls := 9, slots := #[.int (84)], vm := .none },
  { cls := 9, slots := #[.int (85)], vm := .none },
  { cls := 9, slots := #[.int (86)], vm := .none },
  { cls := 9, slots := #[.int (87)], vm := .none },
  { cls := 9, slots := #[.int (88)], vm := .none },
  { cls := 9, slots := #[.int (89)], vm := .none },
  { cls := 9, slots := #[.int (90)], vm := .none },
  { cls := 9, slots := #[.int (91)], vm := .none },
  { cls := 9, slots := #[.int (92)], vm := .none },
  { cls := 9, slots := #[.int (93)], vm := .none },
  { cls := 9, slots := #[.int (94)], vm := .none },
  { cls := 9, slots := #[.int (95)], vm := .none },
  { cls := 9, slots := #[.int (96)], vm := .none },
  { cls := 9, slots := #[.int (97)], vm := .none },
  { cls := 9, slots := #[.int (98)], vm := .none },
  { cls := 9, slots := #[.int (99)], vm := .none },
  { cls := 9, slots := #[.int (100)], vm := .none },
  { cls := 9, slots := #[.int (101)], vm := .none },
  { cls := 9, slots := #[.int (102)], vm := .none },
  { cls := 9, slots := #[.int (103)], vm := .none },
  { cls := 9, slots := #[.int (104)], vm := .none },
  { cls := 9, slots := #[.int (105)], vm := .none },
  { cls := 9, slots := #[.int (106)], vm := .none },
  { cls := 9, slots := #[.int (107)], vm := .none },
  { cls := 9, slots := #[.int (108)], vm := .none },
  { cls := 9, slots := #[.int (109)], vm := .none },
  { cls := 9, slots := #[.int (110)], vm := .none },
  { cls := 9, slots := #[.int (111)], vm := .none },
  { cls := 9, slots := #[.int (112)], vm := .none },
  { cls := 9, slots := #[.int (113)], vm := .none },
  { cls := 9, slots := #[.int (114)], vm := .none },
  { cls := 9, slots := #[.int (115)], vm := .none },
  { cls := 9, slots := #[.int (116)], vm := .none },
  { cls := 9, slots := #[.int (117)], vm := .none },
  { cls := 9, slots := #[.int (118)], vm := .none },
  { cls := 9, slots := #[.int (119)], vm := .none },
  { cls := 9, slots := #[.int (120)], vm := .none },
  { cls := 9, slots := #[.int (121)], vm := .none },
  { cls := 9, slots := #[.int (122)], vm := .none },
  { cls := 9, slots := #[.int (123)], vm := .none },
  { cls := 9, slots := #[.int (124)], vm := .none },
  { cls := 9, slots := #[.int (125)], vm := .none },
  { cls := 9, slots := #[.int (126)], vm := .none },
  { cls := 9, slots := #[.int (127)], vm := .none }]
def classes : Array Class := #[k0, k1, k2, k3, k4, k5, k6, k7, k8, k9, k10, k11, k12, k13, k14, k15, k16]
def interned : List (Array UInt16 × Addr) := []
def slotsUsed : Nat := 517
def theMethod : MethodId := ⟨1, 1⟩
def args0 : Array Value := #[.int 5, .int 6, .int 1, .int 2, .int 3, .int 4]
def aboutOver (below : List Frame) : State where
  vm := { classes := classes, interned := interned.toArray }
  heap := heap
  slotsUsed := slotsUsed
  threads := #[{ frames := .invoking theMethod args0 :: below }]
def below0 : List Frame := [.native { method := ⟨0, 0⟩, args := #[] }]
def about1 : State := aboutOver below0
def p0 : Program := .bare "" "" ""
def e0 : Env := launch0.env 0 0 0
theorem w_frames : about1.frames = Frame.invoking theMethod args0 :: below0 := rfl
set_option maxRecDepth 65536 in
theorem w_args : argsFit about1.vm theMethod args0 = true := by decide +kernel
set_option maxRecDepth 65536 in
theorem w_heap : heapFits about1 = true := by decide +kernel
set_option maxRecDepth 65536 in
theorem w_runnable : about1.curStatus? = some .runnable := by decide +kernel
set_option maxRecDepth 65536 in
theorem w_alone : about1.alone = true := by decide +kernel
set_option maxRecDepth 65536 in
theorem w_named : about1.methodNamed? x = some theMethod := by decide +kernel
set_option maxRecDepth 65536 in
theorem w_hears : about1.hears theMethod below0 = true := by decide +kernel
set_option maxRecDepth 65536 in
theorem w_ripe : about1.ripe theMethod args0 below0 = true := by decide +kernel
theorem w_running : about1.status = .running := rfl
set_option maxRecDepth 65536 in
theorem w_room : about1.hasRoom e0.platform room_1 = true :=
  launch0.hasRoom_least _ room_1 (by decide +kernel) (by decide +kernel) (by decide +kernel) (by decide +kernel) (by decide +kernel) (by decide +kernel)
theorem allAtoms_all (ts : List Jvm.Cond) (a : Array Jvm.Value) (st : Jvm.State) : (allAtoms ts).before a st = ts.all (fun c => c.before a st) := by
  induction ts with
  | nil => rfl
  | cons c t ih =>
    show (Jvm.Cond.and c (allAtoms t)).before a st = _
    rw [Jvm.Cond.before_and, ih, List.all_cons]
def words1 : List Jvm.Cond := Jvm.Cond.code x code maxLocals ret :: tables_1
/-- a 'code' word, met by the world's own term for the bytes: nothing is compared byte by byte -/
theorem code_word {y : MethodName} {bytes : ByteArray} {mx : Nat} {rt : Option FieldType} {a : Array Value} {s : State} {m : MethodId} {meth : Method} {c : Code} (h1 : s.methodNamed? y = some m) (h2 : s.vm.method? m = some meth) (h3 : meth.code = some c) (h4 : c.code = bytes)
    (h5 : (c.maxLocals == mx && c.exceptionTable.isEmpty && decide (c.maxStack ≤ mostOperands) && decide (meth.sig.returnType = rt) && !meth.locks && decide (parseMethodDescriptor y.desc = some meth.sig)) = true) : (Jvm.Cond.code y bytes mx rt).before a s = true := by
  simp only [Bool.and_eq_true, beq_iff_eq, Bool.not_eq_true', decide_eq_true_eq] at h5
  obtain ⟨⟨⟨⟨⟨g1, g2⟩, g3⟩, g4⟩, g5⟩, g6⟩ := h5
  simp [Cond.before, Cond.holds, Cond.value, h1, h2, h3, h4, g1, g2, g3, g4, g5, g6]
def isCode : Jvm.Cond → Bool
  | .code _ _ _ _ => true
  | _ => false
theorem all_split {L : List Jvm.Cond} {P : Jvm.Cond → Bool} (h1 : L.all (fun c => isCode c || P c) = true) (h2 : ∀ c ∈ L.filter isCode, P c = true) : L.all P = true := by
  refine List.all_eq_true.mpr fun c hc => ?_
  have h := List.all_eq_true.mp h1 c hc
  rcases Bool.eq_false_or_eq_true (isCode c) with hi | hi
  · exact h2 c (List.mem_filter.mpr ⟨hc, hi⟩)
  · simpa [hi] using h
set_option maxRecDepth 65536 in
theorem w_c0 : (Jvm.Cond.code x code maxLocals ret).before args0 about1 = true := code_word (m := ⟨1, 1⟩) (meth := k1m1) (c := k1c1) (by decide +kernel) rfl rfl rfl (by decide +kernel)
set_option maxRecDepth 65536 in
theorem w_c1 : (Jvm.Cond.code ({ cls := "com/example/nullward/nullward/Elements", name := "<init>", desc := "(IIIII)V" } : Jvm.MethodName) prog_4_method_2_code (6 : Nat) (Option.none : Option Jvm.ClassFile.FieldType)).before args0 about1 = true := code_word (m := ⟨3, 0⟩) (meth := k3m0) (c := k3c0) (by decide +kernel) rfl rfl rfl (by decide +kernel)
set_option maxRecDepth 65536 in
theorem w_c2 : (Jvm.Cond.code ({ cls := "java/lang/Record", name := "<init>", desc := "()V" } : Jvm.MethodName) jdk_30_method_1_code (1 : Nat) (Option.none : Option Jvm.ClassFile.FieldType)).before args0 about1 = true := code_word (m := ⟨2, 0⟩) (meth := k2m0) (c := k2c0) (by decide +kernel) rfl rfl rfl (by decide +kernel)
set_option maxRecDepth 65536 in
theorem w_c3 : (Jvm.Cond.code ({ cls := "java/lang/Object", name := "<init>", desc := "()V" } : Jvm.MethodName) object_method_1_code (1 : Nat) (Option.none : Option Jvm.ClassFile.FieldType)).before args0 about1 = true := code_word (m := ⟨0, 0⟩) (meth := k0m0) (c := k0c0) (by decide +kernel) rfl rfl rfl (by decide +kernel)
set_option maxRecDepth 65536 in
theorem w_c4 : (Jvm.Cond.code ({ cls := "com/example/nullward/nullward/Elements", name := "equals", desc := "(Ljava/lang/Object;)Z" } : Jvm.MethodName) prog_4_method_10_code (3 : Nat) (Option.some Jvm.ClassFile.FieldType.boolean)).before args0 about1 = true := code_word (m := ⟨3, 1⟩) (meth := k3m1) (c := k3c1) (by decide +kernel) rfl rfl rfl (by decide +kernel)
set_option maxRecDepth 65536 in
theorem w_c5 : (Jvm.Cond.code ({ cls := "java/lang/Integer", name := "valueOf", desc := "(I)Ljava/lang/Integer;" } : Jvm.MethodName) jdk_33_method_22_code (1 : Nat) (Option.some (Jvm.ClassFile.FieldType.object "java/lang/Integer"))).before args0 about1 = true := code_word (m := ⟨9, 0⟩) (meth := k9m0) (c := k9c0) (by decide +kernel) rfl rfl rfl (by decide +kernel)
set_option maxRecDepth 65536 in
theorem w_c6 : (Jvm.Cond.code ({ cls := "java/lang/Integer", name := "<init>", desc := "(I)V" } : Jvm.MethodName) jdk_33_method_23_code (2 : Nat) (Option.none : Option Jvm.ClassFile.FieldType)).before args0 about1 = true := code_word (m := ⟨9, 1⟩) (meth := k9m1) (c := k9c1) (by decide +kernel) rfl rfl rfl (by decide +kernel)
set_option maxRecDepth 65536 in
theorem w_c7 : (Jvm.Cond.code ({ cls := "java/lang/Number", name := "<init>", desc := "()V" } : Jvm.MethodName) jdk_18_method_1_code (1 : Nat) (Option.none : Option Jvm.ClassFile.FieldType)).before args0 about1 = true := code_word (m := ⟨5, 0⟩) (meth := k5m0) (c := k5c0) (by decide +kernel) rfl rfl rfl (by decide +kernel)
def codes1 : List Jvm.Cond := [Jvm.Cond.code x code maxLocals ret, Jvm.Cond.code ({ cls := "com/example/nullward/nullward/Elements", name := "<init>", desc := "(IIIII)V" } : Jvm.MethodName) prog_4_method_2_code (6 : Nat) (Option.none : Option Jvm.ClassFile.FieldType), Jvm.Cond.code ({ cls := "java/lang/Record", name := "<init>", desc := "()V" } : Jvm.MethodName) jdk_30_method_1_code (1 : Nat) (Option.none : Option Jvm.ClassFile.FieldType), Jvm.Cond.code ({ cls := "java/lang/Object", name := "<init>", desc := "()V" } : Jvm.MethodName) object_method_1_code (1 : Nat) (Option.none : Option Jvm.ClassFile.FieldType), Jvm.Cond.code ({ cls := "com/example/nullward/nullward/Elements", name := "equals", desc := "(Ljava/lang/Object;)Z" } : Jvm.MethodName) prog_4_method_10_code (3 : Nat) (Option.some Jvm.ClassFile.FieldType.boolean), Jvm.Cond.code ({ cls := "java/lang/Integer", name := "valueOf", desc := "(I)Ljava/lang/Integer;" } : Jvm.MethodName) jdk_33_method_22_code (1 : Nat) (Option.some (Jvm.ClassFile.FieldType.object "java/lang/Integer")), Jvm.Cond.code ({ cls := "java/lang/Integer", name := "<init>", desc := "(I)V" } : Jvm.MethodName) jdk_33_method_23_code (2 : Nat) (Option.none : Option Jvm.ClassFile.FieldType), Jvm.Cond.code ({ cls := "java/lang/Number", name := "<init>", desc := "()V" } : Jvm.MethodName) jdk_18_method_1_code (1 : Nat) (Option.none : Option Jvm.ClassFile.FieldType)]
set_option maxRecDepth 65536 in
theorem codes_eq : words1.filter isCode = codes1 := rfl
theorem w_codes : ∀ c ∈ words1.filter isCode, c.before args0 about1 = true := by
  rw [codes_eq]
  intro c hc
  simp only [codes1, List.mem_cons, List.not_mem_nil, or_false] at hc
  rcases hc with rfl | rfl | rfl | rfl | rfl | rfl | rfl | rfl
  · exact w_c0
  · exact w_c1
  · exact w_c2
  · exact w_c3
  · exact w_c4
  · exact w_c5
  · exact w_c6
  · exact w_c7
set_option maxRecDepth 65536 in
theorem w_t1 : (words1.take 24).all (fun c => isCode c || c.before args0 about1) = true := by decide +kernel
set_option maxRecDepth 65536 in
theorem w_t2 : ((words1.drop 24).take 24).all (fun c => isCode c || c.before args0 about1) = true := by decide +kernel
set_option maxRecDepth 65536 in
theorem w_t3 : ((words1.drop 24).drop 24).all (fun c => isCode c || c.before args0 about1) = true := by decide +kernel
theorem w_tables : (allAtoms (Jvm.Cond.code x code maxLocals ret :: tables_1)).before args0 about1 = true := by
  rw [allAtoms_all]
  show words1.all (fun c => c.before args0 about1) = true
  refine all_split ?_ w_codes
  rw [← List.take_append_drop 24 words1, List.all_append, w_t1, ← List.take_append_drop 24 (words1.drop 24), List.all_append, w_t2, w_t3]
  rfl
set_option maxRecDepth 65536 in
theorem w_rest : rest_1_c.before args0 about1 = true := by decide +kernel
set_option maxRecDepth 65536 in
theorem w_case : (Jvm.Cond.and given_1 narrow_1).before args0 about1 = true := by decide +kernel
theorem w_applies : (headSpec (Jvm.Cond.code x code maxLocals ret :: tables_1) room_1).applies x e0.platform about1 = true :=
  (Spec.applies_iff w_frames).mpr ⟨w_running, w_runnable, w_alone, w_named, w_hears, w_ripe, w_room, w_tables⟩
theorem atStart : AtStart classFile x code maxLocals ret World_1 tables_1 room_1 Calls_1 rest_1 Pre_1 launch0 p0 e0 about1 theMethod args0 below0 :=
  ⟨lists_1, trivial, launch0.admits_env _ _ _, launch0.least_env, fairChoices_fair.cas, fairChoices_fair.clock, w_frames, w_args, w_heap, w_applies, trivial, w_rest, w_case⟩
end start1
theorem witness_1 : WitnessClaimed_1 := ⟨start1.p0, start1.e0, start1.about1, start1.theMethod, start1.args0, start1.below0, start1.atStart⟩
end Jvm.Pilot.@@N@@
