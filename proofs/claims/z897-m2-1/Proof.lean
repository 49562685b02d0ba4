import JvmDerived
import JvmDerived.Pilot.@@N@@Statement
import JvmDerived.Pilot.@@N@@Code
set_option linter.unusedVariables false
set_option linter.unusedSimpArgs false
namespace Jvm.Pilot.@@N@@
open Jvm Jvm.ClassFile Sem Op Lib Jvm.Free Jvm.Stand Jvm.LawKit Jvm.RoadKit Bundle Jvm.Pilot.@@N@@.Jvm.D
section Own
variable {p : Program} {l : Launch} {e : Env} {R : Room} {s : State} {m : MethodId} {args : Array Value} {below : List Frame} {meth : Method} {c : Code} {T T' : State} {locs : List Loc} {cells slots : Nat} {F : State → Outcome → Prop} {g g' : JFrame} {Z : State} {a0 : Array Value} {h h0 : Heap}
/-- the run from T with g on top ends, and F holds of its end -/
def own_G (p : Program) (e : Env) (below : List Frame) (F : State → Outcome → Prop) (T : State) (g : JFrame) : Prop := ∃ t o, Steps p.tables e below (T.setTop g) t ∧ t.status = .running ∧ Ended t below o ∧ F t o
theorem own_st (h : ∀ t, Steps p.tables e below (T'.setTop g') t → Steps p.tables e below (T.setTop g) t) (k : own_G p e below F T' g') : own_G p e below F T g := by
  obtain ⟨t, o, h1, h2⟩ := k
  exact ⟨t, o, h t h1, h2⟩
theorem own_tr (h : Steps p.tables e below (T.setTop g) (T'.setTop g')) (k : own_G p e below F T' g') : own_G p e below F T g := own_st (fun _ q => h.trans q) k
def own_F (Q : Option Value → Heap → List Loc → Prop) (s : State) (k n : Nat) (t : State) (o : Outcome) : Prop := ∃ v L, o = .returned v ∧ Q v t.heap L ∧ FrameEnd s o t L k n
theorem own_ret {Q : Option Value → Heap → List Loc → Prop} {k n : Nat} {v : Option Value} (X : Stand p l e R s m args below meth c T locs cells slots) (hlk : meth.locks = false) (hv : meth.sig.returnType = none → v = none) (hq : Q v T.heap locs) (h1 : cells ≤ k) (h2 : slots ≤ n)
    (hs : ∀ fs, (∀ (f : JFrame) (acts : List Action), f.method = m → f.locked = none → f.entered = [] → (doReturn e (T.setTop f) acts v).1 = T.setFrames fs) → Steps p.tables e below (T.setTop g) (T.setFrames fs)) : own_G p e below (own_F Q s k n) T g := by
  obtain ⟨fs, hr, hrun, hended, hW, hsame⟩ := X.leave (v := v) hv hlk
  exact ⟨_, _, hs fs hr, hrun, hended, v, locs, rfl, hq, ⟨_, rfl⟩, hW, hsame.mono h1 h2⟩
theorem own_retI {Q : Option Value → Heap → List Loc → Prop} {k n pc : Nat} {Ls : Array Slot} {z : Int32} {rest : List Value} (X : Stand p l e R s m args below meth c T locs cells slots) (hx : p.tables.exec = Jvm.exec) (hlk : meth.locks = false) (hret : meth.sig.returnType = some .int) (hd : decode c.code pc = .ok (.ireturn, 1)) (h1 : cells ≤ k) (h2 : slots ≤ n) (hq : Q (some (.int z)) T.heap locs) :
    own_G p e below (own_F Q s k n) T (mkF m pc Ls (.int z :: rest)) :=
  own_ret X hlk (fun q => by rw [hret] at q; cases q) hq h1 h2 fun fs hr => retOut X hx hret rfl (Or.inl ⟨rfl, Or.inl rfl, _, rfl⟩) hd hr
theorem own_retB {Q : Option Value → Heap → List Loc → Prop} {k n pc : Nat} {Ls : Array Slot} {z w : Int32} {rest : List Value} (X : Stand p l e R s m args below meth c T locs cells slots) (hx : p.tables.exec = Jvm.exec) (hlk : meth.locks = false) (hret : meth.sig.returnType = some .boolean) (hd : decode c.code pc = .ok (.ireturn, 1)) (h1 : cells ≤ k) (h2 : slots ≤ n) (hz : nar .boolean z = w) (hq : Q (some (.int w)) T.heap locs) :
    own_G p e below (own_F Q s k n) T (mkF m pc Ls (.int z :: rest)) := by
  subst hz
  exact own_ret X hlk (fun q => by rw [hret] at q; cases q) hq h1 h2 fun fs hr => retN X hx (t := .boolean) hret (by simp) hd hr
theorem own_retR {Q : Option Value → Heap → List Loc → Prop} {k n pc : Nat} {Ls : Array Slot} {w : Value} {C : String} {rest : List Value} (X : Stand p l e R s m args below meth c T locs cells slots) (hx : p.tables.exec = Jvm.exec) (hlk : meth.locks = false) (hret : meth.sig.returnType = some (.object C)) (hd : decode c.code pc = .ok (.areturn, 1)) (h1 : cells ≤ k) (h2 : slots ≤ n) (hw : w.isRef = true) (hq : Q (some w) T.heap locs) :
    own_G p e below (own_F Q s k n) T (mkF m pc Ls (w :: rest)) :=
  own_ret X hlk (fun q => by rw [hret] at q; cases q) hq h1 h2 fun fs hr => retOut X hx hret rfl (Or.inr (Or.inr (Or.inr (Or.inr ⟨rfl, rfl, hw⟩)))) hd hr
theorem own_retA {Q : Option Value → Heap → List Loc → Prop} {k n pc : Nat} {Ls : Array Slot} {w : Value} {ty : FieldType} {rest : List Value} (X : Stand p l e R s m args below meth c T locs cells slots) (hx : p.tables.exec = Jvm.exec) (hlk : meth.locks = false) (hret : meth.sig.returnType = some (.array ty)) (hd : decode c.code pc = .ok (.areturn, 1)) (h1 : cells ≤ k) (h2 : slots ≤ n) (hw : w.isRef = true) (hq : Q (some w) T.heap locs) :
    own_G p e below (own_F Q s k n) T (mkF m pc Ls (w :: rest)) :=
  own_ret X hlk (fun q => by rw [hret] at q; cases q) hq h1 h2 fun fs hr => retOut X hx hret rfl (Or.inr (Or.inr (Or.inr (Or.inr ⟨rfl, rfl, hw⟩)))) hd hr
theorem own_retJ {Q : Option Value → Heap → List Loc → Prop} {k n pc : Nat} {Ls : Array Slot} {z : Int64} {rest : List Value} (X : Stand p l e R s m args below meth c T locs cells slots) (hx : p.tables.exec = Jvm.exec) (hlk : meth.locks = false) (hret : meth.sig.returnType = some .long) (hd : decode c.code pc = .ok (.lreturn, 1)) (h1 : cells ≤ k) (h2 : slots ≤ n) (hq : Q (some (.long z)) T.heap locs) :
    own_G p e below (own_F Q s k n) T (mkF m pc Ls (.long z :: rest)) :=
  own_ret X hlk (fun q => by rw [hret] at q; cases q) hq h1 h2 fun fs hr => retOut X hx hret rfl (Or.inr (Or.inl ⟨rfl, rfl, _, rfl⟩)) hd hr
theorem own_retV {Q : Option Value → Heap → List Loc → Prop} {k n pc : Nat} {Ls : Array Slot} (X : Stand p l e R s m args below meth c T locs cells slots) (hx : p.tables.exec = Jvm.exec) (hlk : meth.locks = false) (hret : meth.sig.returnType = none) (hd : decode c.code pc = .ok (.return_, 1)) (h1 : cells ≤ k) (h2 : slots ≤ n) (hq : Q none T.heap locs) :
    own_G p e below (own_F Q s k n) T (mkF m pc Ls []) :=
  own_ret X hlk (fun _ => rfl) hq h1 h2 fun fs hr => X.returnOut hx hret hd hr
/-- what a body promises at the heap h0 -/
abbrev own_C (l : Launch) (Z : State) (y : MethodName) (bytes : ByteArray) (ml : Nat) (rt : Option FieldType) (ws : List Jvm.Cond) (rm : Room) (as' : Array Value) (h0 : Heap) (Q : Option Value → Heap → List Loc → Prop) : Prop :=
  MetFree l y (head1 (Jvm.Cond.code y bytes ml rt :: ws) rm) (fun a U => a = as' ∧ Z.Warmed39 U.vm ∧ U.heap = h0) (fun _ _ _ _ _ => True) (fun _ U o U' => ∃ v L, o = .returned v ∧ Q v U'.heap L ∧ FrameEnd U o U' L rm.cells rm.slots)
theorem own_body {y : MethodName} {bytes : ByteArray} {ml : Nat} {rt : Option FieldType} {ws : List Jvm.Cond} {rm : Room} {as' : Array Value} {Q : Option Value → Heap → List Loc → Prop} (pn : plainFor y = true) {f0 : MethodId → JFrame} (hef : ∀ m, entryFrame m as' ml = f0 m)
    (body : ∀ (p : Program) (e : Env) (s : State) (m : MethodId) (below : List Frame) (meth : Method) (c : Code) (s₁ : State), p.tables.exec = Jvm.exec → c.code = bytes → c.maxLocals = ml → s.vm.findClass y.cls = some m.cls → meth.name = y.name → meth.sig.returnType = rt → meth.locks = false → Z.Warmed39 s.vm → Stand p l e rm s m as' below meth c s₁ [] 0 0 → s₁.heap = h0 →
      own_G p e below (own_F Q s rm.cells rm.slots) s₁ (f0 m)) : own_C l Z y bytes ml rt ws rm as' h0 Q := by
  refine MetFree.of_bodySF pn hisR ?_
  intro p e s m args below meth c s₁ Bd hml0 hP hK
  obtain ⟨rfl, hZ, hh⟩ := hP
  have e0 : s₁.heap = h0 := by rw [← hh, Bd.state]; rfl
  have hnm := (name_of_methodNamed Bd.named Bd.method).1
  have q := body p e s m below meth c s₁ Bd.exec Bd.bytes hml0 (findClass_of_methodNamed Bd.named) hnm Bd.returns Bd.notSynchronized hZ (Stand.of_body Bd) e0
  rw [← hef m] at q
  exact q
theorem own_callS {own : String} {index : Nat} {y : MethodName} {bytes : ByteArray} {ml : Nat} {rt : Option FieldType} {rm : Room} {Q : Option Value → Heap → List Loc → Prop} {argsL : List Value} (W : Nat) (rest : List Value)
    (C : own_C l Z y bytes ml rt [] rm argsL.toArray h Q) (X : Stand p l e R s m args below meth c T locs cells slots) (hx : p.tables.exec = Jvm.exec) (hZ : Z.Warmed39 s.vm) (hown : s.vm.findClass own = some m.cls)
    (w1 : (Jvm.Cond.methodLink own index y).before a0 Z = true) (w2 : (Jvm.Cond.static y).before a0 Z = true) (w3 : (Jvm.Cond.initialized y.cls).before a0 Z = true) (w4 : (Jvm.Cond.code y bytes ml rt).before a0 Z = true) (hy : y.cls ≠ "java/lang/invoke/MethodHandle" ∧ y.cls ≠ "java/lang/invoke/VarHandle")
    (hf : rm.frames + 1 ≤ R.frames) (hlo : W + (ml + 11) + rm.locals ≤ R.locals) (hc : cells + rm.cells ≤ R.cells) (hsl : slots + rm.slots ≤ R.slots) (eT : T.heap = h)
    (hg : g.method = m) (hsize : g.locals.size = c.maxLocals) (hlen : ∀ sig, parseMethodDescriptor y.desc = some sig → argsL.length = sig.parameters.length) (hstack : g.stack = argsL.reverse ++ rest) (hW : 2 * g.monitorRoom + (rest.map fun v => v.category).sum ≤ W)
    (hd : decode c.code g.pc = .ok (.invokestatic index, 3)) :
    ∃ v T' L, Q v T'.heap L ∧ Stand p l e R s m args below meth c T' (locs ++ L) (cells + rm.cells) (slots + rm.slots) ∧ ∀ t, Steps p.tables e below (T'.setTop { g with pc := g.pc + 3, stack := v.toList ++ rest }) t → Steps p.tables e below (T.setTop g) t := by
  obtain ⟨v, _, ⟨T4, L4, k4, n4⟩, -, X4, ⟨Lc4, hQ4, l4, y4, z4⟩, st4⟩ := Jvm.LawKit.callS X hx (y := y) hown (mvT hZ w1) (mvT hZ w2) (mvT hZ w3) (mvT hZ w4) hy (backOf (W := W) C hZ w4 w3 hf hlo) hg hsize hlen hstack hW hd (fun _ _ => ⟨rfl, eT, hc, hsl⟩)
  dsimp only [Pt.U, Pt.locs, Pt.cells, Pt.slots] at X4 l4 y4 z4 st4 hQ4
  subst l4 y4 z4
  exact ⟨v, T4, Lc4, hQ4, X4, st4⟩
theorem own_callV {own : String} {index : Nat} {y z : MethodName} {bytes : ByteArray} {ml : Nat} {rt : Option FieldType} {rm : Room} {Q : Option Value → Heap → List Loc → Prop} {b : Addr} {argsL : List Value} (W : Nat) (rest : List Value) {K : String}
    (C : own_C l Z z bytes ml rt [] rm (.ref b :: argsL).toArray h Q) (X : Stand p l e R s m args below meth c T locs cells slots) (hx : p.tables.exec = Jvm.exec) (hZ : Z.Warmed39 s.vm) (hown : s.vm.findClass own = some m.cls)
    (w1 : (Jvm.Cond.methodLink own index y).before a0 Z = true) (w2 : (Jvm.Cond.declares y).before a0 Z = true) (hnf : NotFace s y) (w3 : (Jvm.Cond.selects K y z).before a0 Z = true) (w5 : (Jvm.Cond.instanceMethod z).before a0 Z = true) (w4 : (Jvm.Cond.code z bytes ml rt).before a0 Z = true) (w6 : (Jvm.Cond.initialized z.cls).before a0 Z = true) (hy : y.cls ≠ "java/lang/invoke/MethodHandle" ∧ y.cls ≠ "java/lang/invoke/VarHandle")
    (hf : rm.frames + 1 ≤ R.frames) (hlo : W + (ml + 11) + rm.locals ≤ R.locals) (hc : cells + rm.cells ≤ R.cells) (hsl : slots + rm.slots ≤ R.slots) (eT : T.heap = h) (E : Exa Z h b K)
    (hg : g.method = m) (hsize : g.locals.size = c.maxLocals) (hlen : ∀ sig, parseMethodDescriptor y.desc = some sig → argsL.length = sig.parameters.length) (hstack : g.stack = argsL.reverse ++ .ref b :: rest) (hW : 2 * g.monitorRoom + (rest.map fun v => v.category).sum ≤ W)
    (hd : decode c.code g.pc = .ok (.invokevirtual index, 3)) :
    ∃ v T' L, Q v T'.heap L ∧ Stand p l e R s m args below meth c T' (locs ++ L) (cells + rm.cells) (slots + rm.slots) ∧ ∀ t, Steps p.tables e below (T'.setTop { g with pc := g.pc + 3, stack := v.toList ++ rest }) t → Steps p.tables e below (T.setTop g) t := by
  obtain ⟨cq4, kq4, q4a, q4b, q4c⟩ := isOf hZ eT E
  obtain ⟨v, _, ⟨T4, L4, k4, n4⟩, -, X4, ⟨Lc4, hQ4, l4, y4, z4⟩, st4⟩ := X.virtualBack hx (y := y) (z := z) hown (mvT hZ w1) (mvT hZ w2) hnf (mvT hZ w3) (mvT hZ w5) hy (backOf (W := W) C hZ w4 w6 hf hlo) q4a q4c hg hsize (Steps.refl _) hlen hstack hW hd (fun _ _ => ⟨rfl, eT, hc, hsl⟩)
  dsimp only [Pt.U, Pt.locs, Pt.cells, Pt.slots] at X4 l4 y4 z4 st4 hQ4
  subst l4 y4 z4
  exact ⟨v, T4, Lc4, hQ4, X4, fun t k => st4.trans k⟩
theorem own_callI {own : String} {index : Nat} {y : MethodName} {bytes : ByteArray} {ml : Nat} {rm : Room} {Q : Option Value → Heap → List Loc → Prop} {b : Addr} {argsL : List Value} (W : Nat) (rest : List Value)
    (C : own_C l Z y bytes ml none [] rm (.ref b :: argsL).toArray h Q) (X : Stand p l e R s m args below meth c T locs cells slots) (hx : p.tables.exec = Jvm.exec) (hZ : Z.Warmed39 s.vm) (hown : s.vm.findClass own = some m.cls) (hy1 : y.name = "<init>")
    (w1 : (Jvm.Cond.methodLink own index y).before a0 Z = true) (w5 : (Jvm.Cond.instanceMethod y).before a0 Z = true) (w4 : (Jvm.Cond.code y bytes ml none).before a0 Z = true) (w6 : (Jvm.Cond.initialized y.cls).before a0 Z = true) (hy : y.cls ≠ "java/lang/invoke/MethodHandle" ∧ y.cls ≠ "java/lang/invoke/VarHandle")
    (hf : rm.frames + 1 ≤ R.frames) (hlo : W + (ml + 11) + rm.locals ≤ R.locals) (hc : cells + rm.cells ≤ R.cells) (hsl : slots + rm.slots ≤ R.slots) (eT : T.heap = h)
    (hg : g.method = m) (hsize : g.locals.size = c.maxLocals) (hlen : ∀ sig, parseMethodDescriptor y.desc = some sig → argsL.length = sig.parameters.length) (hstack : g.stack = argsL.reverse ++ .ref b :: rest) (hW : 2 * g.monitorRoom + (rest.map fun v => v.category).sum ≤ W)
    (hd : decode c.code g.pc = .ok (.invokespecial index, 3)) :
    ∃ v T' L, Q v T'.heap L ∧ Stand p l e R s m args below meth c T' (locs ++ L) (cells + rm.cells) (slots + rm.slots) ∧ ∀ t, Steps p.tables e below (T'.setTop { g with pc := g.pc + 3, stack := v.toList ++ rest }) t → Steps p.tables e below (T.setTop g) t := by
  obtain ⟨v, _, ⟨T4, L4, k4, n4⟩, -, X4, ⟨Lc4, hQ4, l4, y4, z4⟩, st4⟩ := X.specialBack hx (y := y) hy1 hown (mvT hZ w1) (mvT hZ w5) (mvT hZ w4) hy (backOf (W := W) C hZ w4 w6 hf hlo) hg hsize (Steps.refl _) (a := b) hlen hstack hW hd (fun _ _ => ⟨rfl, eT, hc, hsl⟩)
  dsimp only [Pt.U, Pt.locs, Pt.cells, Pt.slots] at X4 l4 y4 z4 st4 hQ4
  subst l4 y4 z4
  exact ⟨v, T4, Lc4, hQ4, X4, fun t k => st4.trans k⟩
theorem own_sta {C n d K : String} {args : Array Value} (hx : (Jvm.Cond.exactly (Term.static C n d) K).value args Z none Z [] = some true) (hi : (Jvm.Cond.initialized C).before args Z = true) (hl : (Jvm.Cond.laysStatic C n d).before args Z = true) :
    ∃ a, (Term.static C n d).eval args Z none [] Z = some (.ref a) ∧ Sta Z Z.heap C n d (.ref a) ∧ Exa Z Z.heap a K := by
  obtain ⟨a', c', cell, k, e1, -⟩ := Cond.exactly_spec (Cond.before_iff.mpr hx)
  exact ⟨a', e1, Sta.start e1 (Or.inr ⟨hi, hl⟩), Exa.start e1 hx⟩
theorem own_fld {args : Array Value} {t : Term} {a : Addr} {C n d : String} {z : Int32} (ev : t.eval args Z none [] Z = some (.ref a)) (hx : (Jvm.Cond.eq (Term.field t C n d) (Term.int z)).value args Z none Z [] = some true) : Fld Z Z.heap a C n d (.int z) := by
  apply Fld.start
  cases hf : Z.fieldOf? a C n d with
  | none => simp [Cond.value, Term.eval, ev, hf] at hx
  | some v => cases v <;> simp [Cond.value, Term.eval, ev, hf] at hx ⊢; exact hx
/-- a body that writes nothing: it returns r -/
def own_P (r : Value) (h0 : Heap) (v : Option Value) (h : Heap) (L : List Loc) : Prop := v = some r ∧ h = h0 ∧ L = []
theorem own_ite {q : Prop} [Decidable q] {x y : Addr} {K : String} (h1 : Exa Z h x K) (h2 : Exa Z h y K) : Exa Z h (if q then x else y) K := by split <;> assumption
theorem own_or {q : Prop} [Decidable q] {r x y : α} (h : r = if q then x else y) : r = x ∨ r = y := by rw [h]; split <;> simp
theorem own_bit (x : Int32) : x &&& 1 = 0 ∨ x &&& 1 = 1 := by
  have h1 : (x &&& 1).toBitVec = x.toBitVec &&& 1#32 := rfl
  have h2 : (x.toBitVec &&& 1#32).toNat = x.toBitVec.toNat % 2 := by rw [BitVec.toNat_and]; exact Nat.and_two_pow_sub_one_eq_mod _ 1
  rcases Nat.mod_two_eq_zero_or_one x.toBitVec.toNat with h | h
  · left; apply Int32.toBitVec_inj.mp; apply BitVec.eq_of_toNat_eq; rw [h1, h2, h]; rfl
  · right; apply Int32.toBitVec_inj.mp; apply BitVec.eq_of_toNat_eq; rw [h1, h2, h]; rfl
theorem own_plain {a : Addr} {C : String} (E : Exa Z h a C) : ∀ cell : Cell, h[a]? = some cell → cell.vm.isStatics = false := fun cell hc => by
  obtain ⟨c1, _, h1, -, -, h4, -⟩ := E
  cases h1.symm.trans hc; exact h4
theorem own_sta_keep {h' : Heap} {ws : List Addr} {C n d : String} {v : Value} (F : Sta Z h C n d v) (K : Keep h h' ws) (q : ∀ x ∈ ws, ∀ cell : Cell, h'[x]? = some cell → cell.vm.isStatics = false) : Sta Z h' C n d v := by
  obtain ⟨cf, i, k, f, st, cell, h1, h2, h3, h4, h5, h6, h7⟩ := F
  refine ⟨cf, i, k, f, st, cell, h1, h2, h3, h4, K.2.1 st cell h5 (fun m => ?_), h6, h7⟩
  obtain ⟨c', e1, -, e3, -⟩ := K.2.2 st cell h5
  have := q st m c' e1
  rw [e3, h6] at this; cases this
theorem own_ext {h' : Heap} (K : Keep h h' []) : Ext h h' := ⟨K.1, fun a c q => K.2.1 a c q nin0⟩
theorem own_keep {h' : Heap} (E : Ext h h') : Keep h h' [] := (Keep.refl h []).ext E
/-- a body that returns nothing and writes nothing -/
def own_V (h0 : Heap) (v : Option Value) (h : Heap) (L : List Loc) : Prop := v = none ∧ h = h0 ∧ L = []
theorem own_nar {z : Int32} (h : z = 0 ∨ z = 1) : nar .boolean z = z := by rcases h with rfl | rfl <;> rfl
theorem own_01 {q : Prop} [Decidable q] {x y : Int32} (h1 : x = 0 ∨ x = 1) (h2 : y = 0 ∨ y = 1) : (if q then x else y) = 0 ∨ (if q then x else y) = 1 := by split <;> assumption
end Own
def own_qib (Z : State) (a : Addr) (h0 : Heap) (n0 : Nat) (v : Option Value) (h : Heap) (L : List Loc) : Prop := v = none ∧ Fr n0 L ∧ Keep h0 h [a] ∧ Exa Z h a "java/lang/Integer"
def own_qvo (Z : State) (h0 : Heap) (n0 : Nat) (v : Option Value) (h : Heap) (L : List Loc) : Prop := ∃ b, v = some (.ref b) ∧ Fr n0 L ∧ Ext h0 h ∧ Exa Z h b "java/lang/Integer"
def own_res (z : Int32) : Int32 := if 0 < z then 1 else 0
theorem own_l1 (z : Int32) : own_res z = if z < 1 then 0 else 1 := by
  unfold own_res
  by_cases h : 0 < z
  · have h2 : ¬ z < 1 := by rw [Int32.lt_iff_toInt_lt] at h ⊢; have e0 : (0 : Int32).toInt = 0 := rfl; have e1 : (1 : Int32).toInt = 1 := rfl; omega
    simp [h, h2]
  · have h2 : z < 1 := by rw [Int32.lt_iff_toInt_lt] at h ⊢; have e0 : (0 : Int32).toInt = 0 := rfl; have e1 : (1 : Int32).toInt = 1 := rfl; omega
    simp [h, h2]
def own_qr (r : Value) (n0 : Nat) (v : Option Value) (h : Heap) (L : List Loc) : Prop := v = some r ∧ Fr n0 L
theorem own_pd0 : parseMethodDescriptor "()V" = some ⟨[], none⟩ := by decide +kernel
theorem own_pd1 : parseMethodDescriptor "(I)V" = some ⟨[.int], none⟩ := by decide +kernel
theorem own_pd2 : parseMethodDescriptor "(Lcom/example/mizan/mizan/Walk$Frame;)Z" = some ⟨[(.object "com/example/mizan/mizan/Walk$Frame")], some .boolean⟩ := by decide +kernel
theorem own_pd3 : parseMethodDescriptor "(I)Ljava/lang/Integer;" = some ⟨[.int], some (.object "java/lang/Integer")⟩ := by decide +kernel
theorem own_d6_0 : decode jdk_18_method_1_code 0 = .ok (.aload_n 0, 1) := by decide +kernel
theorem own_d6_1 : decode jdk_18_method_1_code 1 = .ok (.invokespecial 1, 3) := by decide +kernel
theorem own_d6_4 : decode jdk_18_method_1_code 4 = .ok (.return_, 1) := by decide +kernel
theorem own_pn6 : plainFor (⟨"java/lang/Number", "<init>", "()V"⟩ : MethodName) = true := plainFor_of_name (show plainName "java/lang/Number" = true by first | (simp [plainName, overriddenIn]; done) | decide +kernel)
theorem own_ef6 (m : MethodId) (a1 : Addr) : entryFrame m #[(.ref a1)] 1 = (mkF m 0 #[.val (.ref a1)] []) := by first | (simp [entryFrame, mkF, argsToLocals, Value.category]; done) | rfl
set_option maxRecDepth 65536 in
set_option maxHeartbeats 40000000 in
theorem own_rm6 (l : Launch) (Z : State) (a0 : Array Value) (hw : ∀ d ∈ tables_1, d.before a0 Z = true) (h0 : Heap) (n0 : Nat) (Z0 : n0 ≤ h0.size) (a1 : Addr)  :
    own_C l Z (⟨"java/lang/Number", "<init>", "()V"⟩ : MethodName) jdk_18_method_1_code 1 none [] ({ frames := 1, cells := 0, slots := 0, locals := 12 } : Room) #[(.ref a1)] h0 (own_V h0) := by
  refine own_body own_pn6 (f0 := fun m => (mkF m 0 #[.val (.ref a1)] [])) (fun m => own_ef6 m a1) ?_
  intro p e s m below meth c s₁ hx hby hml hown hnm hret hlk hZ X0 e0
  change own_G p e below (own_F (own_V h0) s 0 0) s₁ (mkF m 0 #[.val (.ref a1)] [])
  have N0 := Fr.nil n0
  refine own_st (T' := s₁) (g' := (mkF m 1 #[.val (.ref a1)] [(.ref a1)])) (fun t k => XS.aloadN X0.here hx rfl (hb hby own_d6_0) rfl rfl k) ?_
  obtain ⟨T1, X1, e1, st1⟩ := initO X0 hx hZ hown (hw _ (List.mem_of_getElem? (i := 40) rfl)) (hw _ (List.mem_of_getElem? (i := 7) rfl)) (hw _ (List.mem_of_getElem? (i := 8) rfl)) e0 (g := (mkF m 1 #[.val (.ref a1)] [(.ref a1)])) rfl (by rw [hml]; rfl) rfl (hb hby own_d6_1) (by decide) (W := 0) (by show 2 * 0 + _ ≤ _; exact Nat.le_of_eq rfl) (by decide)
  refine own_st (T' := T1) (g' := (mkF m 4 #[.val (.ref a1)] [])) st1 ?_
  exact own_retV X1 hx hlk hret (hb hby own_d6_4) (by decide) (by decide) ⟨rfl, e1, rfl⟩
theorem own_d5_0 : decode jdk_33_method_23_code 0 = .ok (.aload_n 0, 1) := by decide +kernel
theorem own_d5_1 : decode jdk_33_method_23_code 1 = .ok (.invokespecial 202, 3) := by decide +kernel
theorem own_d5_4 : decode jdk_33_method_23_code 4 = .ok (.aload_n 0, 1) := by decide +kernel
theorem own_d5_5 : decode jdk_33_method_23_code 5 = .ok (.iload_n 1, 1) := by decide +kernel
theorem own_d5_6 : decode jdk_33_method_23_code 6 = .ok (.putfield 205, 3) := by decide +kernel
theorem own_d5_9 : decode jdk_33_method_23_code 9 = .ok (.return_, 1) := by decide +kernel
theorem own_pn5 : plainFor (⟨"java/lang/Integer", "<init>", "(I)V"⟩ : MethodName) = true := plainFor_of_name (show plainName "java/lang/Integer" = true by first | (simp [plainName, overriddenIn]; done) | decide +kernel)
theorem own_ef5 (m : MethodId) (a1 : Addr) (p2 : Int32) : entryFrame m #[(.ref a1), (.int p2)] 2 = (mkF m 0 #[.val (.ref a1), .val (.int p2)] []) := by first | (simp [entryFrame, mkF, argsToLocals, Value.category]; done) | rfl
set_option maxRecDepth 65536 in
set_option maxHeartbeats 40000000 in
theorem own_rm5 (l : Launch) (Z : State) (a0 : Array Value) (hw : ∀ d ∈ tables_1, d.before a0 Z = true) (h0 : Heap) (n0 : Nat) (Z0 : n0 ≤ h0.size) (a1 : Addr) (p2 : Int32) (E_a1 : Exa Z h0 a1 "java/lang/Integer") (g_a1 : n0 ≤ a1) (u : Value) (F_value_a1 : Fld Z h0 a1 "java/lang/Integer" "value" "I" u) :
    own_C l Z (⟨"java/lang/Integer", "<init>", "(I)V"⟩ : MethodName) jdk_33_method_23_code 2 none [] ({ frames := 2, cells := 0, slots := 0, locals := 24 } : Room) #[(.ref a1), (.int p2)] h0 (own_qib Z a1 h0 n0) := by
  refine own_body own_pn5 (f0 := fun m => (mkF m 0 #[.val (.ref a1), .val (.int p2)] [])) (fun m => own_ef5 m a1 p2) ?_
  intro p e s m below meth c s₁ hx hby hml hown hnm hret hlk hZ X0 e0
  change own_G p e below (own_F (own_qib Z a1 h0 n0) s 0 0) s₁ (mkF m 0 #[.val (.ref a1), .val (.int p2)] [])
  have N0 := Fr.nil n0
  refine own_st (T' := s₁) (g' := (mkF m 1 #[.val (.ref a1), .val (.int p2)] [(.ref a1)])) (fun t k => XS.aloadN X0.here hx rfl (hb hby own_d5_0) rfl rfl k) ?_
  obtain ⟨_, T1, L1, hQ1, X1, st1⟩ := own_callI (y := (⟨"java/lang/Number", "<init>", "()V"⟩ : MethodName)) (argsL := []) 0 [] (own_rm6 l Z a0 hw h0 n0 Z0 a1) X0 hx hZ hown rfl (hw _ (List.mem_of_getElem? (i := 34) rfl)) (hw _ (List.mem_of_getElem? (i := 35) rfl)) (hw _ (List.mem_of_getElem? (i := 39) rfl)) (hw _ (List.mem_of_getElem? (i := 38) rfl)) (by decide) (by decide) (by decide) (by decide) (by decide) e0 (g := (mkF m 1 #[.val (.ref a1), .val (.int p2)] [(.ref a1)])) rfl (by rw [hml]; rfl) (lenOf own_pd0 rfl) rfl (by show 2 * 0 + _ ≤ _; exact Nat.le_of_eq rfl) (hb hby own_d5_1)
  obtain ⟨rfl, e1, rfl⟩ := hQ1
  have X1 : Stand p l e ({ frames := 2, cells := 0, slots := 0, locals := 24 } : Room) s m #[(.ref a1), (.int p2)] below meth c T1 [] 0 0 := X1
  refine own_st (T' := T1) (g' := (mkF m 4 #[.val (.ref a1), .val (.int p2)] [])) st1 ?_
  refine own_st (T' := T1) (g' := (mkF m 5 #[.val (.ref a1), .val (.int p2)] [(.ref a1)])) (fun t k => XS.aloadN X1.here hx rfl (hb hby own_d5_4) rfl rfl k) ?_
  refine own_st (T' := T1) (g' := (mkF m 6 #[.val (.ref a1), .val (.int p2)] [(.int p2), (.ref a1)])) (fun t k => XS.iloadN X1.here hx rfl (hb hby own_d5_5) rfl k) ?_
  obtain ⟨T2, h2, X2, e2, W2, st2⟩ := putF X1 hx hZ hown (host := "") (Or.inl (hw _ (List.mem_of_getElem? (i := 41) rfl))) Via.refl e1 F_value_a1 E_a1 (Or.inr ⟨(hw _ (List.mem_of_getElem? (i := 42) rfl)), rfl, hnm⟩) (hw _ (List.mem_of_getElem? (i := 29) rfl)) (ty := .int) (by decide) rfl rfl (g := (mkF m 6 #[.val (.ref a1), .val (.int p2)] [(.int p2), (.ref a1)])) rfl rfl (hb hby own_d5_6)
  have E_a1 := E_a1.wr W2
  have F_value_a1 := F_value_a1.same W2
  have K0_2 := (Keep.refl h0 [a1]).wr W2 (Or.inl (List.mem_of_getElem? (i := 0) rfl))
  have N2 := Fr.snoc X2 N0 g_a1
  generalize hlc2 : ([] ++ [(⟨a1, Jvm.RoadKit.slotOf Z "java/lang/Integer" "value" "I"⟩ : Loc)] : List Loc) = lc2 at X2 N2
  have Z2 : n0 ≤ h2.size := Nat.le_trans Z0 (Keep.of_wr W2).1
  refine own_st (T' := T2) (g' := (mkF m 9 #[.val (.ref a1), .val (.int p2)] [])) st2 ?_
  exact own_retV X2 hx hlk hret (hb hby own_d5_9) (by decide) (by decide) (by rw [e2]; exact ⟨rfl, N2, K0_2, E_a1⟩)
theorem own_d4_0 : decode jdk_33_method_22_code 0 = .ok (.iload_n 0, 1) := by decide +kernel
theorem own_d4_1 : decode jdk_33_method_22_code 1 = .ok (.bipush (-128), 2) := by decide +kernel
theorem own_d4_3 : decode jdk_33_method_22_code 3 = .ok (.if_icmp .lt 20, 3) := by decide +kernel
theorem own_d4_6 : decode jdk_33_method_22_code 6 = .ok (.iload_n 0, 1) := by decide +kernel
theorem own_d4_7 : decode jdk_33_method_22_code 7 = .ok (.getstatic 191, 3) := by decide +kernel
theorem own_d4_10 : decode jdk_33_method_22_code 10 = .ok (.if_icmp .gt 13, 3) := by decide +kernel
theorem own_d4_13 : decode jdk_33_method_22_code 13 = .ok (.getstatic 195, 3) := by decide +kernel
theorem own_d4_16 : decode jdk_33_method_22_code 16 = .ok (.iload_n 0, 1) := by decide +kernel
theorem own_d4_17 : decode jdk_33_method_22_code 17 = .ok (.sipush 128, 3) := by decide +kernel
theorem own_d4_20 : decode jdk_33_method_22_code 20 = .ok (.iadd, 1) := by decide +kernel
theorem own_d4_21 : decode jdk_33_method_22_code 21 = .ok (.aaload, 1) := by decide +kernel
theorem own_d4_22 : decode jdk_33_method_22_code 22 = .ok (.areturn, 1) := by decide +kernel
theorem own_d4_23 : decode jdk_33_method_22_code 23 = .ok (.new 1, 3) := by decide +kernel
theorem own_d4_26 : decode jdk_33_method_22_code 26 = .ok (.dup, 1) := by decide +kernel
theorem own_d4_27 : decode jdk_33_method_22_code 27 = .ok (.iload_n 0, 1) := by decide +kernel
theorem own_d4_28 : decode jdk_33_method_22_code 28 = .ok (.invokespecial 199, 3) := by decide +kernel
theorem own_d4_31 : decode jdk_33_method_22_code 31 = .ok (.areturn, 1) := by decide +kernel
theorem own_pn4 : plainFor (⟨"java/lang/Integer", "valueOf", "(I)Ljava/lang/Integer;"⟩ : MethodName) = true := plainFor_of_name (show plainName "java/lang/Integer" = true by first | (simp [plainName, overriddenIn]; done) | decide +kernel)
theorem own_ef4 (m : MethodId) (p1 : Int32) : entryFrame m #[(.int p1)] 1 = (mkF m 0 #[.val (.int p1)] []) := by first | (simp [entryFrame, mkF, argsToLocals, Value.category]; done) | rfl
set_option maxRecDepth 65536 in
set_option maxHeartbeats 40000000 in
theorem own_rm4 (l : Launch) (Z : State) (a0 : Array Value) (hw : ∀ d ∈ tables_1, d.before a0 Z = true) (h0 : Heap) (n0 : Nat) (Z0 : n0 ≤ h0.size) (p1 : Int32) (O : Old Z n0 h0) (s_cache : Addr) (cc : Cell) (S_high : Sta Z Z.heap "java/lang/Integer$IntegerCache" "high" "I" (.int 127)) (S_cache : Sta Z Z.heap "java/lang/Integer$IntegerCache" "cache" "[Ljava/lang/Integer;" (.ref s_cache)) (B_cache : Bxs Z s_cache cc "java/lang/Integer" "I" 256 (fun j => .int (j - 128))) :
    own_C l Z (⟨"java/lang/Integer", "valueOf", "(I)Ljava/lang/Integer;"⟩ : MethodName) jdk_33_method_22_code 1 (some (.object "java/lang/Integer")) [] ({ frames := 3, cells := 1, slots := 1, locals := 40 } : Room) #[(.int p1)] h0 (own_qvo Z h0 n0) := by
  refine own_body own_pn4 (f0 := fun m => (mkF m 0 #[.val (.int p1)] [])) (fun m => own_ef4 m p1) ?_
  intro p e s m below meth c s₁ hx hby hml hown hnm hret hlk hZ X0 e0
  change own_G p e below (own_F (own_qvo Z h0 n0) s 1 1) s₁ (mkF m 0 #[.val (.int p1)] [])
  have N0 := Fr.nil n0
  refine own_st (T' := s₁) (g' := (mkF m 1 #[.val (.int p1)] [(.int p1)])) (fun t k => XS.iloadN X0.here hx rfl (hb hby own_d4_0) rfl k) ?_
  refine own_st (T' := s₁) (g' := (mkF m 3 #[.val (.int p1)] [(.int (-128 : Int32)), (.int p1)])) (fun t k => XS.bipush X0.here hx rfl (hb hby own_d4_1) k) ?_
  by_cases hc3_1 : p1 < (-128 : Int32)
  ·
    refine own_st (T' := s₁) (g' := (mkF m 23 #[.val (.int p1)] [])) (fun t k => XS.icmpYes X0.here hx rfl (pc0 := 3) (pc' := 23) rfl (hb hby own_d4_3) rfl (tlt hc3_1).1 (by decide) (by decide) k) ?_
    obtain ⟨T2, h2, X2, e2, E2, A2, D2, -, st2⟩ := newO X0 hx hZ hown (hw _ (List.mem_of_getElem? (i := 28) rfl)) (hw _ (List.mem_of_getElem? (i := 29) rfl)) (hw _ (List.mem_of_getElem? (i := 24) rfl)) e0 (g := (mkF m 23 #[.val (.int p1)] [])) rfl (hb hby own_d4_23) (by decide) (by decide)
    obtain ⟨b2, gb2⟩ : ∃ z, z = h0.size := ⟨_, rfl⟩
    rw [← gb2] at A2 D2 st2
    have g_b2 : n0 ≤ b2 := Nat.le_trans Z0 (Nat.le_of_eq gb2.symm)
    have Z2 : n0 ≤ h2.size := Nat.le_trans Z0 E2.1
    have sz_b2 : h0.size ≤ b2 := Nat.le_trans (Keep.refl h0 []).1 (Nat.le_of_eq gb2.symm)
    have K0_2 := (Keep.refl h0 []).ext E2
    have O := O.ext E2
    have E_b2 := A2
    have F_value_b2 : Fld Z h2 b2 "java/lang/Integer" "value" "I" (.int (0 : Int32)) := D2 (Or.inr (hw _ (List.mem_of_getElem? (i := 42) rfl))) (ty := .int) (by decide)
    have X2 : Stand p l e ({ frames := 3, cells := 1, slots := 1, locals := 40 } : Room) s m #[(.int p1)] below meth c T2 [] 1 1 := X2
    refine own_st (T' := T2) (g' := (mkF m 26 #[.val (.int p1)] [(.ref b2)])) st2 ?_
    refine own_st (T' := T2) (g' := (mkF m 27 #[.val (.int p1)] [(.ref b2), (.ref b2)])) (fun t k => XS.dup X2.here hx rfl (hb hby own_d4_26) rfl rfl k) ?_
    refine own_st (T' := T2) (g' := (mkF m 28 #[.val (.int p1)] [(.int p1), (.ref b2), (.ref b2)])) (fun t k => XS.iloadN X2.here hx rfl (hb hby own_d4_27) rfl k) ?_
    obtain ⟨_, T3, L3, hQ3, X3, st3⟩ := own_callI (y := (⟨"java/lang/Integer", "<init>", "(I)V"⟩ : MethodName)) (argsL := [(.int p1)]) 1 [(.ref b2)] (own_rm5 l Z a0 hw h2 n0 Z2 b2 p1 E_b2 g_b2 _ F_value_b2) X2 hx hZ hown rfl (hw _ (List.mem_of_getElem? (i := 30) rfl)) (hw _ (List.mem_of_getElem? (i := 31) rfl)) (hw _ (List.mem_of_getElem? (i := 33) rfl)) (hw _ (List.mem_of_getElem? (i := 24) rfl)) (by decide) (by decide) (by decide) (by decide) (by decide) e2 (g := (mkF m 28 #[.val (.int p1)] [(.int p1), (.ref b2), (.ref b2)])) rfl (by rw [hml]; rfl) (lenOf own_pd1 rfl) rfl (by show 2 * 0 + _ ≤ _; exact Nat.le_of_eq rfl) (hb hby own_d4_28)
    obtain ⟨rfl, N3q, Kq3, E_b2⟩ := hQ3
    have K0_3 := K0_2.trans Kq3 (allS (Or.inr sz_b2) all0)
    have Z3 : n0 ≤ T3.heap.size := Nat.le_trans Z2 Kq3.1
    have O := O.keep Kq3 (allS g_b2 all0)
    have N3 := Fr.app N0 N3q
    generalize hlc3 : ([] ++ L3 : List Loc) = lc3 at X3 N3
    have X3 : Stand p l e ({ frames := 3, cells := 1, slots := 1, locals := 40 } : Room) s m #[(.int p1)] below meth c T3 lc3 1 1 := X3
    refine own_st (T' := T3) (g' := (mkF m 31 #[.val (.int p1)] [(.ref b2)])) st3 ?_
    exact own_retR X3 hx hlk hret (hb hby own_d4_31) (by decide) (by decide) rfl ⟨b2, rfl, N3, own_ext K0_3, E_b2⟩
  ·
    refine own_st (T' := s₁) (g' := (mkF m 6 #[.val (.int p1)] [])) (fun t k => XS.icmpNo X0.here hx rfl (hb hby own_d4_3) rfl (flt hc3_1).1 k) ?_
    refine own_st (T' := s₁) (g' := (mkF m 7 #[.val (.int p1)] [(.int p1)])) (fun t k => XS.iloadN X0.here hx rfl (hb hby own_d4_6) rfl k) ?_
    obtain ⟨T4, X4, e4, st4⟩ := getS2 X0 hx hZ hown (host := "") (Or.inl (hw _ (List.mem_of_getElem? (i := 26) rfl))) Via.refl e0 (S_high.ext O.2) (g := (mkF m 7 #[.val (.int p1)] [(.int p1)])) rfl (hb hby own_d4_7)
    refine own_st (T' := T4) (g' := (mkF m 10 #[.val (.int p1)] [(.int (127 : Int32)), (.int p1)])) st4 ?_
    by_cases hc10_5 : (127 : Int32) < p1
    ·
      refine own_st (T' := T4) (g' := (mkF m 23 #[.val (.int p1)] [])) (fun t k => XS.icmpYes X4.here hx rfl (pc0 := 10) (pc' := 23) rfl (hb hby own_d4_10) rfl (tlt hc10_5).2.2.1 (by decide) (by decide) k) ?_
      obtain ⟨T6, h6, X6, e6, E6, A6, D6, -, st6⟩ := newO X4 hx hZ hown (hw _ (List.mem_of_getElem? (i := 28) rfl)) (hw _ (List.mem_of_getElem? (i := 29) rfl)) (hw _ (List.mem_of_getElem? (i := 24) rfl)) e4 (g := (mkF m 23 #[.val (.int p1)] [])) rfl (hb hby own_d4_23) (by decide) (by decide)
      obtain ⟨b6, gb6⟩ : ∃ z, z = h0.size := ⟨_, rfl⟩
      rw [← gb6] at A6 D6 st6
      have g_b6 : n0 ≤ b6 := Nat.le_trans Z0 (Nat.le_of_eq gb6.symm)
      have Z6 : n0 ≤ h6.size := Nat.le_trans Z0 E6.1
      have sz_b6 : h0.size ≤ b6 := Nat.le_trans (Keep.refl h0 []).1 (Nat.le_of_eq gb6.symm)
      have K0_6 := (Keep.refl h0 []).ext E6
      have O := O.ext E6
      have E_b6 := A6
      have F_value_b6 : Fld Z h6 b6 "java/lang/Integer" "value" "I" (.int (0 : Int32)) := D6 (Or.inr (hw _ (List.mem_of_getElem? (i := 42) rfl))) (ty := .int) (by decide)
      have X6 : Stand p l e ({ frames := 3, cells := 1, slots := 1, locals := 40 } : Room) s m #[(.int p1)] below meth c T6 [] 1 1 := X6
      refine own_st (T' := T6) (g' := (mkF m 26 #[.val (.int p1)] [(.ref b6)])) st6 ?_
      refine own_st (T' := T6) (g' := (mkF m 27 #[.val (.int p1)] [(.ref b6), (.ref b6)])) (fun t k => XS.dup X6.here hx rfl (hb hby own_d4_26) rfl rfl k) ?_
      refine own_st (T' := T6) (g' := (mkF m 28 #[.val (.int p1)] [(.int p1), (.ref b6), (.ref b6)])) (fun t k => XS.iloadN X6.here hx rfl (hb hby own_d4_27) rfl k) ?_
      obtain ⟨_, T7, L7, hQ7, X7, st7⟩ := own_callI (y := (⟨"java/lang/Integer", "<init>", "(I)V"⟩ : MethodName)) (argsL := [(.int p1)]) 1 [(.ref b6)] (own_rm5 l Z a0 hw h6 n0 Z6 b6 p1 E_b6 g_b6 _ F_value_b6) X6 hx hZ hown rfl (hw _ (List.mem_of_getElem? (i := 30) rfl)) (hw _ (List.mem_of_getElem? (i := 31) rfl)) (hw _ (List.mem_of_getElem? (i := 33) rfl)) (hw _ (List.mem_of_getElem? (i := 24) rfl)) (by decide) (by decide) (by decide) (by decide) (by decide) e6 (g := (mkF m 28 #[.val (.int p1)] [(.int p1), (.ref b6), (.ref b6)])) rfl (by rw [hml]; rfl) (lenOf own_pd1 rfl) rfl (by show 2 * 0 + _ ≤ _; exact Nat.le_of_eq rfl) (hb hby own_d4_28)
      obtain ⟨rfl, N7q, Kq7, E_b6⟩ := hQ7
      have K0_7 := K0_6.trans Kq7 (allS (Or.inr sz_b6) all0)
      have Z7 : n0 ≤ T7.heap.size := Nat.le_trans Z6 Kq7.1
      have O := O.keep Kq7 (allS g_b6 all0)
      have N7 := Fr.app N0 N7q
      generalize hlc7 : ([] ++ L7 : List Loc) = lc7 at X7 N7
      have X7 : Stand p l e ({ frames := 3, cells := 1, slots := 1, locals := 40 } : Room) s m #[(.int p1)] below meth c T7 lc7 1 1 := X7
      refine own_st (T' := T7) (g' := (mkF m 31 #[.val (.int p1)] [(.ref b6)])) st7 ?_
      exact own_retR X7 hx hlk hret (hb hby own_d4_31) (by decide) (by decide) rfl ⟨b6, rfl, N7, own_ext K0_7, E_b6⟩
    ·
      refine own_st (T' := T4) (g' := (mkF m 13 #[.val (.int p1)] [])) (fun t k => XS.icmpNo X4.here hx rfl (hb hby own_d4_10) rfl (flt hc10_5).2.2.1 k) ?_
      obtain ⟨T8, X8, e8, st8⟩ := getS2 X4 hx hZ hown (host := "") (Or.inl (hw _ (List.mem_of_getElem? (i := 43) rfl))) Via.refl e4 (S_cache.ext O.2) (g := (mkF m 13 #[.val (.int p1)] [])) rfl (hb hby own_d4_13)
      refine own_st (T' := T8) (g' := (mkF m 16 #[.val (.int p1)] [(.ref s_cache)])) st8 ?_
      refine own_st (T' := T8) (g' := (mkF m 17 #[.val (.int p1)] [(.int p1), (.ref s_cache)])) (fun t k => XS.iloadN X8.here hx rfl (hb hby own_d4_16) rfl k) ?_
      refine own_st (T' := T8) (g' := (mkF m 20 #[.val (.int p1)] [(.int (128 : Int32)), (.int p1), (.ref s_cache)])) (fun t k => XS.sipush X8.here hx rfl (hb hby own_d4_17) k) ?_
      refine own_st (T' := T8) (g' := (mkF m 21 #[.val (.int p1)] [(.int (p1 + (128 : Int32))), (.ref s_cache)])) (fun t k => XS.iadd X8.here hx rfl (hb hby own_d4_20) rfl k) ?_
      have pl9 := Jvm.Free.IntBox.place_ok p1 hc3_1 hc10_5
      have hs9 : cc.slots.size = 256 := B_cache.2.1
      have hin9 : ¬ (p1 + 128 < 0 ∨ cc.slots.size ≤ (p1 + 128).toNatClampNeg) := by rw [hs9]; exact pl9.1
      obtain ⟨x9, hat9, Ex9, -⟩ := B_cache.2.2.2 _ hin9
      have Ex9 := Ex9.ext O.2
      refine own_st (T' := T8) (g' := (mkF m 22 #[.val (.int p1)] [(.ref x9)])) (X8.aaload hx (j := (p1 + (128 : Int32))) (v := (.ref x9)) (by rw [e8]; exact (B_cache.1.ext O.2).1) (State.isArrayOf_alike hZ.alike (B_cache.1.ext O.2).2.1) rfl (B_cache.1.ext O.2).2.2 hin9 hat9 (g := (mkF m 21 #[.val (.int p1)] [(.int (p1 + (128 : Int32))), (.ref s_cache)])) rfl rfl (hb hby own_d4_21)) ?_
      exact own_retR X8 hx hlk hret (hb hby own_d4_22) (by decide) (by decide) rfl (by rw [e8]; exact ⟨x9, rfl, N0, own_ext (Keep.refl h0 []), Ex9⟩)
theorem own_d1_0 : decode prog_55_method_1_code 0 = .ok (.aload_n 0, 1) := by decide +kernel
theorem own_d1_1 : decode prog_55_method_1_code 1 = .ok (.invokespecial 1, 3) := by decide +kernel
theorem own_d1_4 : decode prog_55_method_1_code 4 = .ok (.return_, 1) := by decide +kernel
theorem own_pn1 : plainFor (⟨"com/example/mizan/mizan/Walk$Frame", "<init>", "()V"⟩ : MethodName) = true := plainFor_of_name (show plainName "com/example/mizan/mizan/Walk$Frame" = true by first | (simp [plainName, overriddenIn]; done) | decide +kernel)
theorem own_ef1 (m : MethodId) (a1 : Addr) : entryFrame m #[(.ref a1)] 1 = (mkF m 0 #[.val (.ref a1)] []) := by first | (simp [entryFrame, mkF, argsToLocals, Value.category]; done) | rfl
set_option maxRecDepth 65536 in
set_option maxHeartbeats 40000000 in
theorem own_rm1 (l : Launch) (Z : State) (a0 : Array Value) (hw : ∀ d ∈ tables_1, d.before a0 Z = true) (h0 : Heap) (n0 : Nat) (Z0 : n0 ≤ h0.size) (a1 : Addr)  :
    own_C l Z (⟨"com/example/mizan/mizan/Walk$Frame", "<init>", "()V"⟩ : MethodName) prog_55_method_1_code 1 none [] ({ frames := 1, cells := 0, slots := 0, locals := 12 } : Room) #[(.ref a1)] h0 (own_V h0) := by
  refine own_body own_pn1 (f0 := fun m => (mkF m 0 #[.val (.ref a1)] [])) (fun m => own_ef1 m a1) ?_
  intro p e s m below meth c s₁ hx hby hml hown hnm hret hlk hZ X0 e0
  change own_G p e below (own_F (own_V h0) s 0 0) s₁ (mkF m 0 #[.val (.ref a1)] [])
  have N0 := Fr.nil n0
  refine own_st (T' := s₁) (g' := (mkF m 1 #[.val (.ref a1)] [(.ref a1)])) (fun t k => XS.aloadN X0.here hx rfl (hb hby own_d1_0) rfl rfl k) ?_
  obtain ⟨T1, X1, e1, st1⟩ := initO X0 hx hZ hown (hw _ (List.mem_of_getElem? (i := 6) rfl)) (hw _ (List.mem_of_getElem? (i := 7) rfl)) (hw _ (List.mem_of_getElem? (i := 8) rfl)) e0 (g := (mkF m 1 #[.val (.ref a1)] [(.ref a1)])) rfl (by rw [hml]; rfl) rfl (hb hby own_d1_1) (by decide) (W := 0) (by show 2 * 0 + _ ≤ _; exact Nat.le_of_eq rfl) (by decide)
  refine own_st (T' := T1) (g' := (mkF m 4 #[.val (.ref a1)] [])) st1 ?_
  exact own_retV X1 hx hlk hret (hb hby own_d1_4) (by decide) (by decide) ⟨rfl, e1, rfl⟩
theorem own_d3_0 : decode prog_10_method_4_code 0 = .ok (.aload_n 0, 1) := by decide +kernel
theorem own_d3_1 : decode prog_10_method_4_code 1 = .ok (.ifnull 14, 3) := by decide +kernel
theorem own_d3_15 : decode prog_10_method_4_code 15 = .ok (.iconst 0, 1) := by decide +kernel
theorem own_d3_16 : decode prog_10_method_4_code 16 = .ok (.ireturn, 1) := by decide +kernel
theorem own_pn3 : plainFor (⟨"com/example/mizan/mizan/Composite", "resumes", "(Lcom/example/mizan/mizan/Walk$Frame;)Z"⟩ : MethodName) = true := plainFor_of_name (show plainName "com/example/mizan/mizan/Composite" = true by first | (simp [plainName, overriddenIn]; done) | decide +kernel)
theorem own_ef3n (m : MethodId)  : entryFrame m #[.null] 1 = (mkF m 0 #[.val .null] []) := by first | (simp [entryFrame, mkF, argsToLocals, Value.category]; done) | rfl
set_option maxRecDepth 65536 in
set_option maxHeartbeats 40000000 in
theorem own_rm3n (l : Launch) (Z : State) (a0 : Array Value) (hw : ∀ d ∈ tables_1, d.before a0 Z = true) (h0 : Heap) (n0 : Nat) (Z0 : n0 ≤ h0.size)   :
    own_C l Z (⟨"com/example/mizan/mizan/Composite", "resumes", "(Lcom/example/mizan/mizan/Walk$Frame;)Z"⟩ : MethodName) prog_10_method_4_code 1 (some .boolean) [] ({ frames := 0, cells := 0, slots := 0, locals := 0 } : Room) #[.null] h0 (own_P (.int 0) h0) := by
  refine own_body own_pn3 (f0 := fun m => (mkF m 0 #[.val .null] [])) (fun m => own_ef3n m ) ?_
  intro p e s m below meth c s₁ hx hby hml hown hnm hret hlk hZ X0 e0
  change own_G p e below (own_F (own_P (.int 0) h0) s 0 0) s₁ (mkF m 0 #[.val .null] [])
  have N0 := Fr.nil n0
  refine own_st (T' := s₁) (g' := (mkF m 1 #[.val .null] [.null])) (fun t k => XS.aloadN X0.here hx rfl (hb hby own_d3_0) rfl rfl k) ?_
  refine own_st (T' := s₁) (g' := (mkF m 15 #[.val .null] [])) (fun t k => XS.ifnullYes X0.here hx rfl (pc0 := 1) (pc' := 15) rfl (hb hby own_d3_1) rfl (by decide) (by decide) k) ?_
  refine own_st (T' := s₁) (g' := (mkF m 16 #[.val .null] [(.int (0 : Int32))])) (fun t k => XS.iconst X0.here hx rfl (hb hby own_d3_15) k) ?_
  exact own_retB X0 hx hlk hret (hb hby own_d3_16) (by decide) (by decide) rfl ⟨rfl, e0, rfl⟩
theorem own_d3_4 : decode prog_10_method_4_code 4 = .ok (.aload_n 0, 1) := by decide +kernel
theorem own_d3_5 : decode prog_10_method_4_code 5 = .ok (.getfield 13, 3) := by decide +kernel
theorem own_d3_8 : decode prog_10_method_4_code 8 = .ok (.ifCond .le 7, 3) := by decide +kernel
theorem own_d3_11 : decode prog_10_method_4_code 11 = .ok (.iconst 1, 1) := by decide +kernel
theorem own_d3_12 : decode prog_10_method_4_code 12 = .ok (.goto 4, 3) := by decide +kernel
theorem own_ef3 (m : MethodId) (a1 : Addr) : entryFrame m #[(.ref a1)] 1 = (mkF m 0 #[.val (.ref a1)] []) := by first | (simp [entryFrame, mkF, argsToLocals, Value.category]; done) | rfl
set_option maxRecDepth 65536 in
set_option maxHeartbeats 40000000 in
theorem own_rm3 (l : Launch) (Z : State) (a0 : Array Value) (hw : ∀ d ∈ tables_1, d.before a0 Z = true) (h0 : Heap) (n0 : Nat) (Z0 : n0 ≤ h0.size) (a1 : Addr) (z : Int32) (F_entered_a1 : Fld Z h0 a1 "com/example/mizan/mizan/Walk$Frame" "entered" "I" (.int z)) (r : Int32) (hr : r = own_res z) :
    own_C l Z (⟨"com/example/mizan/mizan/Composite", "resumes", "(Lcom/example/mizan/mizan/Walk$Frame;)Z"⟩ : MethodName) prog_10_method_4_code 1 (some .boolean) [] ({ frames := 0, cells := 0, slots := 0, locals := 0 } : Room) #[(.ref a1)] h0 (own_P (.int r) h0) := by
  refine own_body own_pn3 (f0 := fun m => (mkF m 0 #[.val (.ref a1)] [])) (fun m => own_ef3 m a1) ?_
  intro p e s m below meth c s₁ hx hby hml hown hnm hret hlk hZ X0 e0
  change own_G p e below (own_F (own_P (.int r) h0) s 0 0) s₁ (mkF m 0 #[.val (.ref a1)] [])
  have N0 := Fr.nil n0
  refine own_st (T' := s₁) (g' := (mkF m 1 #[.val (.ref a1)] [(.ref a1)])) (fun t k => XS.aloadN X0.here hx rfl (hb hby own_d3_0) rfl rfl k) ?_
  refine own_st (T' := s₁) (g' := (mkF m 4 #[.val (.ref a1)] [])) (fun t k => XS.ifnullNo X0.here hx rfl (hb hby own_d3_1) rfl k) ?_
  refine own_st (T' := s₁) (g' := (mkF m 5 #[.val (.ref a1)] [(.ref a1)])) (fun t k => XS.aloadN X0.here hx rfl (hb hby own_d3_4) rfl rfl k) ?_
  obtain ⟨T1, X1, e1, st1⟩ := getF X0 hx hZ hown (host := "") (Or.inl (hw _ (List.mem_of_getElem? (i := 13) rfl))) Via.refl e0 F_entered_a1 (g := (mkF m 5 #[.val (.ref a1)] [(.ref a1)])) rfl rfl (hb hby own_d3_5)
  refine own_st (T' := T1) (g' := (mkF m 8 #[.val (.ref a1)] [(.int z)])) st1 ?_
  have K3 : ∀ (v4 : Int32) (hv4 : v4 = (if (0 : Int32) < z then (1 : Int32) else (0 : Int32))), own_G p e below (own_F (own_P (.int r) h0) s 0 0) T1 (mkF m 16 #[.val (.ref a1)] [(.int v4)]) := by
    intro v4 hv4
    exact own_retB X1 hx hlk hret (hb hby own_d3_16) (by decide) (by decide) (own_nar (by rw [hv4]; exact (own_01 (Or.inr rfl) (Or.inl rfl)))) ⟨by rw [hr]; simp [own_res, hv4], e1, rfl⟩
  by_cases hc8_2 : (0 : Int32) < z
  ·
    refine own_st (T' := T1) (g' := (mkF m 11 #[.val (.ref a1)] [])) (fun t k => XS.ifNo X1.here hx rfl (hb hby own_d3_8) rfl ((if0 _ _).trans (tlt hc8_2).2.2.2) k) ?_
    refine own_st (T' := T1) (g' := (mkF m 12 #[.val (.ref a1)] [(.int (1 : Int32))])) (fun t k => XS.iconst X1.here hx rfl (hb hby own_d3_11) k) ?_
    refine own_st (T' := T1) (g' := (mkF m 16 #[.val (.ref a1)] [(.int (1 : Int32))])) (fun t k => XS.goto X1.here hx rfl (pc0 := 12) (pc' := 16) rfl (hb hby own_d3_12) (by decide) (by decide) k) ?_
    exact K3 _ (if_pos hc8_2).symm
  ·
    refine own_st (T' := T1) (g' := (mkF m 15 #[.val (.ref a1)] [])) (fun t k => XS.ifYes X1.here hx rfl (pc0 := 8) (pc' := 15) rfl (hb hby own_d3_8) rfl ((if0 _ _).trans (flt hc8_2).2.2.2) (by decide) (by decide) k) ?_
    refine own_st (T' := T1) (g' := (mkF m 16 #[.val (.ref a1)] [(.int (0 : Int32))])) (fun t k => XS.iconst X1.here hx rfl (hb hby own_d3_15) k) ?_
    exact K3 _ (if_neg hc8_2).symm
theorem own_pn0 : plainFor x = true := plainFor_of_name (show plainName "com/example/mizan/mizan/CompositeResumesPinLaw" = true by first | (simp [plainName, overriddenIn]; done) | decide +kernel)
theorem own_ef0 (m : MethodId) (p1 : Int32) (p2 : Int32) (p3 : Int32) : entryFrame m #[(.int p1), (.int p2), (.int p3)] maxLocals = (mkF m 0 #[.val (.int p1), .val (.int p2), .val (.int p3), .unset, .unset, .unset, .unset, .unset, .unset] []) := by first | (simp [entryFrame, mkF, argsToLocals, Value.category, maxLocals]; done) | rfl
set_option maxRecDepth 65536 in
set_option maxHeartbeats 40000000 in
theorem own_rm0 (l : Launch) (Z : State) (a0 : Array Value) (hw : ∀ d ∈ tables_1, d.before a0 Z = true) (h0 : Heap)     (n0 : Nat) (Z0 : n0 ≤ h0.size) (p1 : Int32) (p2 : Int32) (p3 : Int32) (O : Old Z n0 h0) (s_cache : Addr) (cc : Cell) (S_high : Sta Z Z.heap "java/lang/Integer$IntegerCache" "high" "I" (.int 127)) (S_cache : Sta Z Z.heap "java/lang/Integer$IntegerCache" "cache" "[Ljava/lang/Integer;" (.ref s_cache)) (B_cache : Bxs Z s_cache cc "java/lang/Integer" "I" 256 (fun j => .int (j - 128))) :
    own_C l Z x code maxLocals ret tables_1 room_1 #[(.int p1), (.int p2), (.int p3)] h0 (own_qr (.int 1) n0) := by
  refine own_body own_pn0 (f0 := fun m => (mkF m 0 #[.val (.int p1), .val (.int p2), .val (.int p3), .unset, .unset, .unset, .unset, .unset, .unset] [])) (fun m => own_ef0 m p1 p2 p3) ?_
  intro p e s m below meth c s₁ hx hby hml hown hnm hret hlk hZ X0 e0
  change own_G p e below (own_F (own_qr (.int 1) n0) s room_1.cells room_1.slots) s₁ (mkF m 0 #[.val (.int p1), .val (.int p2), .val (.int p3), .unset, .unset, .unset, .unset, .unset, .unset] [])
  have N0 := Fr.nil n0
  refine own_st (T' := s₁) (g' := (mkF m 1 #[.val (.int p1), .val (.int p2), .val (.int p3), .unset, .unset, .unset, .unset, .unset, .unset] [(.int p3)])) (fun t k => XS.iloadN X0.here hx rfl (hb hby at_0) rfl k) ?_
  refine own_st (T' := s₁) (g' := (mkF m 2 #[.val (.int p1), .val (.int p2), .val (.int p3), .unset, .unset, .unset, .unset, .unset, .unset] [(.int (1 : Int32)), (.int p3)])) (fun t k => XS.iconst X0.here hx rfl (hb hby at_1) k) ?_
  refine own_st (T' := s₁) (g' := (mkF m 3 #[.val (.int p1), .val (.int p2), .val (.int p3), .unset, .unset, .unset, .unset, .unset, .unset] [(.int (p3 &&& (1 : Int32)))])) (fun t k => XS.iand X0.here hx rfl (hb hby at_2) rfl k) ?_
  have K2 : ∀ (v3 : Int32) (hv3 : v3 = (if (p3 &&& (1 : Int32)) = (0 : Int32) then (0 : Int32) else (1 : Int32))), own_G p e below (own_F (own_qr (.int 1) n0) s room_1.cells room_1.slots) s₁ (mkF m 11 #[.val (.int p1), .val (.int p2), .val (.int p3), .unset, .unset, .unset, .unset, .unset, .unset] [(.int v3)]) := by
    intro v3 hv3
    refine own_st (T' := s₁) (g' := (mkF m 12 #[.val (.int p1), .val (.int p2), .val (.int p3), .val (.int v3), .unset, .unset, .unset, .unset, .unset] [])) (fun t k => XS.istoreN X0.here hx rfl (hb hby at_11) rfl (l' := #[.val (.int p1), .val (.int p2), .val (.int p3), .val (.int v3), .unset, .unset, .unset, .unset, .unset]) rfl k) ?_
    refine own_st (T' := s₁) (g' := (mkF m 13 #[.val (.int p1), .val (.int p2), .val (.int p3), .val (.int v3), .unset, .unset, .unset, .unset, .unset] [(.int p3)])) (fun t k => XS.iloadN X0.here hx rfl (hb hby at_12) rfl k) ?_
    refine own_st (T' := s₁) (g' := (mkF m 14 #[.val (.int p1), .val (.int p2), .val (.int p3), .val (.int v3), .unset, .unset, .unset, .unset, .unset] [(.int (2 : Int32)), (.int p3)])) (fun t k => XS.iconst X0.here hx rfl (hb hby at_13) k) ?_
    refine own_st (T' := s₁) (g' := (mkF m 15 #[.val (.int p1), .val (.int p2), .val (.int p3), .val (.int v3), .unset, .unset, .unset, .unset, .unset] [(.int (p3 &&& (2 : Int32)))])) (fun t k => XS.iand X0.here hx rfl (hb hby at_14) rfl k) ?_
    have K5 : ∀ (v6 : Int32) (hv6 : v6 = (if (p3 &&& (2 : Int32)) = (0 : Int32) then (0 : Int32) else (1 : Int32))), own_G p e below (own_F (own_qr (.int 1) n0) s room_1.cells room_1.slots) s₁ (mkF m 23 #[.val (.int p1), .val (.int p2), .val (.int p3), .val (.int v3), .unset, .unset, .unset, .unset, .unset] [(.int v6)]) := by
      intro v6 hv6
      refine own_st (T' := s₁) (g' := (mkF m 25 #[.val (.int p1), .val (.int p2), .val (.int p3), .val (.int v3), .val (.int v6), .unset, .unset, .unset, .unset] [])) (fun t k => XS.istore X0.here hx rfl (hb hby at_23) rfl (l' := #[.val (.int p1), .val (.int p2), .val (.int p3), .val (.int v3), .val (.int v6), .unset, .unset, .unset, .unset]) rfl k) ?_
      refine own_st (T' := s₁) (g' := (mkF m 26 #[.val (.int p1), .val (.int p2), .val (.int p3), .val (.int v3), .val (.int v6), .unset, .unset, .unset, .unset] [(.int p3)])) (fun t k => XS.iloadN X0.here hx rfl (hb hby at_25) rfl k) ?_
      refine own_st (T' := s₁) (g' := (mkF m 27 #[.val (.int p1), .val (.int p2), .val (.int p3), .val (.int v3), .val (.int v6), .unset, .unset, .unset, .unset] [(.int (4 : Int32)), (.int p3)])) (fun t k => XS.iconst X0.here hx rfl (hb hby at_26) k) ?_
      refine own_st (T' := s₁) (g' := (mkF m 28 #[.val (.int p1), .val (.int p2), .val (.int p3), .val (.int v3), .val (.int v6), .unset, .unset, .unset, .unset] [(.int (p3 &&& (4 : Int32)))])) (fun t k => XS.iand X0.here hx rfl (hb hby at_27) rfl k) ?_
      have K8 : ∀ (v9 : Int32) (hv9 : v9 = (if (p3 &&& (4 : Int32)) = (0 : Int32) then (0 : Int32) else (1 : Int32))), own_G p e below (own_F (own_qr (.int 1) n0) s room_1.cells room_1.slots) s₁ (mkF m 36 #[.val (.int p1), .val (.int p2), .val (.int p3), .val (.int v3), .val (.int v6), .unset, .unset, .unset, .unset] [(.int v9)]) := by
        intro v9 hv9
        refine own_st (T' := s₁) (g' := (mkF m 38 #[.val (.int p1), .val (.int p2), .val (.int p3), .val (.int v3), .val (.int v6), .val (.int v9), .unset, .unset, .unset] [])) (fun t k => XS.istore X0.here hx rfl (hb hby at_36) rfl (l' := #[.val (.int p1), .val (.int p2), .val (.int p3), .val (.int v3), .val (.int v6), .val (.int v9), .unset, .unset, .unset]) rfl k) ?_
        refine own_st (T' := s₁) (g' := (mkF m 39 #[.val (.int p1), .val (.int p2), .val (.int p3), .val (.int v3), .val (.int v6), .val (.int v9), .unset, .unset, .unset] [(.int p3)])) (fun t k => XS.iloadN X0.here hx rfl (hb hby at_38) rfl k) ?_
        refine own_st (T' := s₁) (g' := (mkF m 41 #[.val (.int p1), .val (.int p2), .val (.int p3), .val (.int v3), .val (.int v6), .val (.int v9), .unset, .unset, .unset] [(.int (8 : Int32)), (.int p3)])) (fun t k => XS.bipush X0.here hx rfl (hb hby at_39) k) ?_
        refine own_st (T' := s₁) (g' := (mkF m 42 #[.val (.int p1), .val (.int p2), .val (.int p3), .val (.int v3), .val (.int v6), .val (.int v9), .unset, .unset, .unset] [(.int (p3 &&& (8 : Int32)))])) (fun t k => XS.iand X0.here hx rfl (hb hby at_41) rfl k) ?_
        have K11 : ∀ (v12 : Int32) (hv12 : v12 = (if (p3 &&& (8 : Int32)) = (0 : Int32) then (0 : Int32) else (1 : Int32))), own_G p e below (own_F (own_qr (.int 1) n0) s room_1.cells room_1.slots) s₁ (mkF m 50 #[.val (.int p1), .val (.int p2), .val (.int p3), .val (.int v3), .val (.int v6), .val (.int v9), .unset, .unset, .unset] [(.int v12)]) := by
          intro v12 hv12
          refine own_st (T' := s₁) (g' := (mkF m 52 #[.val (.int p1), .val (.int p2), .val (.int p3), .val (.int v3), .val (.int v6), .val (.int v9), .val (.int v12), .unset, .unset] [])) (fun t k => XS.istore X0.here hx rfl (hb hby at_50) rfl (l' := #[.val (.int p1), .val (.int p2), .val (.int p3), .val (.int v3), .val (.int v6), .val (.int v9), .val (.int v12), .unset, .unset]) rfl k) ?_
          refine own_st (T' := s₁) (g' := (mkF m 53 #[.val (.int p1), .val (.int p2), .val (.int p3), .val (.int v3), .val (.int v6), .val (.int v9), .val (.int v12), .unset, .unset] [(.int v3)])) (fun t k => XS.iloadN X0.here hx rfl (hb hby at_52) rfl k) ?_
          by_cases hc53_13 : v3 = (0 : Int32)
          ·
            refine own_st (T' := s₁) (g' := (mkF m 69 #[.val (.int p1), .val (.int p2), .val (.int p3), .val (.int v3), .val (.int v6), .val (.int v9), .val (.int v12), .unset, .unset] [])) (fun t k => XS.ifYes X0.here hx rfl (pc0 := 53) (pc' := 69) rfl (hb hby at_53) rfl ((if0 _ _).trans (teq hc53_13).1) (by decide) (by decide) k) ?_
            obtain ⟨T14, h14, X14, e14, E14, A14, D14, -, st14⟩ := newO X0 hx hZ hown (hw _ (List.mem_of_getElem? (i := 0) rfl)) (hw _ (List.mem_of_getElem? (i := 1) rfl)) (hw _ (List.mem_of_getElem? (i := 2) rfl)) e0 (g := (mkF m 69 #[.val (.int p1), .val (.int p2), .val (.int p3), .val (.int v3), .val (.int v6), .val (.int v9), .val (.int v12), .unset, .unset] [])) rfl (hb hby at_69) (by decide) (by decide)
            obtain ⟨b14, gb14⟩ : ∃ z, z = h0.size := ⟨_, rfl⟩
            rw [← gb14] at A14 D14 st14
            have g_b14 : n0 ≤ b14 := Nat.le_trans Z0 (Nat.le_of_eq gb14.symm)
            have Z14 : n0 ≤ h14.size := Nat.le_trans Z0 E14.1
            have O := O.ext E14
            have E_b14 := A14
            have F_entered_b14 : Fld Z h14 b14 "com/example/mizan/mizan/Walk$Frame" "entered" "I" (.int (0 : Int32)) := D14 (Or.inl (hw _ (List.mem_of_getElem? (i := 14) rfl))) (ty := .int) (by decide)
            have F_mark_b14 : Fld Z h14 b14 "com/example/mizan/mizan/Walk$Frame" "mark" "I" (.int (0 : Int32)) := D14 (Or.inl (hw _ (List.mem_of_getElem? (i := 17) rfl))) (ty := .int) (by decide)
            have F_failed_b14 : Fld Z h14 b14 "com/example/mizan/mizan/Walk$Frame" "failed" "Z" (.int (0 : Int32)) := D14 (Or.inl (hw _ (List.mem_of_getElem? (i := 19) rfl))) (ty := .boolean) (by decide)
            have F_handed_b14 : Fld Z h14 b14 "com/example/mizan/mizan/Walk$Frame" "handed" "Ljava/lang/Object;" .null := D14 (Or.inl (hw _ (List.mem_of_getElem? (i := 21) rfl))) (ty := (.object "java/lang/Object")) (by decide)
            have X14 : Stand p l e room_1 s m #[(.int p1), (.int p2), (.int p3)] below meth c T14 [] 1 6 := X14
            refine own_st (T' := T14) (g' := (mkF m 72 #[.val (.int p1), .val (.int p2), .val (.int p3), .val (.int v3), .val (.int v6), .val (.int v9), .val (.int v12), .unset, .unset] [(.ref b14)])) st14 ?_
            refine own_st (T' := T14) (g' := (mkF m 73 #[.val (.int p1), .val (.int p2), .val (.int p3), .val (.int v3), .val (.int v6), .val (.int v9), .val (.int v12), .unset, .unset] [(.ref b14), (.ref b14)])) (fun t k => XS.dup X14.here hx rfl (hb hby at_72) rfl rfl k) ?_
            obtain ⟨_, T15, L15, hQ15, X15, st15⟩ := own_callI (y := (⟨"com/example/mizan/mizan/Walk$Frame", "<init>", "()V"⟩ : MethodName)) (argsL := []) 1 [(.ref b14)] (own_rm1 l Z a0 hw h14 n0 Z14 b14) X14 hx hZ hown rfl (hw _ (List.mem_of_getElem? (i := 3) rfl)) (hw _ (List.mem_of_getElem? (i := 4) rfl)) (hw _ (List.mem_of_getElem? (i := 5) rfl)) (hw _ (List.mem_of_getElem? (i := 2) rfl)) (by decide) (by decide) (by decide) (by decide) (by decide) e14 (g := (mkF m 73 #[.val (.int p1), .val (.int p2), .val (.int p3), .val (.int v3), .val (.int v6), .val (.int v9), .val (.int v12), .unset, .unset] [(.ref b14), (.ref b14)])) rfl (by rw [hml]; rfl) (lenOf own_pd0 rfl) rfl (by show 2 * 0 + _ ≤ _; exact Nat.le_of_eq rfl) (hb hby at_73)
            obtain ⟨rfl, e15, rfl⟩ := hQ15
            have X15 : Stand p l e room_1 s m #[(.int p1), (.int p2), (.int p3)] below meth c T15 [] 1 6 := X15
            refine own_st (T' := T15) (g' := (mkF m 76 #[.val (.int p1), .val (.int p2), .val (.int p3), .val (.int v3), .val (.int v6), .val (.int v9), .val (.int v12), .unset, .unset] [(.ref b14)])) st15 ?_
            refine own_st (T' := T15) (g' := (mkF m 78 #[.val (.int p1), .val (.int p2), .val (.int p3), .val (.int v3), .val (.int v6), .val (.int v9), .val (.int v12), .val (.ref b14), .unset] [])) (fun t k => XS.astore X15.here hx rfl (hb hby at_76) rfl rfl (l' := #[.val (.int p1), .val (.int p2), .val (.int p3), .val (.int v3), .val (.int v6), .val (.int v9), .val (.int v12), .val (.ref b14), .unset]) rfl k) ?_
            refine own_st (T' := T15) (g' := (mkF m 80 #[.val (.int p1), .val (.int p2), .val (.int p3), .val (.int v3), .val (.int v6), .val (.int v9), .val (.int v12), .val (.ref b14), .unset] [(.ref b14)])) (fun t k => XS.aload X15.here hx rfl (hb hby at_78) rfl rfl k) ?_
            obtain ⟨r16, hr16⟩ : ∃ q, q = own_res (0 : Int32) := ⟨_, rfl⟩
            obtain ⟨_, T16, L16, hQ16, X16, st16⟩ := own_callS (y := (⟨"com/example/mizan/mizan/Composite", "resumes", "(Lcom/example/mizan/mizan/Walk$Frame;)Z"⟩ : MethodName)) (argsL := [(.ref b14)]) 0 [] (own_rm3 l Z a0 hw h14 n0 Z14 b14 (0 : Int32) F_entered_b14 _ hr16) X15 hx hZ hown (hw _ (List.mem_of_getElem? (i := 9) rfl)) (hw _ (List.mem_of_getElem? (i := 10) rfl)) (hw _ (List.mem_of_getElem? (i := 11) rfl)) (hw _ (List.mem_of_getElem? (i := 12) rfl)) (by decide) (by decide) (by decide) (by decide) (by decide) e15 (g := (mkF m 80 #[.val (.int p1), .val (.int p2), .val (.int p3), .val (.int v3), .val (.int v6), .val (.int v9), .val (.int v12), .val (.ref b14), .unset] [(.ref b14)])) rfl (by rw [hml]; rfl) (lenOf own_pd2 rfl) rfl (by show 2 * 0 + _ ≤ _; exact Nat.le_of_eq rfl) (hb hby at_80)
            obtain ⟨rfl, e16, rfl⟩ := hQ16
            have X16 : Stand p l e room_1 s m #[(.int p1), (.int p2), (.int p3)] below meth c T16 [] 1 6 := X16
            refine own_st (T' := T16) (g' := (mkF m 83 #[.val (.int p1), .val (.int p2), .val (.int p3), .val (.int v3), .val (.int v6), .val (.int v9), .val (.int v12), .val (.ref b14), .unset] [(.int r16)])) st16 ?_
            have hk17 : r16 = (0 : Int32) := by rw [hr16]; rfl
            refine own_st (T' := T16) (g' := (mkF m 88 #[.val (.int p1), .val (.int p2), .val (.int p3), .val (.int v3), .val (.int v6), .val (.int v9), .val (.int v12), .val (.ref b14), .unset] [])) (fun t k => XS.ifYes X16.here hx rfl (pc0 := 83) (pc' := 88) rfl (hb hby at_83) rfl ((if0 _ _).trans (teq hk17).1) (by decide) (by decide) k) ?_
            refine own_st (T' := T16) (g' := (mkF m 90 #[.val (.int p1), .val (.int p2), .val (.int p3), .val (.int v3), .val (.int v6), .val (.int v9), .val (.int v12), .val (.ref b14), .unset] [(.int v6)])) (fun t k => XS.iload X16.here hx rfl (hb hby at_88) rfl k) ?_
            by_cases hc90_18 : v6 = (0 : Int32)
            ·
              refine own_st (T' := T16) (g' := (mkF m 99 #[.val (.int p1), .val (.int p2), .val (.int p3), .val (.int v3), .val (.int v6), .val (.int v9), .val (.int v12), .val (.ref b14), .unset] [])) (fun t k => XS.ifYes X16.here hx rfl (pc0 := 90) (pc' := 99) rfl (hb hby at_90) rfl ((if0 _ _).trans (teq hc90_18).1) (by decide) (by decide) k) ?_
              refine own_st (T' := T16) (g' := (mkF m 101 #[.val (.int p1), .val (.int p2), .val (.int p3), .val (.int v3), .val (.int v6), .val (.int v9), .val (.int v12), .val (.ref b14), .unset] [(.ref b14)])) (fun t k => XS.aload X16.here hx rfl (hb hby at_99) rfl rfl k) ?_
              refine own_st (T' := T16) (g' := (mkF m 102 #[.val (.int p1), .val (.int p2), .val (.int p3), .val (.int v3), .val (.int v6), .val (.int v9), .val (.int v12), .val (.ref b14), .unset] [(.int p2), (.ref b14)])) (fun t k => XS.iloadN X16.here hx rfl (hb hby at_101) rfl k) ?_
              obtain ⟨T19, h19, X19, e19, W19, st19⟩ := putF X16 hx hZ hown (host := "") (Or.inl (hw _ (List.mem_of_getElem? (i := 16) rfl))) Via.refl e16 F_mark_b14 E_b14 (Or.inl (hw _ (List.mem_of_getElem? (i := 17) rfl))) (hw _ (List.mem_of_getElem? (i := 1) rfl)) (ty := .int) (by decide) rfl rfl (g := (mkF m 102 #[.val (.int p1), .val (.int p2), .val (.int p3), .val (.int v3), .val (.int v6), .val (.int v9), .val (.int v12), .val (.ref b14), .unset] [(.int p2), (.ref b14)])) rfl rfl (hb hby at_102)
              have O := O.wr W19 g_b14
              have E_b14 := E_b14.wr W19
              have F_entered_b14 := F_entered_b14.other W19 (Or.inr (slot_ne (Or.inl (hw _ (List.mem_of_getElem? (i := 14) rfl))) (Or.inl (hw _ (List.mem_of_getElem? (i := 17) rfl))) (by decide) (t := .int) (t' := .int) (by decide) (by decide)))
              have F_mark_b14 := F_mark_b14.same W19
              have F_failed_b14 := F_failed_b14.other W19 (Or.inr (slot_ne (Or.inl (hw _ (List.mem_of_getElem? (i := 19) rfl))) (Or.inl (hw _ (List.mem_of_getElem? (i := 17) rfl))) (by decide) (t := .boolean) (t' := .int) (by decide) (by decide)))
              have F_handed_b14 := F_handed_b14.other W19 (Or.inr (slot_ne (Or.inl (hw _ (List.mem_of_getElem? (i := 21) rfl))) (Or.inl (hw _ (List.mem_of_getElem? (i := 17) rfl))) (by decide) (t := (.object "java/lang/Object")) (t' := .int) (by decide) (by decide)))
              have N19 := Fr.snoc X19 N0 g_b14
              generalize hlc19 : ([] ++ [(⟨b14, Jvm.RoadKit.slotOf Z "com/example/mizan/mizan/Walk$Frame" "mark" "I"⟩ : Loc)] : List Loc) = lc19 at X19 N19
              have Z19 : n0 ≤ h19.size := Nat.le_trans Z14 (Keep.of_wr W19).1
              refine own_st (T' := T19) (g' := (mkF m 105 #[.val (.int p1), .val (.int p2), .val (.int p3), .val (.int v3), .val (.int v6), .val (.int v9), .val (.int v12), .val (.ref b14), .unset] [])) st19 ?_
              refine own_st (T' := T19) (g' := (mkF m 107 #[.val (.int p1), .val (.int p2), .val (.int p3), .val (.int v3), .val (.int v6), .val (.int v9), .val (.int v12), .val (.ref b14), .unset] [(.ref b14)])) (fun t k => XS.aload X19.here hx rfl (hb hby at_105) rfl rfl k) ?_
              refine own_st (T' := T19) (g' := (mkF m 109 #[.val (.int p1), .val (.int p2), .val (.int p3), .val (.int v3), .val (.int v6), .val (.int v9), .val (.int v12), .val (.ref b14), .unset] [(.int v9), (.ref b14)])) (fun t k => XS.iload X19.here hx rfl (hb hby at_107) rfl k) ?_
              obtain ⟨T20, h20, X20, e20, W20, st20⟩ := putFN X19 hx hZ hown (hw _ (List.mem_of_getElem? (i := 18) rfl)) Via.refl e19 F_failed_b14 E_b14 (Or.inl (hw _ (List.mem_of_getElem? (i := 19) rfl))) (hw _ (List.mem_of_getElem? (i := 1) rfl)) (ty := .boolean) (v' := (.int (nar .boolean v9))) (by decide) rfl (fits_nar_bool _) (g := (mkF m 109 #[.val (.int p1), .val (.int p2), .val (.int p3), .val (.int v3), .val (.int v6), .val (.int v9), .val (.int v12), .val (.ref b14), .unset] [(.int v9), (.ref b14)])) rfl rfl (hb hby at_109)
              have O := O.wr W20 g_b14
              have E_b14 := E_b14.wr W20
              have F_entered_b14 := F_entered_b14.other W20 (Or.inr (slot_ne (Or.inl (hw _ (List.mem_of_getElem? (i := 14) rfl))) (Or.inl (hw _ (List.mem_of_getElem? (i := 19) rfl))) (by decide) (t := .int) (t' := .boolean) (by decide) (by decide)))
              have F_mark_b14 := F_mark_b14.other W20 (Or.inr (slot_ne (Or.inl (hw _ (List.mem_of_getElem? (i := 17) rfl))) (Or.inl (hw _ (List.mem_of_getElem? (i := 19) rfl))) (by decide) (t := .int) (t' := .boolean) (by decide) (by decide)))
              have F_failed_b14 := F_failed_b14.same W20
              have F_handed_b14 := F_handed_b14.other W20 (Or.inr (slot_ne (Or.inl (hw _ (List.mem_of_getElem? (i := 21) rfl))) (Or.inl (hw _ (List.mem_of_getElem? (i := 19) rfl))) (by decide) (t := (.object "java/lang/Object")) (t' := .boolean) (by decide) (by decide)))
              have N20 := Fr.snoc X20 N19 g_b14
              generalize hlc20 : (lc19 ++ [(⟨b14, Jvm.RoadKit.slotOf Z "com/example/mizan/mizan/Walk$Frame" "failed" "Z"⟩ : Loc)] : List Loc) = lc20 at X20 N20
              have Z20 : n0 ≤ h20.size := Nat.le_trans Z19 (Keep.of_wr W20).1
              refine own_st (T' := T20) (g' := (mkF m 112 #[.val (.int p1), .val (.int p2), .val (.int p3), .val (.int v3), .val (.int v6), .val (.int v9), .val (.int v12), .val (.ref b14), .unset] [])) st20 ?_
              refine own_st (T' := T20) (g' := (mkF m 114 #[.val (.int p1), .val (.int p2), .val (.int p3), .val (.int v3), .val (.int v6), .val (.int v9), .val (.int v12), .val (.ref b14), .unset] [(.ref b14)])) (fun t k => XS.aload X20.here hx rfl (hb hby at_112) rfl rfl k) ?_
              refine own_st (T' := T20) (g' := (mkF m 116 #[.val (.int p1), .val (.int p2), .val (.int p3), .val (.int v3), .val (.int v6), .val (.int v9), .val (.int v12), .val (.ref b14), .unset] [(.int v12), (.ref b14)])) (fun t k => XS.iload X20.here hx rfl (hb hby at_114) rfl k) ?_
              by_cases hc116_21 : v12 = (0 : Int32)
              ·
                refine own_st (T' := T20) (g' := (mkF m 126 #[.val (.int p1), .val (.int p2), .val (.int p3), .val (.int v3), .val (.int v6), .val (.int v9), .val (.int v12), .val (.ref b14), .unset] [(.ref b14)])) (fun t k => XS.ifYes X20.here hx rfl (pc0 := 116) (pc' := 126) rfl (hb hby at_116) rfl ((if0 _ _).trans (teq hc116_21).1) (by decide) (by decide) k) ?_
                refine own_st (T' := T20) (g' := (mkF m 127 #[.val (.int p1), .val (.int p2), .val (.int p3), .val (.int v3), .val (.int v6), .val (.int v9), .val (.int v12), .val (.ref b14), .unset] [.null, (.ref b14)])) (fun t k => XS.aconstNull X20.here hx rfl (hb hby at_126) k) ?_
                obtain ⟨T22, h22, X22, e22, W22, st22⟩ := putF X20 hx hZ hown (host := "") (Or.inl (hw _ (List.mem_of_getElem? (i := 20) rfl))) Via.refl e20 F_handed_b14 E_b14 (Or.inl (hw _ (List.mem_of_getElem? (i := 21) rfl))) (hw _ (List.mem_of_getElem? (i := 1) rfl)) (ty := (.object "java/lang/Object")) (by decide) rfl rfl (g := (mkF m 127 #[.val (.int p1), .val (.int p2), .val (.int p3), .val (.int v3), .val (.int v6), .val (.int v9), .val (.int v12), .val (.ref b14), .unset] [.null, (.ref b14)])) rfl rfl (hb hby at_127)
                have O := O.wr W22 g_b14
                have E_b14 := E_b14.wr W22
                have F_entered_b14 := F_entered_b14.other W22 (Or.inr (slot_ne (Or.inl (hw _ (List.mem_of_getElem? (i := 14) rfl))) (Or.inl (hw _ (List.mem_of_getElem? (i := 21) rfl))) (by decide) (t := .int) (t' := (.object "java/lang/Object")) (by decide) (by decide)))
                have F_mark_b14 := F_mark_b14.other W22 (Or.inr (slot_ne (Or.inl (hw _ (List.mem_of_getElem? (i := 17) rfl))) (Or.inl (hw _ (List.mem_of_getElem? (i := 21) rfl))) (by decide) (t := .int) (t' := (.object "java/lang/Object")) (by decide) (by decide)))
                have F_failed_b14 := F_failed_b14.other W22 (Or.inr (slot_ne (Or.inl (hw _ (List.mem_of_getElem? (i := 19) rfl))) (Or.inl (hw _ (List.mem_of_getElem? (i := 21) rfl))) (by decide) (t := .boolean) (t' := (.object "java/lang/Object")) (by decide) (by decide)))
                have F_handed_b14 := F_handed_b14.same W22
                have N22 := Fr.snoc X22 N20 g_b14
                generalize hlc22 : (lc20 ++ [(⟨b14, Jvm.RoadKit.slotOf Z "com/example/mizan/mizan/Walk$Frame" "handed" "Ljava/lang/Object;"⟩ : Loc)] : List Loc) = lc22 at X22 N22
                have Z22 : n0 ≤ h22.size := Nat.le_trans Z20 (Keep.of_wr W22).1
                refine own_st (T' := T22) (g' := (mkF m 130 #[.val (.int p1), .val (.int p2), .val (.int p3), .val (.int v3), .val (.int v6), .val (.int v9), .val (.int v12), .val (.ref b14), .unset] [])) st22 ?_
                refine own_st (T' := T22) (g' := (mkF m 132 #[.val (.int p1), .val (.int p2), .val (.int p3), .val (.int v3), .val (.int v6), .val (.int v9), .val (.int v12), .val (.ref b14), .unset] [(.int v6)])) (fun t k => XS.iload X22.here hx rfl (hb hby at_130) rfl k) ?_
                have K24 : ∀ (v25 : Int32) (hv25 : v25 = (if v6 = (0 : Int32) then (0 : Int32) else (if p1 < (1 : Int32) then (0 : Int32) else (1 : Int32)))), own_G p e below (own_F (own_qr (.int 1) n0) s room_1.cells room_1.slots) T22 (mkF m 145 #[.val (.int p1), .val (.int p2), .val (.int p3), .val (.int v3), .val (.int v6), .val (.int v9), .val (.int v12), .val (.ref b14), .unset] [(.int v25)]) := by
                  intro v25 hv25
                  refine own_st (T' := T22) (g' := (mkF m 147 #[.val (.int p1), .val (.int p2), .val (.int p3), .val (.int v3), .val (.int v6), .val (.int v9), .val (.int v12), .val (.ref b14), .val (.int v25)] [])) (fun t k => XS.istore X22.here hx rfl (hb hby at_145) rfl (l' := #[.val (.int p1), .val (.int p2), .val (.int p3), .val (.int v3), .val (.int v6), .val (.int v9), .val (.int v12), .val (.ref b14), .val (.int v25)]) rfl k) ?_
                  refine own_st (T' := T22) (g' := (mkF m 149 #[.val (.int p1), .val (.int p2), .val (.int p3), .val (.int v3), .val (.int v6), .val (.int v9), .val (.int v12), .val (.ref b14), .val (.int v25)] [(.ref b14)])) (fun t k => XS.aload X22.here hx rfl (hb hby at_147) rfl rfl k) ?_
                  obtain ⟨r26, hr26⟩ : ∃ q, q = own_res (0 : Int32) := ⟨_, rfl⟩
                  obtain ⟨_, T26, L26, hQ26, X26, st26⟩ := own_callS (y := (⟨"com/example/mizan/mizan/Composite", "resumes", "(Lcom/example/mizan/mizan/Walk$Frame;)Z"⟩ : MethodName)) (argsL := [(.ref b14)]) 0 [] (own_rm3 l Z a0 hw h22 n0 Z22 b14 (0 : Int32) F_entered_b14 _ hr26) X22 hx hZ hown (hw _ (List.mem_of_getElem? (i := 9) rfl)) (hw _ (List.mem_of_getElem? (i := 10) rfl)) (hw _ (List.mem_of_getElem? (i := 11) rfl)) (hw _ (List.mem_of_getElem? (i := 12) rfl)) (by decide) (by decide) (by decide) (by decide) (by decide) e22 (g := (mkF m 149 #[.val (.int p1), .val (.int p2), .val (.int p3), .val (.int v3), .val (.int v6), .val (.int v9), .val (.int v12), .val (.ref b14), .val (.int v25)] [(.ref b14)])) rfl (by rw [hml]; rfl) (lenOf own_pd2 rfl) rfl (by show 2 * 0 + _ ≤ _; exact Nat.le_of_eq rfl) (hb hby at_149)
                  obtain ⟨rfl, e26, rfl⟩ := hQ26
                  have X26 : Stand p l e room_1 s m #[(.int p1), (.int p2), (.int p3)] below meth c T26 lc22 1 6 := by have := X26; rwa [List.append_nil] at this
                  refine own_st (T' := T26) (g' := (mkF m 152 #[.val (.int p1), .val (.int p2), .val (.int p3), .val (.int v3), .val (.int v6), .val (.int v9), .val (.int v12), .val (.ref b14), .val (.int v25)] [(.int r26)])) st26 ?_
                  refine own_st (T' := T26) (g' := (mkF m 154 #[.val (.int p1), .val (.int p2), .val (.int p3), .val (.int v3), .val (.int v6), .val (.int v9), .val (.int v12), .val (.ref b14), .val (.int v25)] [(.int v25), (.int r26)])) (fun t k => XS.iload X26.here hx rfl (hb hby at_152) rfl k) ?_
                  have hk27 : r26 = v25 := by rw [hr26, hv25, if_pos hc90_18]; rfl
                  refine own_st (T' := T26) (g' := (mkF m 157 #[.val (.int p1), .val (.int p2), .val (.int p3), .val (.int v3), .val (.int v6), .val (.int v9), .val (.int v12), .val (.ref b14), .val (.int v25)] [])) (fun t k => XS.icmpNo X26.here hx rfl (hb hby at_154) rfl (teq hk27).2 k) ?_
                  refine own_st (T' := T26) (g' := (mkF m 158 #[.val (.int p1), .val (.int p2), .val (.int p3), .val (.int v3), .val (.int v6), .val (.int v9), .val (.int v12), .val (.ref b14), .val (.int v25)] [(.int (1 : Int32))])) (fun t k => XS.iconst X26.here hx rfl (hb hby at_157) k) ?_
                  refine own_st (T' := T26) (g' := (mkF m 162 #[.val (.int p1), .val (.int p2), .val (.int p3), .val (.int v3), .val (.int v6), .val (.int v9), .val (.int v12), .val (.ref b14), .val (.int v25)] [(.int (1 : Int32))])) (fun t k => XS.goto X26.here hx rfl (pc0 := 158) (pc' := 162) rfl (hb hby at_158) (by decide) (by decide) k) ?_
                  exact own_retB X26 hx hlk hret (hb hby at_162) (by decide) (by decide) rfl ⟨rfl, N22⟩
                by_cases hc132_23 : v6 = (0 : Int32)
                ·
                  refine own_st (T' := T22) (g' := (mkF m 144 #[.val (.int p1), .val (.int p2), .val (.int p3), .val (.int v3), .val (.int v6), .val (.int v9), .val (.int v12), .val (.ref b14), .unset] [])) (fun t k => XS.ifYes X22.here hx rfl (pc0 := 132) (pc' := 144) rfl (hb hby at_132) rfl ((if0 _ _).trans (teq hc132_23).1) (by decide) (by decide) k) ?_
                  refine own_st (T' := T22) (g' := (mkF m 145 #[.val (.int p1), .val (.int p2), .val (.int p3), .val (.int v3), .val (.int v6), .val (.int v9), .val (.int v12), .val (.ref b14), .unset] [(.int (0 : Int32))])) (fun t k => XS.iconst X22.here hx rfl (hb hby at_144) k) ?_
                  exact K24 _ (if_pos hc132_23).symm
                ·
                  refine own_st (T' := T22) (g' := (mkF m 135 #[.val (.int p1), .val (.int p2), .val (.int p3), .val (.int v3), .val (.int v6), .val (.int v9), .val (.int v12), .val (.ref b14), .unset] [])) (fun t k => XS.ifNo X22.here hx rfl (hb hby at_132) rfl ((if0 _ _).trans (feq hc132_23).1) k) ?_
                  refine own_st (T' := T22) (g' := (mkF m 136 #[.val (.int p1), .val (.int p2), .val (.int p3), .val (.int v3), .val (.int v6), .val (.int v9), .val (.int v12), .val (.ref b14), .unset] [(.int p1)])) (fun t k => XS.iloadN X22.here hx rfl (hb hby at_135) rfl k) ?_
                  refine own_st (T' := T22) (g' := (mkF m 137 #[.val (.int p1), .val (.int p2), .val (.int p3), .val (.int v3), .val (.int v6), .val (.int v9), .val (.int v12), .val (.ref b14), .unset] [(.int (1 : Int32)), (.int p1)])) (fun t k => XS.iconst X22.here hx rfl (hb hby at_136) k) ?_
                  by_cases hc137_28 : p1 < (1 : Int32)
                  ·
                    refine own_st (T' := T22) (g' := (mkF m 144 #[.val (.int p1), .val (.int p2), .val (.int p3), .val (.int v3), .val (.int v6), .val (.int v9), .val (.int v12), .val (.ref b14), .unset] [])) (fun t k => XS.icmpYes X22.here hx rfl (pc0 := 137) (pc' := 144) rfl (hb hby at_137) rfl (tlt hc137_28).1 (by decide) (by decide) k) ?_
                    refine own_st (T' := T22) (g' := (mkF m 145 #[.val (.int p1), .val (.int p2), .val (.int p3), .val (.int v3), .val (.int v6), .val (.int v9), .val (.int v12), .val (.ref b14), .unset] [(.int (0 : Int32))])) (fun t k => XS.iconst X22.here hx rfl (hb hby at_144) k) ?_
                    exact K24 _ ((if_neg hc132_23).trans (if_pos hc137_28)).symm
                  ·
                    refine own_st (T' := T22) (g' := (mkF m 140 #[.val (.int p1), .val (.int p2), .val (.int p3), .val (.int v3), .val (.int v6), .val (.int v9), .val (.int v12), .val (.ref b14), .unset] [])) (fun t k => XS.icmpNo X22.here hx rfl (hb hby at_137) rfl (flt hc137_28).1 k) ?_
                    refine own_st (T' := T22) (g' := (mkF m 141 #[.val (.int p1), .val (.int p2), .val (.int p3), .val (.int v3), .val (.int v6), .val (.int v9), .val (.int v12), .val (.ref b14), .unset] [(.int (1 : Int32))])) (fun t k => XS.iconst X22.here hx rfl (hb hby at_140) k) ?_
                    refine own_st (T' := T22) (g' := (mkF m 145 #[.val (.int p1), .val (.int p2), .val (.int p3), .val (.int v3), .val (.int v6), .val (.int v9), .val (.int v12), .val (.ref b14), .unset] [(.int (1 : Int32))])) (fun t k => XS.goto X22.here hx rfl (pc0 := 141) (pc' := 145) rfl (hb hby at_141) (by decide) (by decide) k) ?_
                    exact K24 _ ((if_neg hc132_23).trans (if_neg hc137_28)).symm
              ·
                refine own_st (T' := T20) (g' := (mkF m 119 #[.val (.int p1), .val (.int p2), .val (.int p3), .val (.int v3), .val (.int v6), .val (.int v9), .val (.int v12), .val (.ref b14), .unset] [(.ref b14)])) (fun t k => XS.ifNo X20.here hx rfl (hb hby at_116) rfl ((if0 _ _).trans (feq hc116_21).1) k) ?_
                refine own_st (T' := T20) (g' := (mkF m 120 #[.val (.int p1), .val (.int p2), .val (.int p3), .val (.int v3), .val (.int v6), .val (.int v9), .val (.int v12), .val (.ref b14), .unset] [(.int p2), (.ref b14)])) (fun t k => XS.iloadN X20.here hx rfl (hb hby at_119) rfl k) ?_
                obtain ⟨_, T29, L29, hQ29, X29, st29⟩ := own_callS (y := (⟨"java/lang/Integer", "valueOf", "(I)Ljava/lang/Integer;"⟩ : MethodName)) (argsL := [(.int p2)]) 1 [(.ref b14)] (own_rm4 l Z a0 hw h20 n0 Z20 p2 O s_cache cc S_high S_cache B_cache) X20 hx hZ hown (hw _ (List.mem_of_getElem? (i := 22) rfl)) (hw _ (List.mem_of_getElem? (i := 23) rfl)) (hw _ (List.mem_of_getElem? (i := 24) rfl)) (hw _ (List.mem_of_getElem? (i := 25) rfl)) (by decide) (by decide) (by decide) (by decide) (by decide) e20 (g := (mkF m 120 #[.val (.int p1), .val (.int p2), .val (.int p3), .val (.int v3), .val (.int v6), .val (.int v9), .val (.int v12), .val (.ref b14), .unset] [(.int p2), (.ref b14)])) rfl (by rw [hml]; rfl) (lenOf own_pd3 rfl) rfl (by show 2 * 0 + _ ≤ _; exact Nat.le_of_eq rfl) (hb hby at_120)
                obtain ⟨o29, rfl, N29q, Eq29, E_o29⟩ := hQ29
                have Z29 : n0 ≤ T29.heap.size := Nat.le_trans Z20 Eq29.1
                have O := O.ext Eq29
                have E_b14 := E_b14.ext Eq29
                have F_entered_b14 := F_entered_b14.ext Eq29
                have F_mark_b14 := F_mark_b14.ext Eq29
                have F_failed_b14 := F_failed_b14.ext Eq29
                have F_handed_b14 := F_handed_b14.ext Eq29
                have N29 := Fr.app N20 N29q
                generalize hlc29 : (lc20 ++ L29 : List Loc) = lc29 at X29 N29
                have X29 : Stand p l e room_1 s m #[(.int p1), (.int p2), (.int p3)] below meth c T29 lc29 2 7 := X29
                refine own_st (T' := T29) (g' := (mkF m 123 #[.val (.int p1), .val (.int p2), .val (.int p3), .val (.int v3), .val (.int v6), .val (.int v9), .val (.int v12), .val (.ref b14), .unset] [(.ref o29), (.ref b14)])) st29 ?_
                refine own_st (T' := T29) (g' := (mkF m 127 #[.val (.int p1), .val (.int p2), .val (.int p3), .val (.int v3), .val (.int v6), .val (.int v9), .val (.int v12), .val (.ref b14), .unset] [(.ref o29), (.ref b14)])) (fun t k => XS.goto X29.here hx rfl (pc0 := 123) (pc' := 127) rfl (hb hby at_123) (by decide) (by decide) k) ?_
                obtain ⟨T30, h30, X30, e30, W30, st30⟩ := putF X29 hx hZ hown (host := "") (Or.inl (hw _ (List.mem_of_getElem? (i := 20) rfl))) Via.refl rfl F_handed_b14 E_b14 (Or.inl (hw _ (List.mem_of_getElem? (i := 21) rfl))) (hw _ (List.mem_of_getElem? (i := 1) rfl)) (ty := (.object "java/lang/Object")) (by decide) rfl rfl (g := (mkF m 127 #[.val (.int p1), .val (.int p2), .val (.int p3), .val (.int v3), .val (.int v6), .val (.int v9), .val (.int v12), .val (.ref b14), .unset] [(.ref o29), (.ref b14)])) rfl rfl (hb hby at_127)
                have O := O.wr W30 g_b14
                have E_b14 := E_b14.wr W30
                have F_entered_b14 := F_entered_b14.other W30 (Or.inr (slot_ne (Or.inl (hw _ (List.mem_of_getElem? (i := 14) rfl))) (Or.inl (hw _ (List.mem_of_getElem? (i := 21) rfl))) (by decide) (t := .int) (t' := (.object "java/lang/Object")) (by decide) (by decide)))
                have F_mark_b14 := F_mark_b14.other W30 (Or.inr (slot_ne (Or.inl (hw _ (List.mem_of_getElem? (i := 17) rfl))) (Or.inl (hw _ (List.mem_of_getElem? (i := 21) rfl))) (by decide) (t := .int) (t' := (.object "java/lang/Object")) (by decide) (by decide)))
                have F_failed_b14 := F_failed_b14.other W30 (Or.inr (slot_ne (Or.inl (hw _ (List.mem_of_getElem? (i := 19) rfl))) (Or.inl (hw _ (List.mem_of_getElem? (i := 21) rfl))) (by decide) (t := .boolean) (t' := (.object "java/lang/Object")) (by decide) (by decide)))
                have F_handed_b14 := F_handed_b14.same W30
                have E_o29 := E_o29.wr W30
                have N30 := Fr.snoc X30 N29 g_b14
                generalize hlc30 : (lc29 ++ [(⟨b14, Jvm.RoadKit.slotOf Z "com/example/mizan/mizan/Walk$Frame" "handed" "Ljava/lang/Object;"⟩ : Loc)] : List Loc) = lc30 at X30 N30
                have Z30 : n0 ≤ h30.size := Nat.le_trans Z29 (Keep.of_wr W30).1
                refine own_st (T' := T30) (g' := (mkF m 130 #[.val (.int p1), .val (.int p2), .val (.int p3), .val (.int v3), .val (.int v6), .val (.int v9), .val (.int v12), .val (.ref b14), .unset] [])) st30 ?_
                refine own_st (T' := T30) (g' := (mkF m 132 #[.val (.int p1), .val (.int p2), .val (.int p3), .val (.int v3), .val (.int v6), .val (.int v9), .val (.int v12), .val (.ref b14), .unset] [(.int v6)])) (fun t k => XS.iload X30.here hx rfl (hb hby at_130) rfl k) ?_
                have K32 : ∀ (v33 : Int32) (hv33 : v33 = (if v6 = (0 : Int32) then (0 : Int32) else (if p1 < (1 : Int32) then (0 : Int32) else (1 : Int32)))), own_G p e below (own_F (own_qr (.int 1) n0) s room_1.cells room_1.slots) T30 (mkF m 145 #[.val (.int p1), .val (.int p2), .val (.int p3), .val (.int v3), .val (.int v6), .val (.int v9), .val (.int v12), .val (.ref b14), .unset] [(.int v33)]) := by
                  intro v33 hv33
                  refine own_st (T' := T30) (g' := (mkF m 147 #[.val (.int p1), .val (.int p2), .val (.int p3), .val (.int v3), .val (.int v6), .val (.int v9), .val (.int v12), .val (.ref b14), .val (.int v33)] [])) (fun t k => XS.istore X30.here hx rfl (hb hby at_145) rfl (l' := #[.val (.int p1), .val (.int p2), .val (.int p3), .val (.int v3), .val (.int v6), .val (.int v9), .val (.int v12), .val (.ref b14), .val (.int v33)]) rfl k) ?_
                  refine own_st (T' := T30) (g' := (mkF m 149 #[.val (.int p1), .val (.int p2), .val (.int p3), .val (.int v3), .val (.int v6), .val (.int v9), .val (.int v12), .val (.ref b14), .val (.int v33)] [(.ref b14)])) (fun t k => XS.aload X30.here hx rfl (hb hby at_147) rfl rfl k) ?_
                  obtain ⟨r34, hr34⟩ : ∃ q, q = own_res (0 : Int32) := ⟨_, rfl⟩
                  obtain ⟨_, T34, L34, hQ34, X34, st34⟩ := own_callS (y := (⟨"com/example/mizan/mizan/Composite", "resumes", "(Lcom/example/mizan/mizan/Walk$Frame;)Z"⟩ : MethodName)) (argsL := [(.ref b14)]) 0 [] (own_rm3 l Z a0 hw h30 n0 Z30 b14 (0 : Int32) F_entered_b14 _ hr34) X30 hx hZ hown (hw _ (List.mem_of_getElem? (i := 9) rfl)) (hw _ (List.mem_of_getElem? (i := 10) rfl)) (hw _ (List.mem_of_getElem? (i := 11) rfl)) (hw _ (List.mem_of_getElem? (i := 12) rfl)) (by decide) (by decide) (by decide) (by decide) (by decide) e30 (g := (mkF m 149 #[.val (.int p1), .val (.int p2), .val (.int p3), .val (.int v3), .val (.int v6), .val (.int v9), .val (.int v12), .val (.ref b14), .val (.int v33)] [(.ref b14)])) rfl (by rw [hml]; rfl) (lenOf own_pd2 rfl) rfl (by show 2 * 0 + _ ≤ _; exact Nat.le_of_eq rfl) (hb hby at_149)
                  obtain ⟨rfl, e34, rfl⟩ := hQ34
                  have X34 : Stand p l e room_1 s m #[(.int p1), (.int p2), (.int p3)] below meth c T34 lc30 2 7 := by have := X34; rwa [List.append_nil] at this
                  refine own_st (T' := T34) (g' := (mkF m 152 #[.val (.int p1), .val (.int p2), .val (.int p3), .val (.int v3), .val (.int v6), .val (.int v9), .val (.int v12), .val (.ref b14), .val (.int v33)] [(.int r34)])) st34 ?_
                  refine own_st (T' := T34) (g' := (mkF m 154 #[.val (.int p1), .val (.int p2), .val (.int p3), .val (.int v3), .val (.int v6), .val (.int v9), .val (.int v12), .val (.ref b14), .val (.int v33)] [(.int v33), (.int r34)])) (fun t k => XS.iload X34.here hx rfl (hb hby at_152) rfl k) ?_
                  have hk35 : r34 = v33 := by rw [hr34, hv33, if_pos hc90_18]; rfl
                  refine own_st (T' := T34) (g' := (mkF m 157 #[.val (.int p1), .val (.int p2), .val (.int p3), .val (.int v3), .val (.int v6), .val (.int v9), .val (.int v12), .val (.ref b14), .val (.int v33)] [])) (fun t k => XS.icmpNo X34.here hx rfl (hb hby at_154) rfl (teq hk35).2 k) ?_
                  refine own_st (T' := T34) (g' := (mkF m 158 #[.val (.int p1), .val (.int p2), .val (.int p3), .val (.int v3), .val (.int v6), .val (.int v9), .val (.int v12), .val (.ref b14), .val (.int v33)] [(.int (1 : Int32))])) (fun t k => XS.iconst X34.here hx rfl (hb hby at_157) k) ?_
                  refine own_st (T' := T34) (g' := (mkF m 162 #[.val (.int p1), .val (.int p2), .val (.int p3), .val (.int v3), .val (.int v6), .val (.int v9), .val (.int v12), .val (.ref b14), .val (.int v33)] [(.int (1 : Int32))])) (fun t k => XS.goto X34.here hx rfl (pc0 := 158) (pc' := 162) rfl (hb hby at_158) (by decide) (by decide) k) ?_
                  exact own_retB X34 hx hlk hret (hb hby at_162) (by decide) (by decide) rfl ⟨rfl, N30⟩
                by_cases hc132_31 : v6 = (0 : Int32)
                ·
                  refine own_st (T' := T30) (g' := (mkF m 144 #[.val (.int p1), .val (.int p2), .val (.int p3), .val (.int v3), .val (.int v6), .val (.int v9), .val (.int v12), .val (.ref b14), .unset] [])) (fun t k => XS.ifYes X30.here hx rfl (pc0 := 132) (pc' := 144) rfl (hb hby at_132) rfl ((if0 _ _).trans (teq hc132_31).1) (by decide) (by decide) k) ?_
                  refine own_st (T' := T30) (g' := (mkF m 145 #[.val (.int p1), .val (.int p2), .val (.int p3), .val (.int v3), .val (.int v6), .val (.int v9), .val (.int v12), .val (.ref b14), .unset] [(.int (0 : Int32))])) (fun t k => XS.iconst X30.here hx rfl (hb hby at_144) k) ?_
                  exact K32 _ (if_pos hc132_31).symm
                ·
                  refine own_st (T' := T30) (g' := (mkF m 135 #[.val (.int p1), .val (.int p2), .val (.int p3), .val (.int v3), .val (.int v6), .val (.int v9), .val (.int v12), .val (.ref b14), .unset] [])) (fun t k => XS.ifNo X30.here hx rfl (hb hby at_132) rfl ((if0 _ _).trans (feq hc132_31).1) k) ?_
                  refine own_st (T' := T30) (g' := (mkF m 136 #[.val (.int p1), .val (.int p2), .val (.int p3), .val (.int v3), .val (.int v6), .val (.int v9), .val (.int v12), .val (.ref b14), .unset] [(.int p1)])) (fun t k => XS.iloadN X30.here hx rfl (hb hby at_135) rfl k) ?_
                  refine own_st (T' := T30) (g' := (mkF m 137 #[.val (.int p1), .val (.int p2), .val (.int p3), .val (.int v3), .val (.int v6), .val (.int v9), .val (.int v12), .val (.ref b14), .unset] [(.int (1 : Int32)), (.int p1)])) (fun t k => XS.iconst X30.here hx rfl (hb hby at_136) k) ?_
                  by_cases hc137_36 : p1 < (1 : Int32)
                  ·
                    refine own_st (T' := T30) (g' := (mkF m 144 #[.val (.int p1), .val (.int p2), .val (.int p3), .val (.int v3), .val (.int v6), .val (.int v9), .val (.int v12), .val (.ref b14), .unset] [])) (fun t k => XS.icmpYes X30.here hx rfl (pc0 := 137) (pc' := 144) rfl (hb hby at_137) rfl (tlt hc137_36).1 (by decide) (by decide) k) ?_
                    refine own_st (T' := T30) (g' := (mkF m 145 #[.val (.int p1), .val (.int p2), .val (.int p3), .val (.int v3), .val (.int v6), .val (.int v9), .val (.int v12), .val (.ref b14), .unset] [(.int (0 : Int32))])) (fun t k => XS.iconst X30.here hx rfl (hb hby at_144) k) ?_
                    exact K32 _ ((if_neg hc132_31).trans (if_pos hc137_36)).symm
                  ·
                    refine own_st (T' := T30) (g' := (mkF m 140 #[.val (.int p1), .val (.int p2), .val (.int p3), .val (.int v3), .val (.int v6), .val (.int v9), .val (.int v12), .val (.ref b14), .unset] [])) (fun t k => XS.icmpNo X30.here hx rfl (hb hby at_137) rfl (flt hc137_36).1 k) ?_
                    refine own_st (T' := T30) (g' := (mkF m 141 #[.val (.int p1), .val (.int p2), .val (.int p3), .val (.int v3), .val (.int v6), .val (.int v9), .val (.int v12), .val (.ref b14), .unset] [(.int (1 : Int32))])) (fun t k => XS.iconst X30.here hx rfl (hb hby at_140) k) ?_
                    refine own_st (T' := T30) (g' := (mkF m 145 #[.val (.int p1), .val (.int p2), .val (.int p3), .val (.int v3), .val (.int v6), .val (.int v9), .val (.int v12), .val (.ref b14), .unset] [(.int (1 : Int32))])) (fun t k => XS.goto X30.here hx rfl (pc0 := 141) (pc' := 145) rfl (hb hby at_141) (by decide) (by decide) k) ?_
                    exact K32 _ ((if_neg hc132_31).trans (if_neg hc137_36)).symm
            ·
              refine own_st (T' := T16) (g' := (mkF m 93 #[.val (.int p1), .val (.int p2), .val (.int p3), .val (.int v3), .val (.int v6), .val (.int v9), .val (.int v12), .val (.ref b14), .unset] [])) (fun t k => XS.ifNo X16.here hx rfl (hb hby at_90) rfl ((if0 _ _).trans (feq hc90_18).1) k) ?_
              refine own_st (T' := T16) (g' := (mkF m 95 #[.val (.int p1), .val (.int p2), .val (.int p3), .val (.int v3), .val (.int v6), .val (.int v9), .val (.int v12), .val (.ref b14), .unset] [(.ref b14)])) (fun t k => XS.aload X16.here hx rfl (hb hby at_93) rfl rfl k) ?_
              refine own_st (T' := T16) (g' := (mkF m 96 #[.val (.int p1), .val (.int p2), .val (.int p3), .val (.int v3), .val (.int v6), .val (.int v9), .val (.int v12), .val (.ref b14), .unset] [(.int p1), (.ref b14)])) (fun t k => XS.iloadN X16.here hx rfl (hb hby at_95) rfl k) ?_
              obtain ⟨T37, h37, X37, e37, W37, st37⟩ := putF X16 hx hZ hown (host := "") (Or.inl (hw _ (List.mem_of_getElem? (i := 15) rfl))) Via.refl e16 F_entered_b14 E_b14 (Or.inl (hw _ (List.mem_of_getElem? (i := 14) rfl))) (hw _ (List.mem_of_getElem? (i := 1) rfl)) (ty := .int) (by decide) rfl rfl (g := (mkF m 96 #[.val (.int p1), .val (.int p2), .val (.int p3), .val (.int v3), .val (.int v6), .val (.int v9), .val (.int v12), .val (.ref b14), .unset] [(.int p1), (.ref b14)])) rfl rfl (hb hby at_96)
              have O := O.wr W37 g_b14
              have E_b14 := E_b14.wr W37
              have F_entered_b14 := F_entered_b14.same W37
              have F_mark_b14 := F_mark_b14.other W37 (Or.inr (slot_ne (Or.inl (hw _ (List.mem_of_getElem? (i := 17) rfl))) (Or.inl (hw _ (List.mem_of_getElem? (i := 14) rfl))) (by decide) (t := .int) (t' := .int) (by decide) (by decide)))
              have F_failed_b14 := F_failed_b14.other W37 (Or.inr (slot_ne (Or.inl (hw _ (List.mem_of_getElem? (i := 19) rfl))) (Or.inl (hw _ (List.mem_of_getElem? (i := 14) rfl))) (by decide) (t := .boolean) (t' := .int) (by decide) (by decide)))
              have F_handed_b14 := F_handed_b14.other W37 (Or.inr (slot_ne (Or.inl (hw _ (List.mem_of_getElem? (i := 21) rfl))) (Or.inl (hw _ (List.mem_of_getElem? (i := 14) rfl))) (by decide) (t := (.object "java/lang/Object")) (t' := .int) (by decide) (by decide)))
              have N37 := Fr.snoc X37 N0 g_b14
              generalize hlc37 : ([] ++ [(⟨b14, Jvm.RoadKit.slotOf Z "com/example/mizan/mizan/Walk$Frame" "entered" "I"⟩ : Loc)] : List Loc) = lc37 at X37 N37
              have Z37 : n0 ≤ h37.size := Nat.le_trans Z14 (Keep.of_wr W37).1
              refine own_st (T' := T37) (g' := (mkF m 99 #[.val (.int p1), .val (.int p2), .val (.int p3), .val (.int v3), .val (.int v6), .val (.int v9), .val (.int v12), .val (.ref b14), .unset] [])) st37 ?_
              refine own_st (T' := T37) (g' := (mkF m 101 #[.val (.int p1), .val (.int p2), .val (.int p3), .val (.int v3), .val (.int v6), .val (.int v9), .val (.int v12), .val (.ref b14), .unset] [(.ref b14)])) (fun t k => XS.aload X37.here hx rfl (hb hby at_99) rfl rfl k) ?_
              refine own_st (T' := T37) (g' := (mkF m 102 #[.val (.int p1), .val (.int p2), .val (.int p3), .val (.int v3), .val (.int v6), .val (.int v9), .val (.int v12), .val (.ref b14), .unset] [(.int p2), (.ref b14)])) (fun t k => XS.iloadN X37.here hx rfl (hb hby at_101) rfl k) ?_
              obtain ⟨T38, h38, X38, e38, W38, st38⟩ := putF X37 hx hZ hown (host := "") (Or.inl (hw _ (List.mem_of_getElem? (i := 16) rfl))) Via.refl e37 F_mark_b14 E_b14 (Or.inl (hw _ (List.mem_of_getElem? (i := 17) rfl))) (hw _ (List.mem_of_getElem? (i := 1) rfl)) (ty := .int) (by decide) rfl rfl (g := (mkF m 102 #[.val (.int p1), .val (.int p2), .val (.int p3), .val (.int v3), .val (.int v6), .val (.int v9), .val (.int v12), .val (.ref b14), .unset] [(.int p2), (.ref b14)])) rfl rfl (hb hby at_102)
              have O := O.wr W38 g_b14
              have E_b14 := E_b14.wr W38
              have F_entered_b14 := F_entered_b14.other W38 (Or.inr (slot_ne (Or.inl (hw _ (List.mem_of_getElem? (i := 14) rfl))) (Or.inl (hw _ (List.mem_of_getElem? (i := 17) rfl))) (by decide) (t := .int) (t' := .int) (by decide) (by decide)))
              have F_mark_b14 := F_mark_b14.same W38
              have F_failed_b14 := F_failed_b14.other W38 (Or.inr (slot_ne (Or.inl (hw _ (List.mem_of_getElem? (i := 19) rfl))) (Or.inl (hw _ (List.mem_of_getElem? (i := 17) rfl))) (by decide) (t := .boolean) (t' := .int) (by decide) (by decide)))
              have F_handed_b14 := F_handed_b14.other W38 (Or.inr (slot_ne (Or.inl (hw _ (List.mem_of_getElem? (i := 21) rfl))) (Or.inl (hw _ (List.mem_of_getElem? (i := 17) rfl))) (by decide) (t := (.object "java/lang/Object")) (t' := .int) (by decide) (by decide)))
              have N38 := Fr.snoc X38 N37 g_b14
              generalize hlc38 : (lc37 ++ [(⟨b14, Jvm.RoadKit.slotOf Z "com/example/mizan/mizan/Walk$Frame" "mark" "I"⟩ : Loc)] : List Loc) = lc38 at X38 N38
              have Z38 : n0 ≤ h38.size := Nat.le_trans Z37 (Keep.of_wr W38).1
              refine own_st (T' := T38) (g' := (mkF m 105 #[.val (.int p1), .val (.int p2), .val (.int p3), .val (.int v3), .val (.int v6), .val (.int v9), .val (.int v12), .val (.ref b14), .unset] [])) st38 ?_
              refine own_st (T' := T38) (g' := (mkF m 107 #[.val (.int p1), .val (.int p2), .val (.int p3), .val (.int v3), .val (.int v6), .val (.int v9), .val (.int v12), .val (.ref b14), .unset] [(.ref b14)])) (fun t k => XS.aload X38.here hx rfl (hb hby at_105) rfl rfl k) ?_
              refine own_st (T' := T38) (g' := (mkF m 109 #[.val (.int p1), .val (.int p2), .val (.int p3), .val (.int v3), .val (.int v6), .val (.int v9), .val (.int v12), .val (.ref b14), .unset] [(.int v9), (.ref b14)])) (fun t k => XS.iload X38.here hx rfl (hb hby at_107) rfl k) ?_
              obtain ⟨T39, h39, X39, e39, W39, st39⟩ := putFN X38 hx hZ hown (hw _ (List.mem_of_getElem? (i := 18) rfl)) Via.refl e38 F_failed_b14 E_b14 (Or.inl (hw _ (List.mem_of_getElem? (i := 19) rfl))) (hw _ (List.mem_of_getElem? (i := 1) rfl)) (ty := .boolean) (v' := (.int (nar .boolean v9))) (by decide) rfl (fits_nar_bool _) (g := (mkF m 109 #[.val (.int p1), .val (.int p2), .val (.int p3), .val (.int v3), .val (.int v6), .val (.int v9), .val (.int v12), .val (.ref b14), .unset] [(.int v9), (.ref b14)])) rfl rfl (hb hby at_109)
              have O := O.wr W39 g_b14
              have E_b14 := E_b14.wr W39
              have F_entered_b14 := F_entered_b14.other W39 (Or.inr (slot_ne (Or.inl (hw _ (List.mem_of_getElem? (i := 14) rfl))) (Or.inl (hw _ (List.mem_of_getElem? (i := 19) rfl))) (by decide) (t := .int) (t' := .boolean) (by decide) (by decide)))
              have F_mark_b14 := F_mark_b14.other W39 (Or.inr (slot_ne (Or.inl (hw _ (List.mem_of_getElem? (i := 17) rfl))) (Or.inl (hw _ (List.mem_of_getElem? (i := 19) rfl))) (by decide) (t := .int) (t' := .boolean) (by decide) (by decide)))
              have F_failed_b14 := F_failed_b14.same W39
              have F_handed_b14 := F_handed_b14.other W39 (Or.inr (slot_ne (Or.inl (hw _ (List.mem_of_getElem? (i := 21) rfl))) (Or.inl (hw _ (List.mem_of_getElem? (i := 19) rfl))) (by decide) (t := (.object "java/lang/Object")) (t' := .boolean) (by decide) (by decide)))
              have N39 := Fr.snoc X39 N38 g_b14
              generalize hlc39 : (lc38 ++ [(⟨b14, Jvm.RoadKit.slotOf Z "com/example/mizan/mizan/Walk$Frame" "failed" "Z"⟩ : Loc)] : List Loc) = lc39 at X39 N39
              have Z39 : n0 ≤ h39.size := Nat.le_trans Z38 (Keep.of_wr W39).1
              refine own_st (T' := T39) (g' := (mkF m 112 #[.val (.int p1), .val (.int p2), .val (.int p3), .val (.int v3), .val (.int v6), .val (.int v9), .val (.int v12), .val (.ref b14), .unset] [])) st39 ?_
              refine own_st (T' := T39) (g' := (mkF m 114 #[.val (.int p1), .val (.int p2), .val (.int p3), .val (.int v3), .val (.int v6), .val (.int v9), .val (.int v12), .val (.ref b14), .unset] [(.ref b14)])) (fun t k => XS.aload X39.here hx rfl (hb hby at_112) rfl rfl k) ?_
              refine own_st (T' := T39) (g' := (mkF m 116 #[.val (.int p1), .val (.int p2), .val (.int p3), .val (.int v3), .val (.int v6), .val (.int v9), .val (.int v12), .val (.ref b14), .unset] [(.int v12), (.ref b14)])) (fun t k => XS.iload X39.here hx rfl (hb hby at_114) rfl k) ?_
              by_cases hc116_40 : v12 = (0 : Int32)
              ·
                refine own_st (T' := T39) (g' := (mkF m 126 #[.val (.int p1), .val (.int p2), .val (.int p3), .val (.int v3), .val (.int v6), .val (.int v9), .val (.int v12), .val (.ref b14), .unset] [(.ref b14)])) (fun t k => XS.ifYes X39.here hx rfl (pc0 := 116) (pc' := 126) rfl (hb hby at_116) rfl ((if0 _ _).trans (teq hc116_40).1) (by decide) (by decide) k) ?_
                refine own_st (T' := T39) (g' := (mkF m 127 #[.val (.int p1), .val (.int p2), .val (.int p3), .val (.int v3), .val (.int v6), .val (.int v9), .val (.int v12), .val (.ref b14), .unset] [.null, (.ref b14)])) (fun t k => XS.aconstNull X39.here hx rfl (hb hby at_126) k) ?_
                obtain ⟨T41, h41, X41, e41, W41, st41⟩ := putF X39 hx hZ hown (host := "") (Or.inl (hw _ (List.mem_of_getElem? (i := 20) rfl))) Via.refl e39 F_handed_b14 E_b14 (Or.inl (hw _ (List.mem_of_getElem? (i := 21) rfl))) (hw _ (List.mem_of_getElem? (i := 1) rfl)) (ty := (.object "java/lang/Object")) (by decide) rfl rfl (g := (mkF m 127 #[.val (.int p1), .val (.int p2), .val (.int p3), .val (.int v3), .val (.int v6), .val (.int v9), .val (.int v12), .val (.ref b14), .unset] [.null, (.ref b14)])) rfl rfl (hb hby at_127)
                have O := O.wr W41 g_b14
                have E_b14 := E_b14.wr W41
                have F_entered_b14 := F_entered_b14.other W41 (Or.inr (slot_ne (Or.inl (hw _ (List.mem_of_getElem? (i := 14) rfl))) (Or.inl (hw _ (List.mem_of_getElem? (i := 21) rfl))) (by decide) (t := .int) (t' := (.object "java/lang/Object")) (by decide) (by decide)))
                have F_mark_b14 := F_mark_b14.other W41 (Or.inr (slot_ne (Or.inl (hw _ (List.mem_of_getElem? (i := 17) rfl))) (Or.inl (hw _ (List.mem_of_getElem? (i := 21) rfl))) (by decide) (t := .int) (t' := (.object "java/lang/Object")) (by decide) (by decide)))
                have F_failed_b14 := F_failed_b14.other W41 (Or.inr (slot_ne (Or.inl (hw _ (List.mem_of_getElem? (i := 19) rfl))) (Or.inl (hw _ (List.mem_of_getElem? (i := 21) rfl))) (by decide) (t := .boolean) (t' := (.object "java/lang/Object")) (by decide) (by decide)))
                have F_handed_b14 := F_handed_b14.same W41
                have N41 := Fr.snoc X41 N39 g_b14
                generalize hlc41 : (lc39 ++ [(⟨b14, Jvm.RoadKit.slotOf Z "com/example/mizan/mizan/Walk$Frame" "handed" "Ljava/lang/Object;"⟩ : Loc)] : List Loc) = lc41 at X41 N41
                have Z41 : n0 ≤ h41.size := Nat.le_trans Z39 (Keep.of_wr W41).1
                refine own_st (T' := T41) (g' := (mkF m 130 #[.val (.int p1), .val (.int p2), .val (.int p3), .val (.int v3), .val (.int v6), .val (.int v9), .val (.int v12), .val (.ref b14), .unset] [])) st41 ?_
                refine own_st (T' := T41) (g' := (mkF m 132 #[.val (.int p1), .val (.int p2), .val (.int p3), .val (.int v3), .val (.int v6), .val (.int v9), .val (.int v12), .val (.ref b14), .unset] [(.int v6)])) (fun t k => XS.iload X41.here hx rfl (hb hby at_130) rfl k) ?_
                have K43 : ∀ (v44 : Int32) (hv44 : v44 = (if v6 = (0 : Int32) then (0 : Int32) else (if p1 < (1 : Int32) then (0 : Int32) else (1 : Int32)))), own_G p e below (own_F (own_qr (.int 1) n0) s room_1.cells room_1.slots) T41 (mkF m 145 #[.val (.int p1), .val (.int p2), .val (.int p3), .val (.int v3), .val (.int v6), .val (.int v9), .val (.int v12), .val (.ref b14), .unset] [(.int v44)]) := by
                  intro v44 hv44
                  refine own_st (T' := T41) (g' := (mkF m 147 #[.val (.int p1), .val (.int p2), .val (.int p3), .val (.int v3), .val (.int v6), .val (.int v9), .val (.int v12), .val (.ref b14), .val (.int v44)] [])) (fun t k => XS.istore X41.here hx rfl (hb hby at_145) rfl (l' := #[.val (.int p1), .val (.int p2), .val (.int p3), .val (.int v3), .val (.int v6), .val (.int v9), .val (.int v12), .val (.ref b14), .val (.int v44)]) rfl k) ?_
                  refine own_st (T' := T41) (g' := (mkF m 149 #[.val (.int p1), .val (.int p2), .val (.int p3), .val (.int v3), .val (.int v6), .val (.int v9), .val (.int v12), .val (.ref b14), .val (.int v44)] [(.ref b14)])) (fun t k => XS.aload X41.here hx rfl (hb hby at_147) rfl rfl k) ?_
                  obtain ⟨r45, hr45⟩ : ∃ q, q = own_res p1 := ⟨_, rfl⟩
                  obtain ⟨_, T45, L45, hQ45, X45, st45⟩ := own_callS (y := (⟨"com/example/mizan/mizan/Composite", "resumes", "(Lcom/example/mizan/mizan/Walk$Frame;)Z"⟩ : MethodName)) (argsL := [(.ref b14)]) 0 [] (own_rm3 l Z a0 hw h41 n0 Z41 b14 p1 F_entered_b14 _ hr45) X41 hx hZ hown (hw _ (List.mem_of_getElem? (i := 9) rfl)) (hw _ (List.mem_of_getElem? (i := 10) rfl)) (hw _ (List.mem_of_getElem? (i := 11) rfl)) (hw _ (List.mem_of_getElem? (i := 12) rfl)) (by decide) (by decide) (by decide) (by decide) (by decide) e41 (g := (mkF m 149 #[.val (.int p1), .val (.int p2), .val (.int p3), .val (.int v3), .val (.int v6), .val (.int v9), .val (.int v12), .val (.ref b14), .val (.int v44)] [(.ref b14)])) rfl (by rw [hml]; rfl) (lenOf own_pd2 rfl) rfl (by show 2 * 0 + _ ≤ _; exact Nat.le_of_eq rfl) (hb hby at_149)
                  obtain ⟨rfl, e45, rfl⟩ := hQ45
                  have X45 : Stand p l e room_1 s m #[(.int p1), (.int p2), (.int p3)] below meth c T45 lc41 1 6 := by have := X45; rwa [List.append_nil] at this
                  refine own_st (T' := T45) (g' := (mkF m 152 #[.val (.int p1), .val (.int p2), .val (.int p3), .val (.int v3), .val (.int v6), .val (.int v9), .val (.int v12), .val (.ref b14), .val (.int v44)] [(.int r45)])) st45 ?_
                  refine own_st (T' := T45) (g' := (mkF m 154 #[.val (.int p1), .val (.int p2), .val (.int p3), .val (.int v3), .val (.int v6), .val (.int v9), .val (.int v12), .val (.ref b14), .val (.int v44)] [(.int v44), (.int r45)])) (fun t k => XS.iload X45.here hx rfl (hb hby at_152) rfl k) ?_
                  have hk46 : r45 = v44 := by rw [hr45, hv44, if_neg hc90_18]; exact own_l1 _
                  refine own_st (T' := T45) (g' := (mkF m 157 #[.val (.int p1), .val (.int p2), .val (.int p3), .val (.int v3), .val (.int v6), .val (.int v9), .val (.int v12), .val (.ref b14), .val (.int v44)] [])) (fun t k => XS.icmpNo X45.here hx rfl (hb hby at_154) rfl (teq hk46).2 k) ?_
                  refine own_st (T' := T45) (g' := (mkF m 158 #[.val (.int p1), .val (.int p2), .val (.int p3), .val (.int v3), .val (.int v6), .val (.int v9), .val (.int v12), .val (.ref b14), .val (.int v44)] [(.int (1 : Int32))])) (fun t k => XS.iconst X45.here hx rfl (hb hby at_157) k) ?_
                  refine own_st (T' := T45) (g' := (mkF m 162 #[.val (.int p1), .val (.int p2), .val (.int p3), .val (.int v3), .val (.int v6), .val (.int v9), .val (.int v12), .val (.ref b14), .val (.int v44)] [(.int (1 : Int32))])) (fun t k => XS.goto X45.here hx rfl (pc0 := 158) (pc' := 162) rfl (hb hby at_158) (by decide) (by decide) k) ?_
                  exact own_retB X45 hx hlk hret (hb hby at_162) (by decide) (by decide) rfl ⟨rfl, N41⟩
                by_cases hc132_42 : v6 = (0 : Int32)
                ·
                  refine own_st (T' := T41) (g' := (mkF m 144 #[.val (.int p1), .val (.int p2), .val (.int p3), .val (.int v3), .val (.int v6), .val (.int v9), .val (.int v12), .val (.ref b14), .unset] [])) (fun t k => XS.ifYes X41.here hx rfl (pc0 := 132) (pc' := 144) rfl (hb hby at_132) rfl ((if0 _ _).trans (teq hc132_42).1) (by decide) (by decide) k) ?_
                  refine own_st (T' := T41) (g' := (mkF m 145 #[.val (.int p1), .val (.int p2), .val (.int p3), .val (.int v3), .val (.int v6), .val (.int v9), .val (.int v12), .val (.ref b14), .unset] [(.int (0 : Int32))])) (fun t k => XS.iconst X41.here hx rfl (hb hby at_144) k) ?_
                  exact K43 _ (if_pos hc132_42).symm
                ·
                  refine own_st (T' := T41) (g' := (mkF m 135 #[.val (.int p1), .val (.int p2), .val (.int p3), .val (.int v3), .val (.int v6), .val (.int v9), .val (.int v12), .val (.ref b14), .unset] [])) (fun t k => XS.ifNo X41.here hx rfl (hb hby at_132) rfl ((if0 _ _).trans (feq hc132_42).1) k) ?_
                  refine own_st (T' := T41) (g' := (mkF m 136 #[.val (.int p1), .val (.int p2), .val (.int p3), .val (.int v3), .val (.int v6), .val (.int v9), .val (.int v12), .val (.ref b14), .unset] [(.int p1)])) (fun t k => XS.iloadN X41.here hx rfl (hb hby at_135) rfl k) ?_
                  refine own_st (T' := T41) (g' := (mkF m 137 #[.val (.int p1), .val (.int p2), .val (.int p3), .val (.int v3), .val (.int v6), .val (.int v9), .val (.int v12), .val (.ref b14), .unset] [(.int (1 : Int32)), (.int p1)])) (fun t k => XS.iconst X41.here hx rfl (hb hby at_136) k) ?_
                  by_cases hc137_47 : p1 < (1 : Int32)
                  ·
                    refine own_st (T' := T41) (g' := (mkF m 144 #[.val (.int p1), .val (.int p2), .val (.int p3), .val (.int v3), .val (.int v6), .val (.int v9), .val (.int v12), .val (.ref b14), .unset] [])) (fun t k => XS.icmpYes X41.here hx rfl (pc0 := 137) (pc' := 144) rfl (hb hby at_137) rfl (tlt hc137_47).1 (by decide) (by decide) k) ?_
                    refine own_st (T' := T41) (g' := (mkF m 145 #[.val (.int p1), .val (.int p2), .val (.int p3), .val (.int v3), .val (.int v6), .val (.int v9), .val (.int v12), .val (.ref b14), .unset] [(.int (0 : Int32))])) (fun t k => XS.iconst X41.here hx rfl (hb hby at_144) k) ?_
                    exact K43 _ ((if_neg hc132_42).trans (if_pos hc137_47)).symm
                  ·
                    refine own_st (T' := T41) (g' := (mkF m 140 #[.val (.int p1), .val (.int p2), .val (.int p3), .val (.int v3), .val (.int v6), .val (.int v9), .val (.int v12), .val (.ref b14), .unset] [])) (fun t k => XS.icmpNo X41.here hx rfl (hb hby at_137) rfl (flt hc137_47).1 k) ?_
                    refine own_st (T' := T41) (g' := (mkF m 141 #[.val (.int p1), .val (.int p2), .val (.int p3), .val (.int v3), .val (.int v6), .val (.int v9), .val (.int v12), .val (.ref b14), .unset] [(.int (1 : Int32))])) (fun t k => XS.iconst X41.here hx rfl (hb hby at_140) k) ?_
                    refine own_st (T' := T41) (g' := (mkF m 145 #[.val (.int p1), .val (.int p2), .val (.int p3), .val (.int v3), .val (.int v6), .val (.int v9), .val (.int v12), .val (.ref b14), .unset] [(.int (1 : Int32))])) (fun t k => XS.goto X41.here hx rfl (pc0 := 141) (pc' := 145) rfl (hb hby at_141) (by decide) (by decide) k) ?_
                    exact K43 _ ((if_neg hc132_42).trans (if_neg hc137_47)).symm
              ·
                refine own_st (T' := T39) (g' := (mkF m 119 #[.val (.int p1), .val (.int p2), .val (.int p3), .val (.int v3), .val (.int v6), .val (.int v9), .val (.int v12), .val (.ref b14), .unset] [(.ref b14)])) (fun t k => XS.ifNo X39.here hx rfl (hb hby at_116) rfl ((if0 _ _).trans (feq hc116_40).1) k) ?_
                refine own_st (T' := T39) (g' := (mkF m 120 #[.val (.int p1), .val (.int p2), .val (.int p3), .val (.int v3), .val (.int v6), .val (.int v9), .val (.int v12), .val (.ref b14), .unset] [(.int p2), (.ref b14)])) (fun t k => XS.iloadN X39.here hx rfl (hb hby at_119) rfl k) ?_
                obtain ⟨_, T48, L48, hQ48, X48, st48⟩ := own_callS (y := (⟨"java/lang/Integer", "valueOf", "(I)Ljava/lang/Integer;"⟩ : MethodName)) (argsL := [(.int p2)]) 1 [(.ref b14)] (own_rm4 l Z a0 hw h39 n0 Z39 p2 O s_cache cc S_high S_cache B_cache) X39 hx hZ hown (hw _ (List.mem_of_getElem? (i := 22) rfl)) (hw _ (List.mem_of_getElem? (i := 23) rfl)) (hw _ (List.mem_of_getElem? (i := 24) rfl)) (hw _ (List.mem_of_getElem? (i := 25) rfl)) (by decide) (by decide) (by decide) (by decide) (by decide) e39 (g := (mkF m 120 #[.val (.int p1), .val (.int p2), .val (.int p3), .val (.int v3), .val (.int v6), .val (.int v9), .val (.int v12), .val (.ref b14), .unset] [(.int p2), (.ref b14)])) rfl (by rw [hml]; rfl) (lenOf own_pd3 rfl) rfl (by show 2 * 0 + _ ≤ _; exact Nat.le_of_eq rfl) (hb hby at_120)
                obtain ⟨o48, rfl, N48q, Eq48, E_o48⟩ := hQ48
                have Z48 : n0 ≤ T48.heap.size := Nat.le_trans Z39 Eq48.1
                have O := O.ext Eq48
                have E_b14 := E_b14.ext Eq48
                have F_entered_b14 := F_entered_b14.ext Eq48
                have F_mark_b14 := F_mark_b14.ext Eq48
                have F_failed_b14 := F_failed_b14.ext Eq48
                have F_handed_b14 := F_handed_b14.ext Eq48
                have N48 := Fr.app N39 N48q
                generalize hlc48 : (lc39 ++ L48 : List Loc) = lc48 at X48 N48
                have X48 : Stand p l e room_1 s m #[(.int p1), (.int p2), (.int p3)] below meth c T48 lc48 2 7 := X48
                refine own_st (T' := T48) (g' := (mkF m 123 #[.val (.int p1), .val (.int p2), .val (.int p3), .val (.int v3), .val (.int v6), .val (.int v9), .val (.int v12), .val (.ref b14), .unset] [(.ref o48), (.ref b14)])) st48 ?_
                refine own_st (T' := T48) (g' := (mkF m 127 #[.val (.int p1), .val (.int p2), .val (.int p3), .val (.int v3), .val (.int v6), .val (.int v9), .val (.int v12), .val (.ref b14), .unset] [(.ref o48), (.ref b14)])) (fun t k => XS.goto X48.here hx rfl (pc0 := 123) (pc' := 127) rfl (hb hby at_123) (by decide) (by decide) k) ?_
                obtain ⟨T49, h49, X49, e49, W49, st49⟩ := putF X48 hx hZ hown (host := "") (Or.inl (hw _ (List.mem_of_getElem? (i := 20) rfl))) Via.refl rfl F_handed_b14 E_b14 (Or.inl (hw _ (List.mem_of_getElem? (i := 21) rfl))) (hw _ (List.mem_of_getElem? (i := 1) rfl)) (ty := (.object "java/lang/Object")) (by decide) rfl rfl (g := (mkF m 127 #[.val (.int p1), .val (.int p2), .val (.int p3), .val (.int v3), .val (.int v6), .val (.int v9), .val (.int v12), .val (.ref b14), .unset] [(.ref o48), (.ref b14)])) rfl rfl (hb hby at_127)
                have O := O.wr W49 g_b14
                have E_b14 := E_b14.wr W49
                have F_entered_b14 := F_entered_b14.other W49 (Or.inr (slot_ne (Or.inl (hw _ (List.mem_of_getElem? (i := 14) rfl))) (Or.inl (hw _ (List.mem_of_getElem? (i := 21) rfl))) (by decide) (t := .int) (t' := (.object "java/lang/Object")) (by decide) (by decide)))
                have F_mark_b14 := F_mark_b14.other W49 (Or.inr (slot_ne (Or.inl (hw _ (List.mem_of_getElem? (i := 17) rfl))) (Or.inl (hw _ (List.mem_of_getElem? (i := 21) rfl))) (by decide) (t := .int) (t' := (.object "java/lang/Object")) (by decide) (by decide)))
                have F_failed_b14 := F_failed_b14.other W49 (Or.inr (slot_ne (Or.inl (hw _ (List.mem_of_getElem? (i := 19) rfl))) (Or.inl (hw _ (List.mem_of_getElem? (i := 21) rfl))) (by decide) (t := .boolean) (t' := (.object "java/lang/Object")) (by decide) (by decide)))
                have F_handed_b14 := F_handed_b14.same W49
                have E_o48 := E_o48.wr W49
                have N49 := Fr.snoc X49 N48 g_b14
                generalize hlc49 : (lc48 ++ [(⟨b14, Jvm.RoadKit.slotOf Z "com/example/mizan/mizan/Walk$Frame" "handed" "Ljava/lang/Object;"⟩ : Loc)] : List Loc) = lc49 at X49 N49
                have Z49 : n0 ≤ h49.size := Nat.le_trans Z48 (Keep.of_wr W49).1
                refine own_st (T' := T49) (g' := (mkF m 130 #[.val (.int p1), .val (.int p2), .val (.int p3), .val (.int v3), .val (.int v6), .val (.int v9), .val (.int v12), .val (.ref b14), .unset] [])) st49 ?_
                refine own_st (T' := T49) (g' := (mkF m 132 #[.val (.int p1), .val (.int p2), .val (.int p3), .val (.int v3), .val (.int v6), .val (.int v9), .val (.int v12), .val (.ref b14), .unset] [(.int v6)])) (fun t k => XS.iload X49.here hx rfl (hb hby at_130) rfl k) ?_
                have K51 : ∀ (v52 : Int32) (hv52 : v52 = (if v6 = (0 : Int32) then (0 : Int32) else (if p1 < (1 : Int32) then (0 : Int32) else (1 : Int32)))), own_G p e below (own_F (own_qr (.int 1) n0) s room_1.cells room_1.slots) T49 (mkF m 145 #[.val (.int p1), .val (.int p2), .val (.int p3), .val (.int v3), .val (.int v6), .val (.int v9), .val (.int v12), .val (.ref b14), .unset] [(.int v52)]) := by
                  intro v52 hv52
                  refine own_st (T' := T49) (g' := (mkF m 147 #[.val (.int p1), .val (.int p2), .val (.int p3), .val (.int v3), .val (.int v6), .val (.int v9), .val (.int v12), .val (.ref b14), .val (.int v52)] [])) (fun t k => XS.istore X49.here hx rfl (hb hby at_145) rfl (l' := #[.val (.int p1), .val (.int p2), .val (.int p3), .val (.int v3), .val (.int v6), .val (.int v9), .val (.int v12), .val (.ref b14), .val (.int v52)]) rfl k) ?_
                  refine own_st (T' := T49) (g' := (mkF m 149 #[.val (.int p1), .val (.int p2), .val (.int p3), .val (.int v3), .val (.int v6), .val (.int v9), .val (.int v12), .val (.ref b14), .val (.int v52)] [(.ref b14)])) (fun t k => XS.aload X49.here hx rfl (hb hby at_147) rfl rfl k) ?_
                  obtain ⟨r53, hr53⟩ : ∃ q, q = own_res p1 := ⟨_, rfl⟩
                  obtain ⟨_, T53, L53, hQ53, X53, st53⟩ := own_callS (y := (⟨"com/example/mizan/mizan/Composite", "resumes", "(Lcom/example/mizan/mizan/Walk$Frame;)Z"⟩ : MethodName)) (argsL := [(.ref b14)]) 0 [] (own_rm3 l Z a0 hw h49 n0 Z49 b14 p1 F_entered_b14 _ hr53) X49 hx hZ hown (hw _ (List.mem_of_getElem? (i := 9) rfl)) (hw _ (List.mem_of_getElem? (i := 10) rfl)) (hw _ (List.mem_of_getElem? (i := 11) rfl)) (hw _ (List.mem_of_getElem? (i := 12) rfl)) (by decide) (by decide) (by decide) (by decide) (by decide) e49 (g := (mkF m 149 #[.val (.int p1), .val (.int p2), .val (.int p3), .val (.int v3), .val (.int v6), .val (.int v9), .val (.int v12), .val (.ref b14), .val (.int v52)] [(.ref b14)])) rfl (by rw [hml]; rfl) (lenOf own_pd2 rfl) rfl (by show 2 * 0 + _ ≤ _; exact Nat.le_of_eq rfl) (hb hby at_149)
                  obtain ⟨rfl, e53, rfl⟩ := hQ53
                  have X53 : Stand p l e room_1 s m #[(.int p1), (.int p2), (.int p3)] below meth c T53 lc49 2 7 := by have := X53; rwa [List.append_nil] at this
                  refine own_st (T' := T53) (g' := (mkF m 152 #[.val (.int p1), .val (.int p2), .val (.int p3), .val (.int v3), .val (.int v6), .val (.int v9), .val (.int v12), .val (.ref b14), .val (.int v52)] [(.int r53)])) st53 ?_
                  refine own_st (T' := T53) (g' := (mkF m 154 #[.val (.int p1), .val (.int p2), .val (.int p3), .val (.int v3), .val (.int v6), .val (.int v9), .val (.int v12), .val (.ref b14), .val (.int v52)] [(.int v52), (.int r53)])) (fun t k => XS.iload X53.here hx rfl (hb hby at_152) rfl k) ?_
                  have hk54 : r53 = v52 := by rw [hr53, hv52, if_neg hc90_18]; exact own_l1 _
                  refine own_st (T' := T53) (g' := (mkF m 157 #[.val (.int p1), .val (.int p2), .val (.int p3), .val (.int v3), .val (.int v6), .val (.int v9), .val (.int v12), .val (.ref b14), .val (.int v52)] [])) (fun t k => XS.icmpNo X53.here hx rfl (hb hby at_154) rfl (teq hk54).2 k) ?_
                  refine own_st (T' := T53) (g' := (mkF m 158 #[.val (.int p1), .val (.int p2), .val (.int p3), .val (.int v3), .val (.int v6), .val (.int v9), .val (.int v12), .val (.ref b14), .val (.int v52)] [(.int (1 : Int32))])) (fun t k => XS.iconst X53.here hx rfl (hb hby at_157) k) ?_
                  refine own_st (T' := T53) (g' := (mkF m 162 #[.val (.int p1), .val (.int p2), .val (.int p3), .val (.int v3), .val (.int v6), .val (.int v9), .val (.int v12), .val (.ref b14), .val (.int v52)] [(.int (1 : Int32))])) (fun t k => XS.goto X53.here hx rfl (pc0 := 158) (pc' := 162) rfl (hb hby at_158) (by decide) (by decide) k) ?_
                  exact own_retB X53 hx hlk hret (hb hby at_162) (by decide) (by decide) rfl ⟨rfl, N49⟩
                by_cases hc132_50 : v6 = (0 : Int32)
                ·
                  refine own_st (T' := T49) (g' := (mkF m 144 #[.val (.int p1), .val (.int p2), .val (.int p3), .val (.int v3), .val (.int v6), .val (.int v9), .val (.int v12), .val (.ref b14), .unset] [])) (fun t k => XS.ifYes X49.here hx rfl (pc0 := 132) (pc' := 144) rfl (hb hby at_132) rfl ((if0 _ _).trans (teq hc132_50).1) (by decide) (by decide) k) ?_
                  refine own_st (T' := T49) (g' := (mkF m 145 #[.val (.int p1), .val (.int p2), .val (.int p3), .val (.int v3), .val (.int v6), .val (.int v9), .val (.int v12), .val (.ref b14), .unset] [(.int (0 : Int32))])) (fun t k => XS.iconst X49.here hx rfl (hb hby at_144) k) ?_
                  exact K51 _ (if_pos hc132_50).symm
                ·
                  refine own_st (T' := T49) (g' := (mkF m 135 #[.val (.int p1), .val (.int p2), .val (.int p3), .val (.int v3), .val (.int v6), .val (.int v9), .val (.int v12), .val (.ref b14), .unset] [])) (fun t k => XS.ifNo X49.here hx rfl (hb hby at_132) rfl ((if0 _ _).trans (feq hc132_50).1) k) ?_
                  refine own_st (T' := T49) (g' := (mkF m 136 #[.val (.int p1), .val (.int p2), .val (.int p3), .val (.int v3), .val (.int v6), .val (.int v9), .val (.int v12), .val (.ref b14), .unset] [(.int p1)])) (fun t k => XS.iloadN X49.here hx rfl (hb hby at_135) rfl k) ?_
                  refine own_st (T' := T49) (g' := (mkF m 137 #[.val (.int p1), .val (.int p2), .val (.int p3), .val (.int v3), .val (.int v6), .val (.int v9), .val (.int v12), .val (.ref b14), .unset] [(.int (1 : Int32)), (.int p1)])) (fun t k => XS.iconst X49.here hx rfl (hb hby at_136) k) ?_
                  by_cases hc137_55 : p1 < (1 : Int32)
                  ·
                    refine own_st (T' := T49) (g' := (mkF m 144 #[.val (.int p1), .val (.int p2), .val (.int p3), .val (.int v3), .val (.int v6), .val (.int v9), .val (.int v12), .val (.ref b14), .unset] [])) (fun t k => XS.icmpYes X49.here hx rfl (pc0 := 137) (pc' := 144) rfl (hb hby at_137) rfl (tlt hc137_55).1 (by decide) (by decide) k) ?_
                    refine own_st (T' := T49) (g' := (mkF m 145 #[.val (.int p1), .val (.int p2), .val (.int p3), .val (.int v3), .val (.int v6), .val (.int v9), .val (.int v12), .val (.ref b14), .unset] [(.int (0 : Int32))])) (fun t k => XS.iconst X49.here hx rfl (hb hby at_144) k) ?_
                    exact K51 _ ((if_neg hc132_50).trans (if_pos hc137_55)).symm
                  ·
                    refine own_st (T' := T49) (g' := (mkF m 140 #[.val (.int p1), .val (.int p2), .val (.int p3), .val (.int v3), .val (.int v6), .val (.int v9), .val (.int v12), .val (.ref b14), .unset] [])) (fun t k => XS.icmpNo X49.here hx rfl (hb hby at_137) rfl (flt hc137_55).1 k) ?_
                    refine own_st (T' := T49) (g' := (mkF m 141 #[.val (.int p1), .val (.int p2), .val (.int p3), .val (.int v3), .val (.int v6), .val (.int v9), .val (.int v12), .val (.ref b14), .unset] [(.int (1 : Int32))])) (fun t k => XS.iconst X49.here hx rfl (hb hby at_140) k) ?_
                    refine own_st (T' := T49) (g' := (mkF m 145 #[.val (.int p1), .val (.int p2), .val (.int p3), .val (.int v3), .val (.int v6), .val (.int v9), .val (.int v12), .val (.ref b14), .unset] [(.int (1 : Int32))])) (fun t k => XS.goto X49.here hx rfl (pc0 := 141) (pc' := 145) rfl (hb hby at_141) (by decide) (by decide) k) ?_
                    exact K51 _ ((if_neg hc132_50).trans (if_neg hc137_55)).symm
          ·
            refine own_st (T' := s₁) (g' := (mkF m 56 #[.val (.int p1), .val (.int p2), .val (.int p3), .val (.int v3), .val (.int v6), .val (.int v9), .val (.int v12), .unset, .unset] [])) (fun t k => XS.ifNo X0.here hx rfl (hb hby at_53) rfl ((if0 _ _).trans (feq hc53_13).1) k) ?_
            refine own_st (T' := s₁) (g' := (mkF m 57 #[.val (.int p1), .val (.int p2), .val (.int p3), .val (.int v3), .val (.int v6), .val (.int v9), .val (.int v12), .unset, .unset] [.null])) (fun t k => XS.aconstNull X0.here hx rfl (hb hby at_56) k) ?_
            obtain ⟨_, T56, L56, hQ56, X56, st56⟩ := own_callS (y := (⟨"com/example/mizan/mizan/Composite", "resumes", "(Lcom/example/mizan/mizan/Walk$Frame;)Z"⟩ : MethodName)) (argsL := [.null]) 0 [] (own_rm3n l Z a0 hw h0 n0 Z0) X0 hx hZ hown (hw _ (List.mem_of_getElem? (i := 9) rfl)) (hw _ (List.mem_of_getElem? (i := 10) rfl)) (hw _ (List.mem_of_getElem? (i := 11) rfl)) (hw _ (List.mem_of_getElem? (i := 12) rfl)) (by decide) (by decide) (by decide) (by decide) (by decide) e0 (g := (mkF m 57 #[.val (.int p1), .val (.int p2), .val (.int p3), .val (.int v3), .val (.int v6), .val (.int v9), .val (.int v12), .unset, .unset] [.null])) rfl (by rw [hml]; rfl) (lenOf own_pd2 rfl) rfl (by show 2 * 0 + _ ≤ _; exact Nat.le_of_eq rfl) (hb hby at_57)
            obtain ⟨rfl, e56, rfl⟩ := hQ56
            have X56 : Stand p l e room_1 s m #[(.int p1), (.int p2), (.int p3)] below meth c T56 [] 0 0 := X56
            refine own_st (T' := T56) (g' := (mkF m 60 #[.val (.int p1), .val (.int p2), .val (.int p3), .val (.int v3), .val (.int v6), .val (.int v9), .val (.int v12), .unset, .unset] [(.int (0 : Int32))])) st56 ?_
            refine own_st (T' := T56) (g' := (mkF m 63 #[.val (.int p1), .val (.int p2), .val (.int p3), .val (.int v3), .val (.int v6), .val (.int v9), .val (.int v12), .unset, .unset] [])) (fun t k => XS.ifNo X56.here hx rfl (hb hby at_60) rfl ((if0 _ _).trans (teq (by decide)).2) k) ?_
            refine own_st (T' := T56) (g' := (mkF m 64 #[.val (.int p1), .val (.int p2), .val (.int p3), .val (.int v3), .val (.int v6), .val (.int v9), .val (.int v12), .unset, .unset] [(.int (1 : Int32))])) (fun t k => XS.iconst X56.here hx rfl (hb hby at_63) k) ?_
            refine own_st (T' := T56) (g' := (mkF m 68 #[.val (.int p1), .val (.int p2), .val (.int p3), .val (.int v3), .val (.int v6), .val (.int v9), .val (.int v12), .unset, .unset] [(.int (1 : Int32))])) (fun t k => XS.goto X56.here hx rfl (pc0 := 64) (pc' := 68) rfl (hb hby at_64) (by decide) (by decide) k) ?_
            exact own_retB X56 hx hlk hret (hb hby at_68) (by decide) (by decide) rfl ⟨rfl, N0⟩
        by_cases hc42_10 : (p3 &&& (8 : Int32)) = (0 : Int32)
        ·
          refine own_st (T' := s₁) (g' := (mkF m 49 #[.val (.int p1), .val (.int p2), .val (.int p3), .val (.int v3), .val (.int v6), .val (.int v9), .unset, .unset, .unset] [])) (fun t k => XS.ifYes X0.here hx rfl (pc0 := 42) (pc' := 49) rfl (hb hby at_42) rfl ((if0 _ _).trans (teq hc42_10).1) (by decide) (by decide) k) ?_
          refine own_st (T' := s₁) (g' := (mkF m 50 #[.val (.int p1), .val (.int p2), .val (.int p3), .val (.int v3), .val (.int v6), .val (.int v9), .unset, .unset, .unset] [(.int (0 : Int32))])) (fun t k => XS.iconst X0.here hx rfl (hb hby at_49) k) ?_
          exact K11 _ (if_pos hc42_10).symm
        ·
          refine own_st (T' := s₁) (g' := (mkF m 45 #[.val (.int p1), .val (.int p2), .val (.int p3), .val (.int v3), .val (.int v6), .val (.int v9), .unset, .unset, .unset] [])) (fun t k => XS.ifNo X0.here hx rfl (hb hby at_42) rfl ((if0 _ _).trans (feq hc42_10).1) k) ?_
          refine own_st (T' := s₁) (g' := (mkF m 46 #[.val (.int p1), .val (.int p2), .val (.int p3), .val (.int v3), .val (.int v6), .val (.int v9), .unset, .unset, .unset] [(.int (1 : Int32))])) (fun t k => XS.iconst X0.here hx rfl (hb hby at_45) k) ?_
          refine own_st (T' := s₁) (g' := (mkF m 50 #[.val (.int p1), .val (.int p2), .val (.int p3), .val (.int v3), .val (.int v6), .val (.int v9), .unset, .unset, .unset] [(.int (1 : Int32))])) (fun t k => XS.goto X0.here hx rfl (pc0 := 46) (pc' := 50) rfl (hb hby at_46) (by decide) (by decide) k) ?_
          exact K11 _ (if_neg hc42_10).symm
      by_cases hc28_7 : (p3 &&& (4 : Int32)) = (0 : Int32)
      ·
        refine own_st (T' := s₁) (g' := (mkF m 35 #[.val (.int p1), .val (.int p2), .val (.int p3), .val (.int v3), .val (.int v6), .unset, .unset, .unset, .unset] [])) (fun t k => XS.ifYes X0.here hx rfl (pc0 := 28) (pc' := 35) rfl (hb hby at_28) rfl ((if0 _ _).trans (teq hc28_7).1) (by decide) (by decide) k) ?_
        refine own_st (T' := s₁) (g' := (mkF m 36 #[.val (.int p1), .val (.int p2), .val (.int p3), .val (.int v3), .val (.int v6), .unset, .unset, .unset, .unset] [(.int (0 : Int32))])) (fun t k => XS.iconst X0.here hx rfl (hb hby at_35) k) ?_
        exact K8 _ (if_pos hc28_7).symm
      ·
        refine own_st (T' := s₁) (g' := (mkF m 31 #[.val (.int p1), .val (.int p2), .val (.int p3), .val (.int v3), .val (.int v6), .unset, .unset, .unset, .unset] [])) (fun t k => XS.ifNo X0.here hx rfl (hb hby at_28) rfl ((if0 _ _).trans (feq hc28_7).1) k) ?_
        refine own_st (T' := s₁) (g' := (mkF m 32 #[.val (.int p1), .val (.int p2), .val (.int p3), .val (.int v3), .val (.int v6), .unset, .unset, .unset, .unset] [(.int (1 : Int32))])) (fun t k => XS.iconst X0.here hx rfl (hb hby at_31) k) ?_
        refine own_st (T' := s₁) (g' := (mkF m 36 #[.val (.int p1), .val (.int p2), .val (.int p3), .val (.int v3), .val (.int v6), .unset, .unset, .unset, .unset] [(.int (1 : Int32))])) (fun t k => XS.goto X0.here hx rfl (pc0 := 32) (pc' := 36) rfl (hb hby at_32) (by decide) (by decide) k) ?_
        exact K8 _ (if_neg hc28_7).symm
    by_cases hc15_4 : (p3 &&& (2 : Int32)) = (0 : Int32)
    ·
      refine own_st (T' := s₁) (g' := (mkF m 22 #[.val (.int p1), .val (.int p2), .val (.int p3), .val (.int v3), .unset, .unset, .unset, .unset, .unset] [])) (fun t k => XS.ifYes X0.here hx rfl (pc0 := 15) (pc' := 22) rfl (hb hby at_15) rfl ((if0 _ _).trans (teq hc15_4).1) (by decide) (by decide) k) ?_
      refine own_st (T' := s₁) (g' := (mkF m 23 #[.val (.int p1), .val (.int p2), .val (.int p3), .val (.int v3), .unset, .unset, .unset, .unset, .unset] [(.int (0 : Int32))])) (fun t k => XS.iconst X0.here hx rfl (hb hby at_22) k) ?_
      exact K5 _ (if_pos hc15_4).symm
    ·
      refine own_st (T' := s₁) (g' := (mkF m 18 #[.val (.int p1), .val (.int p2), .val (.int p3), .val (.int v3), .unset, .unset, .unset, .unset, .unset] [])) (fun t k => XS.ifNo X0.here hx rfl (hb hby at_15) rfl ((if0 _ _).trans (feq hc15_4).1) k) ?_
      refine own_st (T' := s₁) (g' := (mkF m 19 #[.val (.int p1), .val (.int p2), .val (.int p3), .val (.int v3), .unset, .unset, .unset, .unset, .unset] [(.int (1 : Int32))])) (fun t k => XS.iconst X0.here hx rfl (hb hby at_18) k) ?_
      refine own_st (T' := s₁) (g' := (mkF m 23 #[.val (.int p1), .val (.int p2), .val (.int p3), .val (.int v3), .unset, .unset, .unset, .unset, .unset] [(.int (1 : Int32))])) (fun t k => XS.goto X0.here hx rfl (pc0 := 19) (pc' := 23) rfl (hb hby at_19) (by decide) (by decide) k) ?_
      exact K5 _ (if_neg hc15_4).symm
  by_cases hc3_1 : (p3 &&& (1 : Int32)) = (0 : Int32)
  ·
    refine own_st (T' := s₁) (g' := (mkF m 10 #[.val (.int p1), .val (.int p2), .val (.int p3), .unset, .unset, .unset, .unset, .unset, .unset] [])) (fun t k => XS.ifYes X0.here hx rfl (pc0 := 3) (pc' := 10) rfl (hb hby at_3) rfl ((if0 _ _).trans (teq hc3_1).1) (by decide) (by decide) k) ?_
    refine own_st (T' := s₁) (g' := (mkF m 11 #[.val (.int p1), .val (.int p2), .val (.int p3), .unset, .unset, .unset, .unset, .unset, .unset] [(.int (0 : Int32))])) (fun t k => XS.iconst X0.here hx rfl (hb hby at_10) k) ?_
    exact K2 _ (if_pos hc3_1).symm
  ·
    refine own_st (T' := s₁) (g' := (mkF m 6 #[.val (.int p1), .val (.int p2), .val (.int p3), .unset, .unset, .unset, .unset, .unset, .unset] [])) (fun t k => XS.ifNo X0.here hx rfl (hb hby at_3) rfl ((if0 _ _).trans (feq hc3_1).1) k) ?_
    refine own_st (T' := s₁) (g' := (mkF m 7 #[.val (.int p1), .val (.int p2), .val (.int p3), .unset, .unset, .unset, .unset, .unset, .unset] [(.int (1 : Int32))])) (fun t k => XS.iconst X0.here hx rfl (hb hby at_6) k) ?_
    refine own_st (T' := s₁) (g' := (mkF m 11 #[.val (.int p1), .val (.int p2), .val (.int p3), .unset, .unset, .unset, .unset, .unset, .unset] [(.int (1 : Int32))])) (fun t k => XS.goto X0.here hx rfl (pc0 := 7) (pc' := 11) rfl (hb hby at_7) (by decide) (by decide) k) ?_
    exact K2 _ (if_neg hc3_1).symm
set_option maxRecDepth 65536 in
set_option maxHeartbeats 40000000 in
theorem own_comes {Post : Tables → Env → Array Value → State → Outcome → State → Prop} (hpost : ∀ tb e args s v u, (limb_1_1.after args s (.returned v) u = true ∧ limb_1_2.after args s (.returned v) u = true ∧ True) → FrameEnd s (.returned v) u (Jvm.fieldLocs frame_1_writes args s ++ Jvm.arrayLocs frame_1_arrays args s ++ Jvm.staticLocs frame_1_statics s) 16 128 → Post tb e args s (.returned v) u) :
    ArmFor flags0 classFile x code maxLocals ret World_1 tables_1 room_1 Calls_1 rest_1 Pre_1 Post := by
  intro l hfl _ _ p e ha hc hk s m args below hf hA hF happ hP
  obtain ⟨hcalls, hrest, hpre⟩ := hP
  obtain ⟨-, -, -, hnamed, -, -, -, hat⟩ := (Spec.applies_iff hf).mp happ
  obtain ⟨hg, hn⟩ := and_e (Cond.before_iff.mp (show (Jvm.Cond.and given_1 narrow_1).before args s = true from hpre))
  obtain ⟨hcount, hg⟩ := and_e hg
  obtain ⟨w0, w1, w2, rfl⟩ : ∃ w0 w1 w2 : Value, args = #[w0, w1, w2] := by
    have hs : args.size = 3 := by simpa [Cond.value, given_1] using hcount
    obtain ⟨L⟩ := args
    match L, hs with
    | [w0, w1, w2], _ => exact ⟨w0, w1, w2, rfl⟩
  have hw := fun d (hd : d ∈ tables_1) => atoms_spec (ws := Jvm.Cond.code x code maxLocals ret :: tables_1) hat d (List.mem_cons_of_mem _ hd)
  have hfit : Fit s := fun {y c} hc i hi => by
    obtain ⟨ha, rfl⟩ := Array.getElem?_eq_some_iff.mp hc
    have q := List.all_eq_true.mp ((Array.all_eq_true_iff_forall_mem.mp hF) _ (Array.getElem_mem ha)) i (List.mem_range.mpr hi)
    simpa [Array.getElem?_eq_getElem hi] using q
  obtain ⟨g0, hg⟩ := and_e hg
  obtain ⟨i0, ei0⟩ := is_v g0
  obtain rfl : w0 = (.int i0) := Option.some.inj ei0
  obtain ⟨g1, hg⟩ := and_e hg
  obtain ⟨i1, ei1⟩ := is_v g1
  obtain rfl : w1 = (.int i1) := Option.some.inj ei1
  have g2 := hg
  obtain ⟨i2, ei2⟩ := is_v g2
  obtain rfl : w2 = (.int i2) := Option.some.inj ei2
  obtain ⟨hsets, hown0⟩ := atoms_of _ (rest_1_c_eq ▸ (show rest_1_c.before _ s = true from hrest))
  have e_high := eqv_i (Term.int_eval (127)) (Cond.before_iff.mp (hsets _ (List.mem_of_getElem? (i := 3) rfl)))
  have S_high : Sta s s.heap "java/lang/Integer$IntegerCache" "high" "I" (.int 127) := Sta.start e_high (Or.inl (hsets _ (List.mem_of_getElem? (i := 1) rfl)))
  obtain ⟨s_cache, _, _, _, e_cache, -⟩ := Cond.exactly_spec (hsets _ (List.mem_of_getElem? (i := 5) rfl))
  have S_cache : Sta s s.heap "java/lang/Integer$IntegerCache" "cache" "[Ljava/lang/Integer;" (.ref s_cache) := Sta.start e_cache (Or.inr ⟨(hw _ (List.mem_of_getElem? (i := 27) rfl)), (hsets _ (List.mem_of_getElem? (i := 2) rfl))⟩)
  obtain ⟨cc, A_cache⟩ := Arr.start e_cache (Cond.before_iff.mp (hsets _ (List.mem_of_getElem? (i := 4) rfl)))
  obtain ⟨q1_cache, q2_cache⟩ := Jvm.Free.IntBox.length_fwd (hsets _ (List.mem_of_getElem? (i := 6) rfl)) e_cache A_cache.1 A_cache.2.1 A_cache.2.2
  have B_cache : Bxs s s_cache cc "java/lang/Integer" "I" 256 (fun j => .int (j - 128)) := Bxs.start (fun _ => e_cache) A_cache q1_cache q2_cache (by decide) (Cond.before_iff.mp (hsets _ (List.mem_of_getElem? (i := 7) rfl))) (fun X j nn h => eqv_i (by simp [Term.eval, idx_at nn]; first | rfl | (rw [(back32 nn).1])) h)
  obtain ⟨n, o, h1, h2, h3, _, L, rfl, ⟨rfl, N⟩, hq⟩ := own_rm0 l s _ hw s.heap     s.heap.size (Nat.le_refl _) i0 i1 i2 (Old.start s) s_cache cc S_high S_cache B_cache p e ha hc hk s m _ below hf ((Spec.applies_iff_loose hf).mp happ).1 ⟨rfl, State.Warmed39.refl s, rfl⟩ trivial
  exact ⟨n, _, h1, h2, h3, hpost _ _ _ _ _ _ ⟨Cond.after_iff.mpr rfl, Cond.after_iff.mpr (eq_i res_at (Term.int_eval (1)) rfl), trivial⟩ ⟨hq.1, hq.2.1, (hq.2.2.sift fun y hy => Or.inr (N y hy)).mono (by decide) (by decide)⟩⟩
theorem main_1_1 : Claimed_1_1 := own_comes fun _ _ _ _ _ _ h hF => ⟨h.1, hF⟩
theorem main_1_2 : Claimed_1_2 := own_comes fun _ _ _ _ _ _ h hF => ⟨h.2.1, hF⟩
end Jvm.Pilot.@@N@@
namespace Jvm.Pilot.@@N@@
open Jvm Jvm.ClassFile Sem Op Lib Jvm.Free Jvm.Stand Jvm.Pilot.@@N@@.Jvm.D
/-! MADE BY PROGRAM (witnessworld.py) out of the Statement's table words and the real class files: 18 classes; the members and pool entries that the words name. The judged class is class 1, her method 1. -/
namespace start1
open Jvm.ClassFile
def u (s : String) : CpInfo := .utf8 (stringToUtf16 s)
/-- a pool by its gaps: so many unusable entries, then the entry; so many at the end -/
def gap : Nat → List CpInfo → List CpInfo
  | 0, r => r
  | n + 1, r => .unusable :: gap n r
def poolList (es : List (Nat × CpInfo)) (last : Nat) : List CpInfo := es.foldr (fun e r => gap e.1 (e.2 :: r)) (gap last [])
def pool (es : List (Nat × CpInfo)) (last : Nat) : Array CpInfo := ⟨poolList es last⟩
def fileOf (pool : Array CpInfo) (this : Nat) (attrs : Array Attribute := #[]) (ms : Array MethodInfo := #[]) (fl : Nat := 33) (sup : Nat := 0) (ifs : Array Nat := #[]) (fds : Array FieldInfo := #[]) : ClassFile where
  minorVersion := 0
  majorVersion := 65
  constantPool := pool
  accessFlags := fl
  thisClass := this
  superClass := sup
  interfaces := ifs
  fields := fds
  methods := ms
  attributes := attrs
def plain (name : String) (sup : Option ClassId) : Class where
  name := name
  kind := .ordinary
  loader := none
  accessFlags := 33
  super := sup
  interfaces := #[]
  cf := none
  fields := #[]
  methods := #[]
  instanceTypes := #[]
  staticTypes := #[]
  resolved := #[]
  callSites := []
  init := .initialized
  statics := none
  mirror := none

def pool0 : Array CpInfo := pool [(5, u "<init>"), (0, u "()V"), (1, .class_ 10), (1, u "java/lang/Object")] 113

def k0c0 : Code := { maxStack := 0, maxLocals := 1, code := object_method_1_code, exceptionTable := #[], attributes := #[] }
def k0m0 : Method := { name := "<init>", desc := "()V", sig := { parameters := [], returnType := none }, accessFlags := 1, code := some k0c0 }
/-- java/lang/Object -/
def k0 : Class := { plain "java/lang/Object" none with
  accessFlags := 33
  interfaces := #[]
  cf := some (fileOf pool0 8 #[] #[{ accessFlags := 1, nameIndex := 5, descriptorIndex := 6, attributes := #[] }] 33 0 #[] #[])
  fields := #[]
  methods := #[k0m0]
  instanceTypes := #[]
  staticTypes := #[]
  resolved := Array.replicate 124 none
  statics := none }

def pool1 : Array CpInfo := pool [(2, .class_ 4), (0, .nameAndType 5 6), (0, u "java/lang/Object"), (0, u "<init>"), (0, u "()V"), (0, .methodref 8 9), (0, .class_ 10), (0, .nameAndType 11 12), (0, u "com/example/mizan/mizan/Composite"), (0, u "resumes"), (0, u "(Lcom/example/mizan/mizan/Walk$Frame;)Z"), (0, .class_ 14), (0, u "com/example/mizan/mizan/Walk$Frame"), (0, .methodref 13 3), (0, .fieldref 13 17), (0, .nameAndType 18 19), (0, u "entered"), (0, u "I"), (0, .fieldref 13 21), (0, .nameAndType 22 19), (0, u "mark"), (0, .fieldref 13 24), (0, .nameAndType 25 26), (0, u "failed"), (0, u "Z"), (0, .methodref 28 29), (0, .class_ 30), (0, .nameAndType 31 32), (0, u "java/lang/Integer"), (0, u "valueOf"), (0, u "(I)Ljava/lang/Integer;"), (0, .fieldref 13 34), (0, .nameAndType 35 36), (0, u "handed"), (0, u "Ljava/lang/Object;"), (0, .class_ 38), (0, u "com/example/mizan/mizan/CompositeResumesPinLaw"), (2, u "law"), (0, u "(III)Z")] 7

def k1m0 : Method := { name := "<init>", desc := "()V", sig := { parameters := [], returnType := none }, accessFlags := 1, code := none }
def k1c1 : Code := { maxStack := 2, maxLocals := 9, code := code, exceptionTable := #[], attributes := #[] }
def k1m1 : Method := { name := "law", desc := "(III)Z", sig := { parameters := [.int, .int, .int], returnType := some .boolean }, accessFlags := 9, code := some k1c1 }
/-- com/example/mizan/mizan/CompositeResumesPinLaw -/
def k1 : Class := { plain "com/example/mizan/mizan/CompositeResumesPinLaw" (some 0) with
  accessFlags := 49
  interfaces := #[]
  cf := some (fileOf pool1 37 #[] #[{ accessFlags := 1, nameIndex := 5, descriptorIndex := 6, attributes := #[] }, { accessFlags := 9, nameIndex := 41, descriptorIndex := 42, attributes := #[] }] 49 2 #[] #[])
  fields := #[]
  methods := #[k1m0, k1m1]
  instanceTypes := #[]
  staticTypes := #[]
  resolved := Array.replicate 50 none
  statics := none }

def pool2 : Array CpInfo := pool [(1, .methodref 2 3), (0, .class_ 4), (0, .nameAndType 5 6), (0, u "java/lang/Object"), (0, u "<init>"), (0, u "()V"), (0, .class_ 8), (0, u "com/example/mizan/mizan/Walk$Frame"), (0, u "composite"), (0, u "Lcom/example/mizan/mizan/Composite;"), (2, u "value"), (0, u "Ljava/lang/Object;"), (0, u "entered"), (0, u "I"), (0, u "mark"), (0, u "failed"), (0, u "Z"), (0, u "handed"), (5, .class_ 27), (0, u "com/example/mizan/mizan/Walk")] 2

def k2c0 : Code := { maxStack := 1, maxLocals := 1, code := prog_55_method_1_code, exceptionTable := #[], attributes := #[] }
def k2m0 : Method := { name := "<init>", desc := "()V", sig := { parameters := [], returnType := none }, accessFlags := 0, code := some k2c0 }
/-- com/example/mizan/mizan/Walk$Frame -/
def k2 : Class := { plain "com/example/mizan/mizan/Walk$Frame" (some 0) with
  accessFlags := 48
  interfaces := #[]
  cf := some (fileOf pool2 7 #[.nestHost 26] #[{ accessFlags := 0, nameIndex := 5, descriptorIndex := 6, attributes := #[] }] 48 2 #[] #[{ accessFlags := 2, nameIndex := 9, descriptorIndex := 10, attributes := #[] }, { accessFlags := 2, nameIndex := 13, descriptorIndex := 14, attributes := #[] }, { accessFlags := 0, nameIndex := 15, descriptorIndex := 16, attributes := #[] }, { accessFlags := 0, nameIndex := 17, descriptorIndex := 16, attributes := #[] }, { accessFlags := 0, nameIndex := 18, descriptorIndex := 19, attributes := #[] }, { accessFlags := 0, nameIndex := 20, descriptorIndex := 14, attributes := #[] }])
  fields := #[{ name := "composite", type := (.object "com/example/mizan/mizan/Composite"), accessFlags := 2, slot := 0, constantValue := 0 }, { name := "value", type := (.object "java/lang/Object"), accessFlags := 2, slot := 1, constantValue := 0 }, { name := "entered", type := .int, accessFlags := 0, slot := 2, constantValue := 0 }, { name := "mark", type := .int, accessFlags := 0, slot := 3, constantValue := 0 }, { name := "failed", type := .boolean, accessFlags := 0, slot := 4, constantValue := 0 }, { name := "handed", type := (.object "java/lang/Object"), accessFlags := 0, slot := 5, constantValue := 0 }]
  methods := #[k2m0]
  instanceTypes := #[(.object "com/example/mizan/mizan/Composite"), (.object "java/lang/Object"), .int, .int, .boolean, (.object "java/lang/Object")]
  staticTypes := #[]
  resolved := Array.replicate 30 none
  statics := none }

def pool3 : Array CpInfo := pool [(2, .class_ 4), (1, u "java/lang/Object"), (0, u "<init>"), (0, u "()V"), (7, .class_ 16), (1, u "com/example/mizan/mizan/Validator")] 63

def k3m0 : Method := { name := "<init>", desc := "()V", sig := { parameters := [], returnType := none }, accessFlags := 1, code := none }
/-- com/example/mizan/mizan/Validator -/
def k3 : Class := { plain "com/example/mizan/mizan/Validator" (some 0) with
  accessFlags := 1057
  interfaces := #[]
  cf := some (fileOf pool3 14 #[] #[{ accessFlags := 1, nameIndex := 5, descriptorIndex := 6, attributes := #[] }] 1057 2 #[] #[])
  fields := #[]
  methods := #[k3m0]
  instanceTypes := #[]
  staticTypes := #[]
  resolved := Array.replicate 80 none
  statics := none }

def pool4 : Array CpInfo := pool [(2, .class_ 4), (1, u "com/example/mizan/mizan/Validator"), (0, u "<init>"), (0, u "()V"), (6, .fieldref 14 15), (0, .class_ 16), (0, .nameAndType 17 18), (0, u "com/example/mizan/mizan/Walk$Frame"), (0, u "entered"), (0, u "I"), (15, .class_ 36), (1, u "com/example/mizan/mizan/Composite"), (44, u "resumes"), (0, u "(Lcom/example/mizan/mizan/Walk$Frame;)Z")] 53

def k4m0 : Method := { name := "<init>", desc := "()V", sig := { parameters := [], returnType := none }, accessFlags := 0, code := none }
def k4c1 : Code := { maxStack := 1, maxLocals := 1, code := prog_10_method_4_code, exceptionTable := #[], attributes := #[] }
def k4m1 : Method := { name := "resumes", desc := "(Lcom/example/mizan/mizan/Walk$Frame;)Z", sig := { parameters := [(.object "com/example/mizan/mizan/Walk$Frame")], returnType := some .boolean }, accessFlags := 8, code := some k4c1 }
/-- com/example/mizan/mizan/Composite -/
def k4 : Class := { plain "com/example/mizan/mizan/Composite" (some 3) with
  accessFlags := 1056
  interfaces := #[]
  cf := some (fileOf pool4 34 #[] #[{ accessFlags := 0, nameIndex := 5, descriptorIndex := 6, attributes := #[] }, { accessFlags := 8, nameIndex := 81, descriptorIndex := 82, attributes := #[] }] 1056 2 #[] #[])
  fields := #[]
  methods := #[k4m0, k4m1]
  instanceTypes := #[]
  staticTypes := #[]
  resolved := Array.replicate 136 none
  statics := none }

def pool5 : Array CpInfo := pool [(1, .class_ 2), (0, u "java/io/Serializable"), (0, .class_ 4), (0, u "java/lang/Object")] 2

/-- java/io/Serializable -/
def k5 : Class := { plain "java/io/Serializable" (some 0) with
  accessFlags := 1537
  interfaces := #[]
  cf := some (fileOf pool5 1 #[] #[] 1537 3 #[] #[])
  fields := #[]
  methods := #[]
  instanceTypes := #[]
  staticTypes := #[]
  resolved := Array.replicate 7 none
  statics := none }

def pool6 : Array CpInfo := pool [(1, .methodref 2 3), (0, .class_ 4), (0, .nameAndType 5 6), (0, u "java/lang/Object"), (0, u "<init>"), (0, u "()V"), (1, .class_ 10), (1, u "java/lang/Number"), (2, .class_ 14), (0, u "java/io/Serializable"), (0, u "serialVersionUID"), (0, u "J")] 20

def k6c0 : Code := { maxStack := 1, maxLocals := 1, code := jdk_18_method_1_code, exceptionTable := #[], attributes := #[] }
def k6m0 : Method := { name := "<init>", desc := "()V", sig := { parameters := [], returnType := none }, accessFlags := 1, code := some k6c0 }
/-- java/lang/Number -/
def k6 : Class := { plain "java/lang/Number" (some 0) with
  accessFlags := 1057
  interfaces := #[5]
  cf := some (fileOf pool6 8 #[] #[{ accessFlags := 1, nameIndex := 5, descriptorIndex := 6, attributes := #[] }] 1057 2 #[13] #[{ accessFlags := 26, nameIndex := 15, descriptorIndex := 16, attributes := #[] }])
  fields := #[{ name := "serialVersionUID", type := .long, accessFlags := 26, slot := 0, constantValue := 0 }]
  methods := #[k6m0]
  instanceTypes := #[]
  staticTypes := #[.long]
  resolved := Array.replicate 37 none
  statics := none }

def pool7 : Array CpInfo := pool [(1, .class_ 2), (0, u "java/lang/Comparable"), (0, .class_ 4), (0, u "java/lang/Object")] 7

/-- java/lang/Comparable -/
def k7 : Class := { plain "java/lang/Comparable" (some 0) with
  accessFlags := 1537
  interfaces := #[]
  cf := some (fileOf pool7 1 #[] #[] 1537 3 #[] #[])
  fields := #[]
  methods := #[]
  instanceTypes := #[]
  staticTypes := #[]
  resolved := Array.replicate 12 none
  statics := none }

def pool8 : Array CpInfo := pool [(1, .class_ 2), (0, u "java/lang/constant/Constable"), (0, .class_ 4), (0, u "java/lang/Object")] 6

/-- java/lang/constant/Constable -/
def k8 : Class := { plain "java/lang/constant/Constable" (some 0) with
  accessFlags := 1537
  interfaces := #[]
  cf := some (fileOf pool8 1 #[] #[] 1537 3 #[] #[])
  fields := #[]
  methods := #[]
  instanceTypes := #[]
  staticTypes := #[]
  resolved := Array.replicate 11 none
  statics := none }

def pool9 : Array CpInfo := pool [(1, .class_ 2), (0, u "java/lang/constant/ConstantDesc"), (0, .class_ 4), (0, u "java/lang/Object")] 32

/-- java/lang/constant/ConstantDesc -/
def k9 : Class := { plain "java/lang/constant/ConstantDesc" (some 0) with
  accessFlags := 1537
  interfaces := #[]
  cf := some (fileOf pool9 1 #[] #[] 1537 3 #[] #[])
  fields := #[]
  methods := #[]
  instanceTypes := #[]
  staticTypes := #[]
  resolved := Array.replicate 37 none
  statics := none }

def pool10 : Array CpInfo := pool [(1, .class_ 2), (0, u "java/lang/Integer"), (16, u "digits"), (0, u "[C"), (46, u "<init>"), (17, u "DigitOnes"), (0, u "[B"), (2, u "DigitTens"), (10, .nameAndType 67 101), (0, u "()V"), (85, u "valueOf"), (0, u "(I)Ljava/lang/Integer;"), (0, .class_ 190), (0, u "java/lang/Integer$IntegerCache"), (0, .fieldref 189 192), (0, .nameAndType 193 194), (0, u "high"), (0, u "I"), (0, .fieldref 189 196), (0, .nameAndType 197 198), (0, u "cache"), (0, u "[Ljava/lang/Integer;"), (0, .methodref 1 200), (0, .nameAndType 67 201), (0, u "(I)V"), (0, .methodref 203 100), (0, .class_ 204), (0, u "java/lang/Number"), (0, .fieldref 1 206), (0, .nameAndType 207 194), (0, u "value"), (94, u "TYPE"), (0, u "Ljava/lang/Class;"), (0, .class_ 305), (0, u "java/lang/Comparable"), (0, .class_ 307), (0, u "java/lang/constant/Constable"), (0, .class_ 309), (0, u "java/lang/constant/ConstantDesc"), (0, u "MIN_VALUE"), (1, u "MAX_VALUE"), (3, u "SIZE"), (1, u "BYTES"), (1, u "serialVersionUID"), (0, u "J")] 131

def k10c0 : Code := { maxStack := 3, maxLocals := 1, code := jdk_33_method_22_code, exceptionTable := #[], attributes := #[] }
def k10m0 : Method := { name := "valueOf", desc := "(I)Ljava/lang/Integer;", sig := { parameters := [.int], returnType := some (.object "java/lang/Integer") }, accessFlags := 9, code := some k10c0 }
def k10c1 : Code := { maxStack := 2, maxLocals := 2, code := jdk_33_method_23_code, exceptionTable := #[], attributes := #[] }
def k10m1 : Method := { name := "<init>", desc := "(I)V", sig := { parameters := [.int], returnType := none }, accessFlags := 1, code := some k10c1 }
/-- java/lang/Integer -/
def k10 : Class := { plain "java/lang/Integer" (some 6) with
  accessFlags := 49
  interfaces := #[7, 8, 9]
  cf := some (fileOf pool10 1 #[.nestMembers #[189]] #[{ accessFlags := 9, nameIndex := 187, descriptorIndex := 188, attributes := #[] }, { accessFlags := 1, nameIndex := 67, descriptorIndex := 201, attributes := #[] }] 49 203 #[304, 306, 308] #[{ accessFlags := 25, nameIndex := 310, descriptorIndex := 194, attributes := #[] }, { accessFlags := 25, nameIndex := 312, descriptorIndex := 194, attributes := #[] }, { accessFlags := 25, nameIndex := 302, descriptorIndex := 303, attributes := #[] }, { accessFlags := 24, nameIndex := 19, descriptorIndex := 20, attributes := #[] }, { accessFlags := 24, nameIndex := 89, descriptorIndex := 86, attributes := #[] }, { accessFlags := 24, nameIndex := 85, descriptorIndex := 86, attributes := #[] }, { accessFlags := 18, nameIndex := 207, descriptorIndex := 194, attributes := #[] }, { accessFlags := 25, nameIndex := 316, descriptorIndex := 194, attributes := #[] }, { accessFlags := 25, nameIndex := 318, descriptorIndex := 194, attributes := #[] }, { accessFlags := 26, nameIndex := 320, descriptorIndex := 321, attributes := #[] }])
  fields := #[{ name := "MIN_VALUE", type := .int, accessFlags := 25, slot := 0, constantValue := 0 }, { name := "MAX_VALUE", type := .int, accessFlags := 25, slot := 1, constantValue := 0 }, { name := "TYPE", type := (.object "java/lang/Class"), accessFlags := 25, slot := 2, constantValue := 0 }, { name := "digits", type := (.array .char), accessFlags := 24, slot := 3, constantValue := 0 }, { name := "DigitTens", type := (.array .byte), accessFlags := 24, slot := 4, constantValue := 0 }, { name := "DigitOnes", type := (.array .byte), accessFlags := 24, slot := 5, constantValue := 0 }, { name := "value", type := .int, accessFlags := 18, slot := 0, constantValue := 0 }, { name := "SIZE", type := .int, accessFlags := 25, slot := 6, constantValue := 0 }, { name := "BYTES", type := .int, accessFlags := 25, slot := 7, constantValue := 0 }, { name := "serialVersionUID", type := .long, accessFlags := 26, slot := 8, constantValue := 0 }]
  methods := #[k10m0, k10m1]
  instanceTypes := #[.int]
  staticTypes := #[.int, .int, (.object "java/lang/Class"), (.array .char), (.array .byte), (.array .byte), .int, .int, .long]
  resolved := Array.replicate 453 none
  statics := none }

def pool11 : Array CpInfo := pool [(2, .class_ 4), (1, u "java/lang/Object"), (0, u "<init>"), (0, u "()V"), (0, .class_ 8), (0, u "java/lang/Integer"), (7, .class_ 18), (1, u "java/lang/Integer$IntegerCache"), (0, u "$assertionsDisabled"), (0, u "Z"), (26, u "high"), (0, u "I"), (8, u "archivedCache"), (0, u "[Ljava/lang/Integer;"), (12, u "cache"), (0, u "low")] 27

def k11m0 : Method := { name := "<init>", desc := "()V", sig := { parameters := [], returnType := none }, accessFlags := 2, code := none }
/-- java/lang/Integer$IntegerCache -/
def k11 : Class := { plain "java/lang/Integer$IntegerCache" (some 0) with
  accessFlags := 48
  interfaces := #[]
  cf := some (fileOf pool11 16 #[.nestHost 7] #[{ accessFlags := 2, nameIndex := 5, descriptorIndex := 6, attributes := #[] }] 48 2 #[] #[{ accessFlags := 24, nameIndex := 72, descriptorIndex := 48, attributes := #[] }, { accessFlags := 24, nameIndex := 47, descriptorIndex := 48, attributes := #[] }, { accessFlags := 24, nameIndex := 71, descriptorIndex := 58, attributes := #[] }, { accessFlags := 8, nameIndex := 57, descriptorIndex := 58, attributes := #[] }, { accessFlags := 4120, nameIndex := 19, descriptorIndex := 20, attributes := #[] }])
  fields := #[{ name := "low", type := .int, accessFlags := 24, slot := 0, constantValue := 0 }, { name := "high", type := .int, accessFlags := 24, slot := 1, constantValue := 0 }, { name := "cache", type := (.array (.object "java/lang/Integer")), accessFlags := 24, slot := 2, constantValue := 0 }, { name := "archivedCache", type := (.array (.object "java/lang/Integer")), accessFlags := 8, slot := 3, constantValue := 0 }, { name := "$assertionsDisabled", type := .boolean, accessFlags := 4120, slot := 4, constantValue := 0 }]
  methods := #[k11m0]
  instanceTypes := #[]
  staticTypes := #[.int, .int, (.array (.object "java/lang/Integer")), (.array (.object "java/lang/Integer")), .boolean]
  resolved := Array.replicate 100 none
  statics := some 0 }

def pool12 : Array CpInfo := pool [(1, u "java/lang/Cloneable"), (0, .class_ 1), (0, u "java/lang/Object"), (0, .class_ 3)] 3

/-- java/lang/Cloneable -/
def k12 : Class := { plain "java/lang/Cloneable" (some 0) with
  accessFlags := 1537
  interfaces := #[]
  cf := some (fileOf pool12 2 #[] #[] 1537 4 #[] #[])
  fields := #[]
  methods := #[]
  instanceTypes := #[]
  staticTypes := #[]
  resolved := Array.replicate 8 none
  statics := none }

/-- the primitive byte -/
def k13 : Class := { plain "byte" none with kind := .primitive 'B', accessFlags := 0x411 }
/-- [B -/
def k14 : Class := { plain "[B" (some 0) with kind := .array 13 .byte, interfaces := #[12, 5], accessFlags := 1041 }

/-- the primitive int -/
def k15 : Class := { plain "int" none with kind := .primitive 'I', accessFlags := 0x411 }
/-- [I -/
def k16 : Class := { plain "[I" (some 0) with kind := .array 15 .int, interfaces := #[12, 5], accessFlags := 1041 }

/-- [Ljava/lang/Integer; -/
def k17 : Class := { plain "[Ljava/lang/Integer;" (some 0) with kind := .array 10 (.object "java/lang/Integer"), interfaces := #[12, 5], accessFlags := 1041 }

def heap : Heap := #[{ cls := 11, slots := #[.int 0, .int 127, .ref 1, .null, .int 0], vm := .statics 11 },
  { cls := 17, slots := #[.ref 2, .ref 3, .ref 4, .ref 5, .ref 6, .ref 7, .ref 8, .ref 9, .ref 10, .ref 11, .ref 12, .ref 13, .ref 14, .ref 15, .ref 16, .ref 17, .ref 18, .ref 19, .ref 20, .ref 21, .ref 22, .ref 23, .ref 24, .ref 25, .ref 26, .ref 27, .ref 28, .ref 29, .ref 30, .ref 31, .ref 32, .ref 33, .ref 34, .ref 35, .ref 36, .ref 37, .ref 38, .ref 39, .ref 40, .ref 41, .ref 42, .ref 43, .ref 44, .ref 45, .ref 46, .ref 47, .ref 48, .ref 49, .ref 50, .ref 51, .ref 52, .ref 53, .ref 54, .ref 55, .ref 56, .ref 57, .ref 58, .ref 59, .ref 60, .ref 61, .ref 62, .ref 63, .ref 64, .ref 65, .ref 66, .ref 67, .ref 68, .ref 69, .ref 70, .ref 71, .ref 72, .ref 73, .ref 74, .ref 75, .ref 76, .ref 77, .ref 78, .ref 79, .ref 80, .ref 81, .ref 82, .ref 83, .ref 84, .ref 85, .ref 86, .ref 87, .ref 88, .ref 89, .ref 90, .ref 91, .ref 92, .ref 93, .ref 94, .ref 95, .ref 96, .ref 97, .ref 98, .ref 99, .ref 100, .ref 101, .ref 102, .ref 103, .ref 104, .ref 105, .ref 106, .ref 107, .ref 108, .ref 109, .ref 110, .ref 111, .ref 112, .ref 113, .ref 114, .ref 115, .ref 116, .ref 117, .ref 118, .ref 119, .ref 120, .ref 121, .ref 122, .ref 123, .ref 124, .ref 125, .ref 126, .ref 127, .ref 128, .ref 129, .ref 130, .ref 131, .ref 132, .ref 133, .ref 134, .ref 135, .ref 136, .ref 137, .ref 138, .ref 139, .ref 140, .ref 141, .ref 142, .ref 143, .ref 144, .ref 145, .ref 146, .ref 147, .ref 148, .ref 149, .ref 150, .ref 151, .ref 152, .ref 153, .ref 154, .ref 155, .ref 156, .ref 157, .ref 158, .ref 159, .ref 160, .ref 161, .ref 162, .ref 163, .ref 164, .ref 165, .ref 166, .ref 167, .ref 168, .ref 169, .ref 170, .ref 171, .ref 172, .ref 173, .ref 174, .ref 175, .ref 176, .ref 177, .ref 178, .ref 179, .ref 180, .ref 181, .ref 182, .ref 183, .ref 184, .ref 185, .ref 186, .ref 187, .ref 188, .ref 189, .ref 190, .ref 191, .ref 192, .ref 193, .ref 194, .ref 195, .ref 196, .ref 197, .ref 198, .ref 199, .ref 200, .ref 201, .ref 202, .ref 203, .ref 204, .ref 205, .ref 206, .ref 207, .ref 208, .ref 209, .ref 210, .ref 211, .ref 212, .ref 213, .ref 214, .ref 215, .ref 216, .ref 217, .ref 218, .ref 219, .ref 220, .ref 221, .ref 222, .ref 223, .ref 224, .ref 225, .ref 226, .ref 227, .ref 228, .ref 229, .ref 230, .ref 231, .ref 232, .ref 233, .ref 234, .ref 235, .ref 236, .ref 237, .ref 238, .ref 239, .ref 240, .ref 241, .ref 242, .ref 243, .ref 244, .ref 245, .ref 246, .ref 247, .ref 248, .ref 249, .ref 250, .ref 251, .ref 252, .ref 253, .ref 254, .ref 255, .ref 256, .ref 257], vm := .none },
  { cls := 10, slots := #[.int (-128)], vm := .none },
  { cls := 10, slots := #[.int (-127)], vm := .none },
  { cls := 10, slots := #[.int (-126)], vm := .none },
  { cls := 10, slots := #[.int (-125)], vm := .none },
  { cls := 10, slots := #[.int (-124)], vm := .none },
  { cls := 10, slots := #[.int (-123)], vm := .none },
  { cls := 10, slots := #[.int (-122)], vm := .none },
  { cls := 10, slots := #[.int (-121)], vm := .none },
  { cls := 10, slots := #[.int (-120)], vm := .none },
  { cls := 10, slots := #[.int (-119)], vm := .none },
  { cls := 10, slots := #[.int (-118)], vm := .none },
  { cls := 10, slots := #[.int (-117)], vm := .none },
  { cls := 10, slots := #[.int (-116)], vm := .none },
  { cls := 10, slots := #[.int (-115)], vm := .none },
  { cls := 10, slots := #[.int (-114)], vm := .none },
  { cls := 10, slots := #[.int (-113)], vm := .none },
  { cls := 10, slots := #[.int (-112)], vm := .none },
  { cls := 10, slots := #[.int (-111)], vm := .none },
  { cls := 10, slots := #[.int (-110)], vm := .none },
  { cls := 10, slots := #[.int (-109)], vm := .none },
  { cls := 10, slots := #[.int (-108)], vm := .none },
  { cls := 10, slots := #[.int (-107)], vm := .none },
  { cls := 10, slots := #[.int (-106)], vm := .none },
  { cls := 10, slots := #[.int (-105)], vm := .none },
  { cls := 10, slots := #[.int (-104)], vm := .none },
  { cls := 10, slots := #[.int (-103)], vm := .none },
  { cls := 10, slots := #[.int (-102)], vm := .none },
  { cls := 10, slots := #[.int (-101)], vm := .none },
  { cls := 10, slots := #[.int (-100)], vm := .none },
  { cls := 10, slots := #[.int (-99)], vm := .none },
  { cls := 10, slots := #[.int (-98)], vm := .none },
  { cls := 10, slots := #[.int (-97)], vm := .none },
  { cls := 10, slots := #[.int (-96)], vm := .none },
  { cls := 10, slots := #[.int (-95)], vm := .none },
  { cls := 10, slots := #[.int (-94)], vm := .none },
  { cls := 10, slots := #[.int (-93)], vm := .none },
  { cls := 10, slots := #[.int (-92)], vm := .none },
  { cls := 10, slots := #[.int (-91)], vm := .none },
  { cls := 10, slots := #[.int (-90)], vm := .none },
  { cls := 10, slots := #[.int (-89)], vm := .none },
  { cls := 10, slots := #[.int (-88)], vm := .none },
  { cls := 10, slots := #[.int (-87)], vm := .none },
  { cls := 10, slots := #[.int (-86)], vm := .none },
  { cls := 10, slots := #[.int (-85)], vm := .none },
  { cls := 10, slots := #[.int (-84)], vm := .none },
  { cls := 10, slots := #[.int (-83)], vm := .none },
  { cls := 10, slots := #[.int (-82)], vm := .none },
  { cls := 10, slots := #[.int (-81)], vm := .none },
  { cls := 10, slots := #[.int (-80)], vm := .none },
  { cls := 10, slots := #[.int (-79)], vm := .none },
  { cls := 10, slots := #[.int (-78)], vm := .none },
  { cls := 10, slots := #[.int (-77)], vm := .none },
  { cls := 10, slots := #[.int (-76)], vm := .none },
  { cls := 10, slots := #[.int (-75)], vm := .none },
  { cls := 10, slots := #[.int (-74)], vm := .none },
  { cls := 10, slots := #[.int (-73)], vm := .none },
  { cls := 10, slots := #[.int (-72)], vm := .none },
  { cls := 10, slots := #[.int (-71)], vm := .none },
  { cls := 10, slots := #[.int (-70)], vm := .none },
  { cls := 10, slots := #[.int (-69)], vm := .none },
  { cls := 10, slots := #[.int (-68)], vm := .none },
  { cls := 10, slots := #[.int (-67)], vm := .none },
  { cls := 10, slots := #[.int (-66)], vm := .none },
  { cls := 10, slots := #[.int (-65)], vm := .none },
  { cls := 10, slots := #[.int (-64)], vm := .none },
  { cls := 10, slots := #[.int (-63)], vm := .none },
  { cls := 10, slots := #[.int (-62)], vm := .none },
  { cls := 10, slots := #[.int (-61)], vm := .none },
  { cls := 10, slots := #[.int (-60)], vm := .none },
  { cls := 10, slots := #[.int (-59)], vm := .none },
  { cls := 10, slots := #[.int (-58)], vm := .none },
  { cls := 10, slots := #[.int (-57)], vm := .none },
  { cls := 10, slots := #[.int (-56)], vm := .none },
  { cls := 10, slots := #[.int (-55)], vm := .none },
  { cls := 10, slots := #[.int (-54)], vm := .none },
  { cls := 10, slots := #[.int (-53)], vm := .none },
  { cls := 10, slots := #[.int (-52)], vm := .none },
  { cls := 10, slots := #[.int (-51)], vm := .none },
  { cls := 10, slots := #[.int (-50)], vm := .none },
  { cls := 10, slots := #[.int (-49)], vm := .none },
  { cls := 10, slots := #[.int (-48)], vm := .none },
  { cls := 10, slots := #[.int (-47)], vm := .none },
  { cls := 10, slots := #[.int (-46)], vm := .none },
  { cls := 10, slots := #[.int (-45)], vm := .none },
  { cls := 10, slots := #[.int (-44)], vm := .none },
  { cls := 10, slots := #[.int (-43)], vm := .none },
  { cls := 10, slots := #[.int (-42)], vm := .none },
  { cls := 10, slots := #[.int (-41)], vm := .none },
  { cls := 10, slots := #[.int (-40)], vm := .none },
  { cls := 10, slots := #[.int (-39)], vm := .none },
  { cls := 10, slots := #[.int (-38)], vm := .none },
  { cls := 10, slots := #[.int (-37)], vm := .none },
  { cls := 10, slots := #[.int (-36)], vm := .none },
  { cls := 10, slots := #[.int (-35)], vm := .none },
  { cls := 10, slots := #[.int (-34)], vm := .none },
  { cls := 10, slots := #[.int (-33)], vm := .none },
  { cls := 10, slots := #[.int (-32)], vm := .none },
  { cls := 10, slots := #[.int (-31)], vm := .none },
  { cls := 10, slots := #[.int (-30)], vm := .none },
  { cls := 10, slots := #[.int (-29)], vm := .none },
  { cls := 10, slots := #[.int (-28)], vm := .none },
  { cls := 10, slots := #[.int (-27)], vm := .none },
  { cls := 10, slots := #[.int (-26)], vm := .none },
  { cls := 10, slots := #[.int (-25)], vm := .none },
  { cls := 10, slots := #[.int (-24)], vm := .none },
  { cls := 10, slots := #[.int (-23)], vm := .none },
  { cls := 10, slots := #[.int (-22)], vm := .none },
  { cls := 10, slots := #[.int (-21)], vm := .none },
  { cls := 10, slots := #[.int (-20)], vm := .none },
  { cls := 10, slots := #[.int (-19)], vm := .none },
  { cls := 10, slots := #[.int (-18)], vm := .none },
  { cls := 10, slots := #[.int (-17)], vm := .none },
  { cls := 10, slots := #[.int (-16)], vm := .none },
  { cls := 10, slots := #[.int (-15)], vm := .none },
  { cls := 10, slots := #[.int (-14)], vm := .none },
  { cls := 10, slots := #[.int (-13)], vm := .none },
  { cls := 10, slots := #[.int (-12)], vm := .none },
  { cls := 10, slots := #[.int (-11)], vm := .none },
  { cls := 10, slots := #[.int (-10)], vm := .none },
  { cls := 10, slots := #[.int (-9)], vm := .none },
  { cls := 10, slots := #[.int (-8)], vm := .none },
  { cls := 10, slots := #[.int (-7)], vm := .none },
  { cls := 10, slots := #[.int (-6)], vm := .none },
  { cls := 10, slots := #[.int (-5)], vm := .none },
  { cls := 10, slots := #[.int (-4)], vm := .none },
  { cls := 10, slots := #[.int (-3)], vm := .none },
  { cls := 10, slots := #[.int (-2)], vm := .none },
  { cls := 10, slots := #[.int (-1)], vm := .none },
  { cls := 10, slots := #[.int (0)], vm := .none },
  { cls := 10, slots := #[.int (1)], vm := .none },
  { cls := 10, slots := #[.int (2)], vm := .none },
  { cls := 10, slots := #[.int (3)], vm := .none },
  { cls := 10, slots := #[.int (4)], vm := .none },
  { cls := 10, slots := #[.int (5)], vm := .none },
  { cls := 10, slots := #[.int (6)], vm := .none },
  { cls := 10, slots := #[.int (7)], vm := .none },
  { cls := 10, slots := #[.int (8)], vm := .none },
  { cls := 10, slots := #[.int (9)], vm := .none },
  { cls := 10, slots := #[.int (10)], vm := .none },
  { cls := 10, slots := #[.int (11)], vm := .none },
  { cls := 10, slots := #[.int (12)], vm := .none },
  { cls := 10, slots := #[.int (13)], vm := .none },
  { cls := 10, slots := #[.int (14)], vm := .none },
  { cls := 10, slots := #[.int (15)], vm := .none },
  { cls := 10, slots := #[.int (16)], vm := .none },
  { cls := 10, slots := #[.int (17)], vm := .none },
  { cls := 10, slots := #[.int (18)], vm := .none },
  { cls := 10, slots := #[.int (19)], vm := .none },
  { cls := 10, slots := #[.int (20)], vm := .none },
  { cls := 10, slots := #[.int (21)], vm := .none },
  { cls := 10, slots := #[.int (22)], vm := .none },
  { cls := 10, slots := #[.int (23)], vm := .none },
  { cls := 10, slots := #[.int (24)], vm := .none },
  { cls := 10, slots := #[.int (25)], vm := .none },
  { cls := 10, slots := #[.int (26)], vm := .none },
  { cls := 10, slots := #[.int (27)], vm := .none },
  { cls := 10, slots := #[.int (28)], vm := .none },
  { cls := 10, slots := #[.int (29)], vm := .none },
  { cls := 10, slots := #[.int (30)], vm := .none },
  { cls := 10, slots := #[.int (31)], vm := .none },
  { cls := 10, slots := #[.int (32)], vm := .none },
  { cls := 10, slots := #[.int (33)], vm := .none },
  { cls := 10, slots := #[.int (34)], vm := .none },
  { cls := 10, slots := #[.int (35)], vm := .none },
  { cls := 10, slots := #[.int (36)], vm := .none },
  { cls := 10, slots := #[.int (37)], vm := .none },
  { cls := 10, slots := #[.int (38)], vm := .none },
  { cls := 10, slots := #[.int (39)], vm := .none },
  { cls := 10, slots := #[.int (40)], vm := .none },
  { cls := 10, slots := #[.int (41)], vm := .none },
  { cls := 10, slots := #[.int (42)], vm := .none },
  { cls := 10, slots := #[.int (43)], vm := .none },
  { cls := 10, slots := #[.int (44)], vm := .none },
  { cls := 10, slots := #[.int (45)], vm := .none },
  { cls := 10, slots := #[.int (46)], vm := .none },
  { cls := 10, slots := #[.int (47)], vm := .none },
  { cls := 10, slots := #[.int (48)], vm := .none },
  { cls := 10, slots := #[.int (49)], vm := .none },
  { cls := 10, slots := #[.int (50)], vm := .none },
  { cls := 10, slots := #[.int (51)], vm := .none },
  { cls := 10, slots := #[.int (52)], vm := .none },
  { cls := 10, slots := #[.int (53)], vm := .none },
  { cls := 10, slots := #[.int (54)], vm := .none },
  { cls := 10, slots := #[.int (55)], vm := .none },
  { cls := 10, slots := #[.int (56)], vm := .none },
  { cls := 10, slots := #[.int (57)], vm := .none },
  { cls := 10, slots := #[.int (58)], vm := .none },
  { cls := 10, slots := #[.int (59)], vm := .none },
  { cls := 10, slots := #[.int (60)], vm := .none },
  { cls := 10, slots := #[.int (61)], vm := .none },
  { cls := 10, slots := #[.int (62)], vm := .none },
  { cls := 10, slots := #[.int (63)], vm := .none },
  { cls := 10, slots := #[.int (64)], vm := .none },
  { cls := 10, slots := #[.int (65)], vm := .none },
  { cls := 10, slots := #[.int (66)], vm := .none },
  { cls := 10, slots := #[.int (67)], vm := .none },
  { cls := 10, slots := #[.int (68)], vm := .none },
  { cls := 10, slots := #[.int (69)], vm := .none },
  { cls := 10, slots := #[.int (70)], vm := .none },
  { cls := 10, slots := #[.int (71)], vm := .none },
  { cls := 10, slots := #[.int (72)], vm := .none },
  { cls := 10, slots := #[.int (73)], vm := .none },
  { cls := 10, slots := #[.int (74)], vm := .none },
  { cls := 10, slots := #[.int (75)], vm := .none },
  { cls := 10, slots := #[.int (76)], vm := .none },
  { cls := 10, slots := #[.int (77)], vm := .none },
  { cls := 10, slots := #[.int (78)], vm := .none },
  { cls := 10, slots := #[.int (79)], vm := .none },
  { cls := 10, slots := #[.int (80)], vm := .none },
  { cls := 10, slots := #[.int (81)], vm := .none },
  { cls := 10, slots := #[.int (82)], vm := .none },
  { cls := 10, slots := #[.int (83)], vm := .none },
  { cls := 10, slots := #[.int (84)], vm := .none },
  { cls := 10, slots := #[.int (85)], vm := .none },
  { cls := 10, slots := #[.int (86)], vm := .none },
  { cls := 10, slots := #[.int (87)], vm := .none },
  { cls := 10, slots := #[.int (88)], vm := .none },
  { cls := 10, slots := #[.int (89)], vm := .none },
  { cls := 10, slots := #[.int (90)], vm := .none },
  { cls := 10, slots := #[.int (91)], vm := .none },
  { cls := 10, slots := #[.int (92)], vm := .none },
  { cls := 10, slots := #[.int (93)], vm := .none },
  { cls := 10, slots := #[.int (94)], vm := .none },
  { cls := 10, slots := #[.int (95)], vm := .none },
  { cls := 10, slots := #[.int (96)], vm := .none },
  { cls := 10, slots := #[.int (97)], vm := .none },
  { cls := 10, slots := #[.int (98)], vm := .none },
  { cls := 10, slots := #[.int (99)], vm := .none },
  { cls := 10, slots := #[.int (100)], vm := .none },
  { cls := 10, slots := #[.int (101)], vm := .none },
  { cls := 10, slots := #[.int (102)], vm := .none },
  { cls := 10, slots := #[.int (103)], vm := .none },
  { cls := 10, slots := #[.int (104)], vm := .none },
  { cls := 10, slots := #[.int (105)], vm := .none },
  { cls := 10, slots := #[.int (106)], vm := .none },
  { cls := 10, slots := #[.int (107)], vm := .none },
  { cls := 10, slots := #[.int (108)], vm := .none },
  { cls := 10, slots := #[.int (109)], vm := .none },
  { cls := 10, slots := #[.int (110)], vm := .none },
  { cls := 10, slots := #[.int (111)], vm := .none },
  { cls := 10, slots := #[.int (112)], vm := .none },
  { cls := 10, slots := #[.int (113)], vm := .none },
  { cls := 10, slots := #[.int (114)], vm := .none },
  { cls := 10, slots := #[.int (115)], vm := .none },
  { cls := 10, slots := #[.int (116)], vm := .none },
  { cls := 10, slots := #[.int (117)], vm := .none },
  { cls := 10, slots := #[.int (118)], vm := .none },
  { cls := 10, slots := #[.int (119)], vm := .none },
  { cls := 10, slots := #[.int (120)], vm := .none },
  { cls := 10, slots := #[.int (121)], vm := .none },
  { cls := 10, slots := #[.int (122)], vm := .none },
  { cls := 10, slots := #[.int (123)], vm := .none },
  { cls := 10, slots := #[.int (124)], vm := .none },
  { cls := 10, slots := #[.int (125)], vm := .none },
  { cls := 10, slots := #[.int (126)], vm := .none },
  { cls := 10, slots := #[.int (127)], vm := .none }]
def classes : Array Class := #[k0, k1, k2, k3, k4, k5, k6, k7, k8, k9, k10, k11, k12, k13, k14, k15, k16, k17]
def interned : List (Array UInt16 × Addr) := []
def slotsUsed : Nat := 517
def theMethod : MethodId := ⟨1, 1⟩
def args0 : Array Value := #[.int 5, .int 6, .int 1]
def aboutOver (below : List Frame) : State where
  vm := { classes := classes, interned := interned.toArray }
  heap := heap
  slotsUsed := slotsUsed
  threads := #[{ frames := .invoking theMethod args0 :: below }]
def below0 : List Frame := [.native { method := ⟨0, 0⟩, args := #[] }]
def about1 : State := aboutOver below0
def p0 : Program := .bare "" "" ""
def e0 : Env := launch0.env 0 0 0
theorem w_frames : about1.frames = Frame.invoking theMethod args0 :: below0 := rfl
set_option maxRecDepth 65536 in
theorem w_args : argsFit about1.vm theMethod args0 = true := by decide +kernel
set_option maxRecDepth 65536 in
theorem w_heap : heapFits about1 = true := by decide +kernel
set_option maxRecDepth 65536 in
theorem w_runnable : about1.curStatus? = some .runnable := by decide +kernel
set_option maxRecDepth 65536 in
theorem w_alone : about1.alone = true := by decide +kernel
set_option maxRecDepth 65536 in
theorem w_named : about1.methodNamed? x = some theMethod := by decide +kernel
set_option maxRecDepth 65536 in
theorem w_hears : about1.hears theMethod below0 = true := by decide +kernel
set_option maxRecDepth 65536 in
theorem w_ripe : about1.ripe theMethod args0 below0 = true := by decide +kernel
theorem w_running : about1.status = .running := rfl
set_option maxRecDepth 65536 in
theorem w_room : about1.hasRoom e0.platform room_1 = true :=
  launch0.hasRoom_least _ room_1 (by decide +kernel) (by decide +kernel) (by decide +kernel) (by decide +kernel) (by decide +kernel) (by decide +kernel)
theorem allAtoms_all (ts : List Jvm.Cond) (a : Array Jvm.Value) (st : Jvm.State) : (allAtoms ts).before a st = ts.all (fun c => c.before a st) := by
  induction ts with
  | nil => rfl
  | cons c t ih =>
    show (Jvm.Cond.and c (allAtoms t)).before a st = _
    rw [Jvm.Cond.before_and, ih, List.all_cons]
def words1 : List Jvm.Cond := Jvm.Cond.code x code maxLocals ret :: tables_1
/-- a 'code' word, met by the world's own term for the bytes: nothing is compared byte by byte -/
theorem code_word {y : MethodName} {bytes : ByteArray} {mx : Nat} {rt : Option FieldType} {a : Array Value} {s : State} {m : MethodId} {meth : Method} {c : Code} (h1 : s.methodNamed? y = some m) (h2 : s.vm.method? m = some meth) (h3 : meth.code = some c) (h4 : c.code = bytes)
    (h5 : (c.maxLocals == mx && c.exceptionTable.isEmpty && decide (c.maxStack ≤ mostOperands) && decide (meth.sig.returnType = rt) && !meth.locks && decide (parseMethodDescriptor y.desc = some meth.sig)) = true) : (Jvm.Cond.code y bytes mx rt).before a s = true := by
  simp only [Bool.and_eq_true, beq_iff_eq, Bool.not_eq_true', decide_eq_true_eq] at h5
  obtain ⟨⟨⟨⟨⟨g1, g2⟩, g3⟩, g4⟩, g5⟩, g6⟩ := h5
  simp [Cond.before, Cond.holds, Cond.value, h1, h2, h3, h4, g1, g2, g3, g4, g5, g6]
def isCode : Jvm.Cond → Bool
  | .code _ _ _ _ => true
  | _ => false
theorem all_split {L : List Jvm.Cond} {P : Jvm.Cond → Bool} (h1 : L.all (fun c => isCode c || P c) = true) (h2 : ∀ c ∈ L.filter isCode, P c = true) : L.all P = true := by
  refine List.all_eq_true.mpr fun c hc => ?_
  have h := List.all_eq_true.mp h1 c hc
  rcases Bool.eq_false_or_eq_true (isCode c) with hi | hi
  · exact h2 c (List.mem_filter.mpr ⟨hc, hi⟩)
  · simpa [hi] using h
set_option maxRecDepth 65536 in
theorem w_c0 : (Jvm.Cond.code x code maxLocals ret).before args0 about1 = true := code_word (m := ⟨1, 1⟩) (meth := k1m1) (c := k1c1) (by decide +kernel) rfl rfl rfl (by decide +kernel)
set_option maxRecDepth 65536 in
theorem w_c1 : (Jvm.Cond.code ({ cls := "com/example/mizan/mizan/Walk$Frame", name := "<init>", desc := "()V" } : Jvm.MethodName) prog_55_method_1_code (1 : Nat) (Option.none : Option Jvm.ClassFile.FieldType)).before args0 about1 = true := code_word (m := ⟨2, 0⟩) (meth := k2m0) (c := k2c0) (by decide +kernel) rfl rfl rfl (by decide +kernel)
set_option maxRecDepth 65536 in
theorem w_c2 : (Jvm.Cond.code ({ cls := "java/lang/Object", name := "<init>", desc := "()V" } : Jvm.MethodName) object_method_1_code (1 : Nat) (Option.none : Option Jvm.ClassFile.FieldType)).before args0 about1 = true := code_word (m := ⟨0, 0⟩) (meth := k0m0) (c := k0c0) (by decide +kernel) rfl rfl rfl (by decide +kernel)
set_option maxRecDepth 65536 in
theorem w_c3 : (Jvm.Cond.code ({ cls := "com/example/mizan/mizan/Composite", name := "resumes", desc := "(Lcom/example/mizan/mizan/Walk$Frame;)Z" } : Jvm.MethodName) prog_10_method_4_code (1 : Nat) (Option.some Jvm.ClassFile.FieldType.boolean)).before args0 about1 = true := code_word (m := ⟨4, 1⟩) (meth := k4m1) (c := k4c1) (by decide +kernel) rfl rfl rfl (by decide +kernel)
set_option maxRecDepth 65536 in
theorem w_c4 : (Jvm.Cond.code ({ cls := "java/lang/Integer", name := "valueOf", desc := "(I)Ljava/lang/Integer;" } : Jvm.MethodName) jdk_33_method_22_code (1 : Nat) (Option.some (Jvm.ClassFile.FieldType.object "java/lang/Integer"))).before args0 about1 = true := code_word (m := ⟨10, 0⟩) (meth := k10m0) (c := k10c0) (by decide +kernel) rfl rfl rfl (by decide +kernel)
set_option maxRecDepth 65536 in
theorem w_c5 : (Jvm.Cond.code ({ cls := "java/lang/Integer", name := "<init>", desc := "(I)V" } : Jvm.MethodName) jdk_33_method_23_code (2 : Nat) (Option.none : Option Jvm.ClassFile.FieldType)).before args0 about1 = true := code_word (m := ⟨10, 1⟩) (meth := k10m1) (c := k10c1) (by decide +kernel) rfl rfl rfl (by decide +kernel)
set_option maxRecDepth 65536 in
theorem w_c6 : (Jvm.Cond.code ({ cls := "java/lang/Number", name := "<init>", desc := "()V" } : Jvm.MethodName) jdk_18_method_1_code (1 : Nat) (Option.none : Option Jvm.ClassFile.FieldType)).before args0 about1 = true := code_word (m := ⟨6, 0⟩) (meth := k6m0) (c := k6c0) (by decide +kernel) rfl rfl rfl (by decide +kernel)
def codes1 : List Jvm.Cond := [Jvm.Cond.code x code maxLocals ret, Jvm.Cond.code ({ cls := "com/example/mizan/mizan/Walk$Frame", name := "<init>", desc := "()V" } : Jvm.MethodName) prog_55_method_1_code (1 : Nat) (Option.none : Option Jvm.ClassFile.FieldType), Jvm.Cond.code ({ cls := "java/lang/Object", name := "<init>", desc := "()V" } : Jvm.MethodName) object_method_1_code (1 : Nat) (Option.none : Option Jvm.ClassFile.FieldType), Jvm.Cond.code ({ cls := "com/example/mizan/mizan/Composite", name := "resumes", desc := "(Lcom/example/mizan/mizan/Walk$Frame;)Z" } : Jvm.MethodName) prog_10_method_4_code (1 : Nat) (Option.some Jvm.ClassFile.FieldType.boolean), Jvm.Cond.code ({ cls := "java/lang/Integer", name := "valueOf", desc := "(I)Ljava/lang/Integer;" } : Jvm.MethodName) jdk_33_method_22_code (1 : Nat) (Option.some (Jvm.ClassFile.FieldType.object "java/lang/Integer")), Jvm.Cond.code ({ cls := "java/lang/Integer", name := "<init>", desc := "(I)V" } : Jvm.MethodName) jdk_33_method_23_code (2 : Nat) (Option.none : Option Jvm.ClassFile.FieldType), Jvm.Cond.code ({ cls := "java/lang/Number", name := "<init>", desc := "()V" } : Jvm.MethodName) jdk_18_method_1_code (1 : Nat) (Option.none : Option Jvm.ClassFile.FieldType)]
set_option maxRecDepth 65536 in
theorem codes_eq : words1.filter isCode = codes1 := rfl
theorem w_codes : ∀ c ∈ words1.filter isCode, c.before args0 about1 = true := by
  rw [codes_eq]
  intro c hc
  simp only [codes1, List.mem_cons, List.not_mem_nil, or_false] at hc
  rcases hc with rfl | rfl | rfl | rfl | rfl | rfl | rfl
  · exact w_c0
  · exact w_c1
  · exact w_c2
  · exact w_c3
  · exact w_c4
  · exact w_c5
  · exact w_c6
set_option maxRecDepth 65536 in
theorem w_t1 : (words1.take 24).all (fun c => isCode c || c.before args0 about1) = true := by decide +kernel
set_option maxRecDepth 65536 in
theorem w_t2 : (words1.drop 24).all (fun c => isCode c || c.before args0 about1) = true := by decide +kernel
theorem w_tables : (allAtoms (Jvm.Cond.code x code maxLocals ret :: tables_1)).before args0 about1 = true := by
  rw [allAtoms_all]
  show words1.all (fun c => c.before args0 about1) = true
  refine all_split ?_ w_codes
  rw [← List.take_append_drop 24 words1, List.all_append, w_t1, w_t2]
  rfl
set_option maxRecDepth 65536 in
theorem w_rest : rest_1_c.before args0 about1 = true := by decide +kernel
set_option maxRecDepth 65536 in
theorem w_case : (Jvm.Cond.and given_1 narrow_1).before args0 about1 = true := by decide +kernel
theorem w_applies : (headSpec (Jvm.Cond.code x code maxLocals ret :: tables_1) room_1).applies x e0.platform about1 = true :=
  (Spec.applies_iff w_frames).mpr ⟨w_running, w_runnable, w_alone, w_named, w_hears, w_ripe, w_room, w_tables⟩
theorem atStart : AtStart classFile x code maxLocals ret World_1 tables_1 room_1 Calls_1 rest_1 Pre_1 launch0 p0 e0 about1 theMethod args0 below0 :=
  ⟨lists_1, trivial, launch0.admits_env _ _ _, launch0.least_env, fairChoices_fair.cas, fairChoices_fair.clock, w_frames, w_args, w_heap, w_applies, trivial, w_rest, w_case⟩
end start1
theorem witness_1 : WitnessClaimed_1 := ⟨start1.p0, start1.e0, start1.about1, start1.theMethod, start1.args0, start1.below0, start1.atStart⟩
end Jvm.Pilot.@@N@@
