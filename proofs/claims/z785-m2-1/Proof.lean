import JvmDerived
import JvmDerived.Pilot.@@N@@Statement
import JvmDerived.Pilot.@@N@@Code
set_option linter.unusedVariables false
set_option linter.unusedSimpArgs false
namespace Jvm.Pilot.@@N@@
open Jvm Jvm.ClassFile Sem Op Lib Jvm.Free Jvm.Stand Jvm.LawKit Jvm.RoadKit Bundle Jvm.Pilot.@@N@@.Jvm.D
section Own
variable {p : Program} {l : Launch} {e : Env} {R : Room} {s : State} {m : MethodId} {args : Array Value} {below : List Frame} {meth : Method} {c : Code} {T T' : State} {locs : List Loc} {cells slots : Nat} {F : State → Outcome → Prop} {g g' : JFrame} {Z : State} {a0 : Array Value} {h h0 : Heap}
/-- the run from T with g on top ends, and F holds of its end -/
def own_G (p : Program) (e : Env) (below : List Frame) (F : State → Outcome → Prop) (T : State) (g : JFrame) : Prop := ∃ t o, Steps p.tables e below (T.setTop g) t ∧ t.status = .running ∧ Ended t below o ∧ F t o
theorem own_st (h : ∀ t, Steps p.tables e below (T'.setTop g') t → Steps p.tables e below (T.setTop g) t) (k : own_G p e below F T' g') : own_G p e below F T g := by
  obtain ⟨t, o, h1, h2⟩ := k
  exact ⟨t, o, h t h1, h2⟩
theorem own_tr (h : Steps p.tables e below (T.setTop g) (T'.setTop g')) (k : own_G p e below F T' g') : own_G p e below F T g := own_st (fun _ q => h.trans q) k
def own_F (Q : Option Value → Heap → List Loc → Prop) (s : State) (k n : Nat) (t : State) (o : Outcome) : Prop := ∃ v L, o = .returned v ∧ Q v t.heap L ∧ FrameEnd s o t L k n
theorem own_ret {Q : Option Value → Heap → List Loc → Prop} {k n : Nat} {v : Option Value} (X : Stand p l e R s m args below meth c T locs cells slots) (hlk : meth.locks = false) (hv : meth.sig.returnType = none → v = none) (hq : Q v T.heap locs) (h1 : cells ≤ k) (h2 : slots ≤ n)
    (hs : ∀ fs, (∀ (f : JFrame) (acts : List Action), f.method = m → f.locked = none → f.entered = [] → (doReturn e (T.setTop f) acts v).1 = T.setFrames fs) → Steps p.tables e below (T.setTop g) (T.setFrames fs)) : own_G p e below (own_F Q s k n) T g := by
  obtain ⟨fs, hr, hrun, hended, hW, hsame⟩ := X.leave (v := v) hv hlk
  exact ⟨_, _, hs fs hr, hrun, hended, v, locs, rfl, hq, ⟨_, rfl⟩, hW, hsame.mono h1 h2⟩
theorem own_retI {Q : Option Value → Heap → List Loc → Prop} {k n pc : Nat} {Ls : Array Slot} {z : Int32} {rest : List Value} (X : Stand p l e R s m args below meth c T locs cells slots) (hx : p.tables.exec = Jvm.exec) (hlk : meth.locks = false) (hret : meth.sig.returnType = some .int) (hd : decode c.code pc = .ok (.ireturn, 1)) (h1 : cells ≤ k) (h2 : slots ≤ n) (hq : Q (some (.int z)) T.heap locs) :
    own_G p e below (own_F Q s k n) T (mkF m pc Ls (.int z :: rest)) :=
  own_ret X hlk (fun q => by rw [hret] at q; cases q) hq h1 h2 fun fs hr => retOut X hx hret rfl (Or.inl ⟨rfl, Or.inl rfl, _, rfl⟩) hd hr
theorem own_retB {Q : Option Value → Heap → List Loc → Prop} {k n pc : Nat} {Ls : Array Slot} {z w : Int32} {rest : List Value} (X : Stand p l e R s m args below meth c T locs cells slots) (hx : p.tables.exec = Jvm.exec) (hlk : meth.locks = false) (hret : meth.sig.returnType = some .boolean) (hd : decode c.code pc = .ok (.ireturn, 1)) (h1 : cells ≤ k) (h2 : slots ≤ n) (hz : nar .boolean z = w) (hq : Q (some (.int w)) T.heap locs) :
    own_G p e below (own_F Q s k n) T (mkF m pc Ls (.int z :: rest)) := by
  subst hz
  exact own_ret X hlk (fun q => by rw [hret] at q; cases q) hq h1 h2 fun fs hr => retN X hx (t := .boolean) hret (by simp) hd hr
theorem own_retR {Q : Option Value → Heap → List Loc → Prop} {k n pc : Nat} {Ls : Array Slot} {w : Value} {C : String} {rest : List Value} (X : Stand p l e R s m args below meth c T locs cells slots) (hx : p.tables.exec = Jvm.exec) (hlk : meth.locks = false) (hret : meth.sig.returnType = some (.object C)) (hd : decode c.code pc = .ok (.areturn, 1)) (h1 : cells ≤ k) (h2 : slots ≤ n) (hw : w.isRef = true) (hq : Q (some w) T.heap locs) :
    own_G p e below (own_F Q s k n) T (mkF m pc Ls (w :: rest)) :=
  own_ret X hlk (fun q => by rw [hret] at q; cases q) hq h1 h2 fun fs hr => retOut X hx hret rfl (Or.inr (Or.inr (Or.inr (Or.inr ⟨rfl, rfl, hw⟩)))) hd hr
theorem own_retA {Q : Option Value → Heap → List Loc → Prop} {k n pc : Nat} {Ls : Array Slot} {w : Value} {ty : FieldType} {rest : List Value} (X : Stand p l e R s m args below meth c T locs cells slots) (hx : p.tables.exec = Jvm.exec) (hlk : meth.locks = false) (hret : meth.sig.returnType = some (.array ty)) (hd : decode c.code pc = .ok (.areturn, 1)) (h1 : cells ≤ k) (h2 : slots ≤ n) (hw : w.isRef = true) (hq : Q (some w) T.heap locs) :
    own_G p e below (own_F Q s k n) T (mkF m pc Ls (w :: rest)) :=
  own_ret X hlk (fun q => by rw [hret] at q; cases q) hq h1 h2 fun fs hr => retOut X hx hret rfl (Or.inr (Or.inr (Or.inr (Or.inr ⟨rfl, rfl, hw⟩)))) hd hr
theorem own_retJ {Q : Option Value → Heap → List Loc → Prop} {k n pc : Nat} {Ls : Array Slot} {z : Int64} {rest : List Value} (X : Stand p l e R s m args below meth c T locs cells slots) (hx : p.tables.exec = Jvm.exec) (hlk : meth.locks = false) (hret : meth.sig.returnType = some .long) (hd : decode c.code pc = .ok (.lreturn, 1)) (h1 : cells ≤ k) (h2 : slots ≤ n) (hq : Q (some (.long z)) T.heap locs) :
    own_G p e below (own_F Q s k n) T (mkF m pc Ls (.long z :: rest)) :=
  own_ret X hlk (fun q => by rw [hret] at q; cases q) hq h1 h2 fun fs hr => retOut X hx hret rfl (Or.inr (Or.inl ⟨rfl, rfl, _, rfl⟩)) hd hr
theorem own_retV {Q : Option Value → Heap → List Loc → Prop} {k n pc : Nat} {Ls : Array Slot} (X : Stand p l e R s m args below meth c T locs cells slots) (hx : p.tables.exec = Jvm.exec) (hlk : meth.locks = false) (hret : meth.sig.returnType = none) (hd : decode c.code pc = .ok (.return_, 1)) (h1 : cells ≤ k) (h2 : slots ≤ n) (hq : Q none T.heap locs) :
    own_G p e below (own_F Q s k n) T (mkF m pc Ls []) :=
  own_ret X hlk (fun _ => rfl) hq h1 h2 fun fs hr => X.returnOut hx hret hd hr
/-- what a body promises at the heap h0 -/
abbrev own_C (l : Launch) (Z : State) (y : MethodName) (bytes : ByteArray) (ml : Nat) (rt : Option FieldType) (ws : List Jvm.Cond) (rm : Room) (as' : Array Value) (h0 : Heap) (Q : Option Value → Heap → List Loc → Prop) : Prop :=
  MetFree l y (head1 (Jvm.Cond.code y bytes ml rt :: ws) rm) (fun a U => a = as' ∧ Z.Warmed39 U.vm ∧ U.heap = h0) (fun _ _ _ _ _ => True) (fun _ U o U' => ∃ v L, o = .returned v ∧ Q v U'.heap L ∧ FrameEnd U o U' L rm.cells rm.slots)
theorem own_body {y : MethodName} {bytes : ByteArray} {ml : Nat} {rt : Option FieldType} {ws : List Jvm.Cond} {rm : Room} {as' : Array Value} {Q : Option Value → Heap → List Loc → Prop} (pn : plainFor y = true) {f0 : MethodId → JFrame} (hef : ∀ m, entryFrame m as' ml = f0 m)
    (body : ∀ (p : Program) (e : Env) (s : State) (m : MethodId) (below : List Frame) (meth : Method) (c : Code) (s₁ : State), p.tables.exec = Jvm.exec → c.code = bytes → c.maxLocals = ml → s.vm.findClass y.cls = some m.cls → meth.name = y.name → meth.sig.returnType = rt → meth.locks = false → Z.Warmed39 s.vm → Stand p l e rm s m as' below meth c s₁ [] 0 0 → s₁.heap = h0 →
      own_G p e below (own_F Q s rm.cells rm.slots) s₁ (f0 m)) : own_C l Z y bytes ml rt ws rm as' h0 Q := by
  refine MetFree.of_bodySF pn hisR ?_
  intro p e s m args below meth c s₁ Bd hml0 hP hK
  obtain ⟨rfl, hZ, hh⟩ := hP
  have e0 : s₁.heap = h0 := by rw [← hh, Bd.state]; rfl
  have hnm := (name_of_methodNamed Bd.named Bd.method).1
  have q := body p e s m below meth c s₁ Bd.exec Bd.bytes hml0 (findClass_of_methodNamed Bd.named) hnm Bd.returns Bd.notSynchronized hZ (Stand.of_body Bd) e0
  rw [← hef m] at q
  exact q
theorem own_callS {own : String} {index : Nat} {y : MethodName} {bytes : ByteArray} {ml : Nat} {rt : Option FieldType} {rm : Room} {Q : Option Value → Heap → List Loc → Prop} {argsL : List Value} (W : Nat) (rest : List Value)
    (C : own_C l Z y bytes ml rt [] rm argsL.toArray h Q) (X : Stand p l e R s m args below meth c T locs cells slots) (hx : p.tables.exec = Jvm.exec) (hZ : Z.Warmed39 s.vm) (hown : s.vm.findClass own = some m.cls)
    (w1 : (Jvm.Cond.methodLink own index y).before a0 Z = true) (w2 : (Jvm.Cond.static y).before a0 Z = true) (w3 : (Jvm.Cond.initialized y.cls).before a0 Z = true) (w4 : (Jvm.Cond.code y bytes ml rt).before a0 Z = true) (hy : y.cls ≠ "java/lang/invoke/MethodHandle" ∧ y.cls ≠ "java/lang/invoke/VarHandle")
    (hf : rm.frames + 1 ≤ R.frames) (hlo : W + (ml + 11) + rm.locals ≤ R.locals) (hc : cells + rm.cells ≤ R.cells) (hsl : slots + rm.slots ≤ R.slots) (eT : T.heap = h)
    (hg : g.method = m) (hsize : g.locals.size = c.maxLocals) (hlen : ∀ sig, parseMethodDescriptor y.desc = some sig → argsL.length = sig.parameters.length) (hstack : g.stack = argsL.reverse ++ rest) (hW : 2 * g.monitorRoom + (rest.map fun v => v.category).sum ≤ W)
    (hd : decode c.code g.pc = .ok (.invokestatic index, 3)) :
    ∃ v T' L, Q v T'.heap L ∧ Stand p l e R s m args below meth c T' (locs ++ L) (cells + rm.cells) (slots + rm.slots) ∧ ∀ t, Steps p.tables e below (T'.setTop { g with pc := g.pc + 3, stack := v.toList ++ rest }) t → Steps p.tables e below (T.setTop g) t := by
  obtain ⟨v, _, ⟨T4, L4, k4, n4⟩, -, X4, ⟨Lc4, hQ4, l4, y4, z4⟩, st4⟩ := Jvm.LawKit.callS X hx (y := y) hown (mvT hZ w1) (mvT hZ w2) (mvT hZ w3) (mvT hZ w4) hy (backOf (W := W) C hZ w4 w3 hf hlo) hg hsize hlen hstack hW hd (fun _ _ => ⟨rfl, eT, hc, hsl⟩)
  dsimp only [Pt.U, Pt.locs, Pt.cells, Pt.slots] at X4 l4 y4 z4 st4 hQ4
  subst l4 y4 z4
  exact ⟨v, T4, Lc4, hQ4, X4, st4⟩
theorem own_callV {own : String} {index : Nat} {y z : MethodName} {bytes : ByteArray} {ml : Nat} {rt : Option FieldType} {rm : Room} {Q : Option Value → Heap → List Loc → Prop} {b : Addr} {argsL : List Value} (W : Nat) (rest : List Value) {K : String}
    (C : own_C l Z z bytes ml rt [] rm (.ref b :: argsL).toArray h Q) (X : Stand p l e R s m args below meth c T locs cells slots) (hx : p.tables.exec = Jvm.exec) (hZ : Z.Warmed39 s.vm) (hown : s.vm.findClass own = some m.cls)
    (w1 : (Jvm.Cond.methodLink own index y).before a0 Z = true) (w2 : (Jvm.Cond.declares y).before a0 Z = true) (hnf : NotFace s y) (w3 : (Jvm.Cond.selects K y z).before a0 Z = true) (w5 : (Jvm.Cond.instanceMethod z).before a0 Z = true) (w4 : (Jvm.Cond.code z bytes ml rt).before a0 Z = true) (w6 : (Jvm.Cond.initialized z.cls).before a0 Z = true) (hy : y.cls ≠ "java/lang/invoke/MethodHandle" ∧ y.cls ≠ "java/lang/invoke/VarHandle")
    (hf : rm.frames + 1 ≤ R.frames) (hlo : W + (ml + 11) + rm.locals ≤ R.locals) (hc : cells + rm.cells ≤ R.cells) (hsl : slots + rm.slots ≤ R.slots) (eT : T.heap = h) (E : Exa Z h b K)
    (hg : g.method = m) (hsize : g.locals.size = c.maxLocals) (hlen : ∀ sig, parseMethodDescriptor y.desc = some sig → argsL.length = sig.parameters.length) (hstack : g.stack = argsL.reverse ++ .ref b :: rest) (hW : 2 * g.monitorRoom + (rest.map fun v => v.category).sum ≤ W)
    (hd : decode c.code g.pc = .ok (.invokevirtual index, 3)) :
    ∃ v T' L, Q v T'.heap L ∧ Stand p l e R s m args below meth c T' (locs ++ L) (cells + rm.cells) (slots + rm.slots) ∧ ∀ t, Steps p.tables e below (T'.setTop { g with pc := g.pc + 3, stack := v.toList ++ rest }) t → Steps p.tables e below (T.setTop g) t := by
  obtain ⟨cq4, kq4, q4a, q4b, q4c⟩ := isOf hZ eT E
  obtain ⟨v, _, ⟨T4, L4, k4, n4⟩, -, X4, ⟨Lc4, hQ4, l4, y4, z4⟩, st4⟩ := X.virtualBack hx (y := y) (z := z) hown (mvT hZ w1) (mvT hZ w2) hnf (mvT hZ w3) (mvT hZ w5) hy (backOf (W := W) C hZ w4 w6 hf hlo) q4a q4c hg hsize (Steps.refl _) hlen hstack hW hd (fun _ _ => ⟨rfl, eT, hc, hsl⟩)
  dsimp only [Pt.U, Pt.locs, Pt.cells, Pt.slots] at X4 l4 y4 z4 st4 hQ4
  subst l4 y4 z4
  exact ⟨v, T4, Lc4, hQ4, X4, fun t k => st4.trans k⟩
theorem own_callI {own : String} {index : Nat} {y : MethodName} {bytes : ByteArray} {ml : Nat} {rm : Room} {Q : Option Value → Heap → List Loc → Prop} {b : Addr} {argsL : List Value} (W : Nat) (rest : List Value)
    (C : own_C l Z y bytes ml none [] rm (.ref b :: argsL).toArray h Q) (X : Stand p l e R s m args below meth c T locs cells slots) (hx : p.tables.exec = Jvm.exec) (hZ : Z.Warmed39 s.vm) (hown : s.vm.findClass own = some m.cls) (hy1 : y.name = "<init>")
    (w1 : (Jvm.Cond.methodLink own index y).before a0 Z = true) (w5 : (Jvm.Cond.instanceMethod y).before a0 Z = true) (w4 : (Jvm.Cond.code y bytes ml none).before a0 Z = true) (w6 : (Jvm.Cond.initialized y.cls).before a0 Z = true) (hy : y.cls ≠ "java/lang/invoke/MethodHandle" ∧ y.cls ≠ "java/lang/invoke/VarHandle")
    (hf : rm.frames + 1 ≤ R.frames) (hlo : W + (ml + 11) + rm.locals ≤ R.locals) (hc : cells + rm.cells ≤ R.cells) (hsl : slots + rm.slots ≤ R.slots) (eT : T.heap = h)
    (hg : g.method = m) (hsize : g.locals.size = c.maxLocals) (hlen : ∀ sig, parseMethodDescriptor y.desc = some sig → argsL.length = sig.parameters.length) (hstack : g.stack = argsL.reverse ++ .ref b :: rest) (hW : 2 * g.monitorRoom + (rest.map fun v => v.category).sum ≤ W)
    (hd : decode c.code g.pc = .ok (.invokespecial index, 3)) :
    ∃ v T' L, Q v T'.heap L ∧ Stand p l e R s m args below meth c T' (locs ++ L) (cells + rm.cells) (slots + rm.slots) ∧ ∀ t, Steps p.tables e below (T'.setTop { g with pc := g.pc + 3, stack := v.toList ++ rest }) t → Steps p.tables e below (T.setTop g) t := by
  obtain ⟨v, _, ⟨T4, L4, k4, n4⟩, -, X4, ⟨Lc4, hQ4, l4, y4, z4⟩, st4⟩ := X.specialBack hx (y := y) hy1 hown (mvT hZ w1) (mvT hZ w5) (mvT hZ w4) hy (backOf (W := W) C hZ w4 w6 hf hlo) hg hsize (Steps.refl _) (a := b) hlen hstack hW hd (fun _ _ => ⟨rfl, eT, hc, hsl⟩)
  dsimp only [Pt.U, Pt.locs, Pt.cells, Pt.slots] at X4 l4 y4 z4 st4 hQ4
  subst l4 y4 z4
  exact ⟨v, T4, Lc4, hQ4, X4, fun t k => st4.trans k⟩
theorem own_sta {C n d K : String} {args : Array Value} (hx : (Jvm.Cond.exactly (Term.static C n d) K).value args Z none Z [] = some true) (hi : (Jvm.Cond.initialized C).before args Z = true) (hl : (Jvm.Cond.laysStatic C n d).before args Z = true) :
    ∃ a, (Term.static C n d).eval args Z none [] Z = some (.ref a) ∧ Sta Z Z.heap C n d (.ref a) ∧ Exa Z Z.heap a K := by
  obtain ⟨a', c', cell, k, e1, -⟩ := Cond.exactly_spec (Cond.before_iff.mpr hx)
  exact ⟨a', e1, Sta.start e1 (Or.inr ⟨hi, hl⟩), Exa.start e1 hx⟩
theorem own_fld {args : Array Value} {t : Term} {a : Addr} {C n d : String} {z : Int32} (ev : t.eval args Z none [] Z = some (.ref a)) (hx : (Jvm.Cond.eq (Term.field t C n d) (Term.int z)).value args Z none Z [] = some true) : Fld Z Z.heap a C n d (.int z) := by
  apply Fld.start
  cases hf : Z.fieldOf? a C n d with
  | none => simp [Cond.value, Term.eval, ev, hf] at hx
  | some v => cases v <;> simp [Cond.value, Term.eval, ev, hf] at hx ⊢; exact hx
/-- a body that writes nothing: it returns r -/
def own_P (r : Value) (h0 : Heap) (v : Option Value) (h : Heap) (L : List Loc) : Prop := v = some r ∧ h = h0 ∧ L = []
theorem own_ite {q : Prop} [Decidable q] {x y : Addr} {K : String} (h1 : Exa Z h x K) (h2 : Exa Z h y K) : Exa Z h (if q then x else y) K := by split <;> assumption
theorem own_or {q : Prop} [Decidable q] {r x y : α} (h : r = if q then x else y) : r = x ∨ r = y := by rw [h]; split <;> simp
theorem own_bit (x : Int32) : x &&& 1 = 0 ∨ x &&& 1 = 1 := by
  have h1 : (x &&& 1).toBitVec = x.toBitVec &&& 1#32 := rfl
  have h2 : (x.toBitVec &&& 1#32).toNat = x.toBitVec.toNat % 2 := by rw [BitVec.toNat_and]; exact Nat.and_two_pow_sub_one_eq_mod _ 1
  rcases Nat.mod_two_eq_zero_or_one x.toBitVec.toNat with h | h
  · left; apply Int32.toBitVec_inj.mp; apply BitVec.eq_of_toNat_eq; rw [h1, h2, h]; rfl
  · right; apply Int32.toBitVec_inj.mp; apply BitVec.eq_of_toNat_eq; rw [h1, h2, h]; rfl
theorem own_plain {a : Addr} {C : String} (E : Exa Z h a C) : ∀ cell : Cell, h[a]? = some cell → cell.vm.isStatics = false := fun cell hc => by
  obtain ⟨c1, _, h1, -, -, h4, -⟩ := E
  cases h1.symm.trans hc; exact h4
theorem own_sta_keep {h' : Heap} {ws : List Addr} {C n d : String} {v : Value} (F : Sta Z h C n d v) (K : Keep h h' ws) (q : ∀ x ∈ ws, ∀ cell : Cell, h'[x]? = some cell → cell.vm.isStatics = false) : Sta Z h' C n d v := by
  obtain ⟨cf, i, k, f, st, cell, h1, h2, h3, h4, h5, h6, h7⟩ := F
  refine ⟨cf, i, k, f, st, cell, h1, h2, h3, h4, K.2.1 st cell h5 (fun m => ?_), h6, h7⟩
  obtain ⟨c', e1, -, e3, -⟩ := K.2.2 st cell h5
  have := q st m c' e1
  rw [e3, h6] at this; cases this
theorem own_ext {h' : Heap} (K : Keep h h' []) : Ext h h' := ⟨K.1, fun a c q => K.2.1 a c q nin0⟩
theorem own_keep {h' : Heap} (E : Ext h h') : Keep h h' [] := (Keep.refl h []).ext E
/-- a body that returns nothing and writes nothing -/
def own_V (h0 : Heap) (v : Option Value) (h : Heap) (L : List Loc) : Prop := v = none ∧ h = h0 ∧ L = []
theorem own_nar {z : Int32} (h : z = 0 ∨ z = 1) : nar .boolean z = z := by rcases h with rfl | rfl <;> rfl
theorem own_01 {q : Prop} [Decidable q] {x y : Int32} (h1 : x = 0 ∨ x = 1) (h2 : y = 0 ∨ y = 1) : (if q then x else y) = 0 ∨ (if q then x else y) = 1 := by split <;> assumption
end Own
def own_pick (b i32 i64 f d t : Addr) (p : Int32) : Addr := if p = 0 then b else if p = 1 then i32 else if p = 2 then i64 else if p = 3 then f else if p = 4 then d else t
def own_is2 (i32 i64 a : Addr) : Int32 := if a = i32 then 1 else if a = i64 then 1 else 0
theorem own_law {b i32 i64 f d t : Addr} {p : Int32} (n1 : f ≠ b) (n2 : f ≠ i32) (n3 : f ≠ i64) (n4 : f ≠ d) (n5 : f ≠ t) (n6 : d ≠ b) (n7 : d ≠ i32) (n8 : d ≠ i64) (n9 : d ≠ t) :
    own_is2 f d (own_pick b i32 i64 f d t p) = if p = 3 then 1 else if p = 4 then 1 else 0 := by
  unfold own_is2 own_pick
  by_cases h0 : p = 0
  · subst h0; simp [n1.symm, n6.symm]
  by_cases h1 : p = 1
  · subst h1; simp [n2.symm, n7.symm]
  by_cases h2 : p = 2
  · subst h2; simp [n3.symm, n8.symm]
  by_cases h3 : p = 3
  · subst h3; simp
  by_cases h4 : p = 4
  · subst h4; simp
  · simp [h0, h1, h2, h3, h4, n5.symm, n9.symm]
theorem own_law2 {i32 i64 f d a : Addr} (n2 : f ≠ i32) (n3 : f ≠ i64) (n7 : d ≠ i32) (n8 : d ≠ i64) (h : ¬ own_is2 f d a = 0) : own_is2 i32 i64 a = 0 := by
  unfold own_is2 at h ⊢
  by_cases h1 : a = f
  · subst h1; simp [n2, n3]
  by_cases h2 : a = d
  · subst h2; simp [n7, n8]
  · simp [h1, h2] at h
theorem own_pick_all {P : Addr → Prop} {b i32 i64 f d t : Addr} {p : Int32} (h1 : P b) (h2 : P i32) (h3 : P i64) (h4 : P f) (h5 : P d) (h6 : P t) : P (own_pick b i32 i64 f d t p) := by
  unfold own_pick; repeat' (first | assumption | split)
theorem own_pd0 : parseMethodDescriptor "(I)Lcom/example/seriate/seriate/DataType;" = some ⟨[.int], some (.object "com/example/seriate/seriate/DataType")⟩ := by decide +kernel
theorem own_pd1 : parseMethodDescriptor "()Z" = some ⟨[], some .boolean⟩ := by decide +kernel
theorem own_d1_0 : decode method_2_code 0 = .ok (.iload_n 0, 1) := by decide +kernel
theorem own_d1_1 : decode method_2_code 1 = .ok (.ifCond .ne 7, 3) := by decide +kernel
theorem own_d1_4 : decode method_2_code 4 = .ok (.getstatic 7, 3) := by decide +kernel
theorem own_d1_7 : decode method_2_code 7 = .ok (.areturn, 1) := by decide +kernel
theorem own_d1_8 : decode method_2_code 8 = .ok (.iload_n 0, 1) := by decide +kernel
theorem own_d1_9 : decode method_2_code 9 = .ok (.iconst 1, 1) := by decide +kernel
theorem own_d1_10 : decode method_2_code 10 = .ok (.if_icmp .ne 7, 3) := by decide +kernel
theorem own_d1_13 : decode method_2_code 13 = .ok (.getstatic 13, 3) := by decide +kernel
theorem own_d1_16 : decode method_2_code 16 = .ok (.areturn, 1) := by decide +kernel
theorem own_d1_17 : decode method_2_code 17 = .ok (.iload_n 0, 1) := by decide +kernel
theorem own_d1_18 : decode method_2_code 18 = .ok (.iconst 2, 1) := by decide +kernel
theorem own_d1_19 : decode method_2_code 19 = .ok (.if_icmp .ne 7, 3) := by decide +kernel
theorem own_d1_22 : decode method_2_code 22 = .ok (.getstatic 16, 3) := by decide +kernel
theorem own_d1_25 : decode method_2_code 25 = .ok (.areturn, 1) := by decide +kernel
theorem own_d1_26 : decode method_2_code 26 = .ok (.iload_n 0, 1) := by decide +kernel
theorem own_d1_27 : decode method_2_code 27 = .ok (.iconst 3, 1) := by decide +kernel
theorem own_d1_28 : decode method_2_code 28 = .ok (.if_icmp .ne 7, 3) := by decide +kernel
theorem own_d1_31 : decode method_2_code 31 = .ok (.getstatic 19, 3) := by decide +kernel
theorem own_d1_34 : decode method_2_code 34 = .ok (.areturn, 1) := by decide +kernel
theorem own_d1_35 : decode method_2_code 35 = .ok (.iload_n 0, 1) := by decide +kernel
theorem own_d1_36 : decode method_2_code 36 = .ok (.iconst 4, 1) := by decide +kernel
theorem own_d1_37 : decode method_2_code 37 = .ok (.if_icmp .ne 7, 3) := by decide +kernel
theorem own_d1_40 : decode method_2_code 40 = .ok (.getstatic 22, 3) := by decide +kernel
theorem own_d1_43 : decode method_2_code 43 = .ok (.areturn, 1) := by decide +kernel
theorem own_d1_44 : decode method_2_code 44 = .ok (.getstatic 25, 3) := by decide +kernel
theorem own_d1_47 : decode method_2_code 47 = .ok (.areturn, 1) := by decide +kernel
theorem own_pn1 : plainFor (⟨"com/example/seriate/seriate/DataTypeIsFloatingPointPinLaw", "pick", "(I)Lcom/example/seriate/seriate/DataType;"⟩ : MethodName) = true := plainFor_of_name (show plainName "com/example/seriate/seriate/DataTypeIsFloatingPointPinLaw" = true by first | (simp [plainName, overriddenIn]; done) | decide +kernel)
theorem own_ef1 (m : MethodId) (p1 : Int32) : entryFrame m #[(.int p1)] 1 = (mkF m 0 #[.val (.int p1)] []) := by first | (simp [entryFrame, mkF, argsToLocals, Value.category]; done) | rfl
set_option maxRecDepth 65536 in
set_option maxHeartbeats 40000000 in
theorem own_rm1 (l : Launch) (Z : State) (a0 : Array Value) (hw : ∀ d ∈ tables_1, d.before a0 Z = true) (h0 : Heap) (s_BOOLEAN : Addr) (s_FLOAT : Addr) (s_DOUBLE : Addr) (s_INT32 : Addr) (s_INT64 : Addr) (s_TEXT : Addr) (S_BOOLEAN : Sta Z h0 "com/example/seriate/seriate/DataType" "BOOLEAN" "Lcom/example/seriate/seriate/DataType;" (.ref s_BOOLEAN)) (S_FLOAT : Sta Z h0 "com/example/seriate/seriate/DataType" "FLOAT" "Lcom/example/seriate/seriate/DataType;" (.ref s_FLOAT)) (S_DOUBLE : Sta Z h0 "com/example/seriate/seriate/DataType" "DOUBLE" "Lcom/example/seriate/seriate/DataType;" (.ref s_DOUBLE)) (S_INT32 : Sta Z h0 "com/example/seriate/seriate/DataType" "INT32" "Lcom/example/seriate/seriate/DataType;" (.ref s_INT32)) (S_INT64 : Sta Z h0 "com/example/seriate/seriate/DataType" "INT64" "Lcom/example/seriate/seriate/DataType;" (.ref s_INT64)) (S_TEXT : Sta Z h0 "com/example/seriate/seriate/DataType" "TEXT" "Lcom/example/seriate/seriate/DataType;" (.ref s_TEXT)) (E_BOOLEAN : Exa Z h0 s_BOOLEAN "com/example/seriate/seriate/DataType") (E_FLOAT : Exa Z h0 s_FLOAT "com/example/seriate/seriate/DataType") (E_DOUBLE : Exa Z h0 s_DOUBLE "com/example/seriate/seriate/DataType") (E_INT32 : Exa Z h0 s_INT32 "com/example/seriate/seriate/DataType") (E_INT64 : Exa Z h0 s_INT64 "com/example/seriate/seriate/DataType") (E_TEXT : Exa Z h0 s_TEXT "com/example/seriate/seriate/DataType") (p1 : Int32)  (r : Addr) (hr : r = own_pick s_BOOLEAN s_INT32 s_INT64 s_FLOAT s_DOUBLE s_TEXT p1) :
    own_C l Z (⟨"com/example/seriate/seriate/DataTypeIsFloatingPointPinLaw", "pick", "(I)Lcom/example/seriate/seriate/DataType;"⟩ : MethodName) method_2_code 1 (some (.object "com/example/seriate/seriate/DataType")) [] ({ frames := 0, cells := 0, slots := 0, locals := 0 } : Room) #[(.int p1)] h0 (own_P (.ref r) h0) := by
  refine own_body own_pn1 (f0 := fun m => (mkF m 0 #[.val (.int p1)] [])) (fun m => own_ef1 m p1) ?_
  intro p e s m below meth c s₁ hx hby hml hown hnm hret hlk hZ X0 e0
  change own_G p e below (own_F (own_P (.ref r) h0) s 0 0) s₁ (mkF m 0 #[.val (.int p1)] [])
  refine own_st (T' := s₁) (g' := (mkF m 1 #[.val (.int p1)] [(.int p1)])) (fun t k => XS.iloadN X0.here hx rfl (hb hby own_d1_0) rfl k) ?_
  by_cases hc1_1 : p1 = (0 : Int32)
  ·
    refine own_st (T' := s₁) (g' := (mkF m 4 #[.val (.int p1)] [])) (fun t k => XS.ifNo X0.here hx rfl (hb hby own_d1_1) rfl ((if0 _ _).trans (teq hc1_1).2) k) ?_
    obtain ⟨T2, X2, e2, st2⟩ := getS2 X0 hx hZ hown (host := "") (Or.inl (hw _ (List.mem_of_getElem? (i := 5) rfl))) Via.refl e0 S_BOOLEAN (g := (mkF m 4 #[.val (.int p1)] [])) rfl (hb hby own_d1_4)
    refine own_st (T' := T2) (g' := (mkF m 7 #[.val (.int p1)] [(.ref s_BOOLEAN)])) st2 ?_
    exact own_retR X2 hx hlk hret (hb hby own_d1_7) (by decide) (by decide) rfl ⟨by rw [hr]; simp [own_pick, hc1_1], e2, rfl⟩
  ·
    refine own_st (T' := s₁) (g' := (mkF m 8 #[.val (.int p1)] [])) (fun t k => XS.ifYes X0.here hx rfl (pc0 := 1) (pc' := 8) rfl (hb hby own_d1_1) rfl ((if0 _ _).trans (feq hc1_1).2) (by decide) (by decide) k) ?_
    refine own_st (T' := s₁) (g' := (mkF m 9 #[.val (.int p1)] [(.int p1)])) (fun t k => XS.iloadN X0.here hx rfl (hb hby own_d1_8) rfl k) ?_
    refine own_st (T' := s₁) (g' := (mkF m 10 #[.val (.int p1)] [(.int (1 : Int32)), (.int p1)])) (fun t k => XS.iconst X0.here hx rfl (hb hby own_d1_9) k) ?_
    by_cases hc10_3 : p1 = (1 : Int32)
    ·
      refine own_st (T' := s₁) (g' := (mkF m 13 #[.val (.int p1)] [])) (fun t k => XS.icmpNo X0.here hx rfl (hb hby own_d1_10) rfl (teq hc10_3).2 k) ?_
      obtain ⟨T4, X4, e4, st4⟩ := getS2 X0 hx hZ hown (host := "") (Or.inl (hw _ (List.mem_of_getElem? (i := 28) rfl))) Via.refl e0 S_INT32 (g := (mkF m 13 #[.val (.int p1)] [])) rfl (hb hby own_d1_13)
      refine own_st (T' := T4) (g' := (mkF m 16 #[.val (.int p1)] [(.ref s_INT32)])) st4 ?_
      exact own_retR X4 hx hlk hret (hb hby own_d1_16) (by decide) (by decide) rfl ⟨by rw [hr]; simp [own_pick, hc1_1, hc10_3], e4, rfl⟩
    ·
      refine own_st (T' := s₁) (g' := (mkF m 17 #[.val (.int p1)] [])) (fun t k => XS.icmpYes X0.here hx rfl (pc0 := 10) (pc' := 17) rfl (hb hby own_d1_10) rfl (feq hc10_3).2 (by decide) (by decide) k) ?_
      refine own_st (T' := s₁) (g' := (mkF m 18 #[.val (.int p1)] [(.int p1)])) (fun t k => XS.iloadN X0.here hx rfl (hb hby own_d1_17) rfl k) ?_
      refine own_st (T' := s₁) (g' := (mkF m 19 #[.val (.int p1)] [(.int (2 : Int32)), (.int p1)])) (fun t k => XS.iconst X0.here hx rfl (hb hby own_d1_18) k) ?_
      by_cases hc19_5 : p1 = (2 : Int32)
      ·
        refine own_st (T' := s₁) (g' := (mkF m 22 #[.val (.int p1)] [])) (fun t k => XS.icmpNo X0.here hx rfl (hb hby own_d1_19) rfl (teq hc19_5).2 k) ?_
        obtain ⟨T6, X6, e6, st6⟩ := getS2 X0 hx hZ hown (host := "") (Or.inl (hw _ (List.mem_of_getElem? (i := 27) rfl))) Via.refl e0 S_INT64 (g := (mkF m 22 #[.val (.int p1)] [])) rfl (hb hby own_d1_22)
        refine own_st (T' := T6) (g' := (mkF m 25 #[.val (.int p1)] [(.ref s_INT64)])) st6 ?_
        exact own_retR X6 hx hlk hret (hb hby own_d1_25) (by decide) (by decide) rfl ⟨by rw [hr]; simp [own_pick, hc1_1, hc10_3, hc19_5], e6, rfl⟩
      ·
        refine own_st (T' := s₁) (g' := (mkF m 26 #[.val (.int p1)] [])) (fun t k => XS.icmpYes X0.here hx rfl (pc0 := 19) (pc' := 26) rfl (hb hby own_d1_19) rfl (feq hc19_5).2 (by decide) (by decide) k) ?_
        refine own_st (T' := s₁) (g' := (mkF m 27 #[.val (.int p1)] [(.int p1)])) (fun t k => XS.iloadN X0.here hx rfl (hb hby own_d1_26) rfl k) ?_
        refine own_st (T' := s₁) (g' := (mkF m 28 #[.val (.int p1)] [(.int (3 : Int32)), (.int p1)])) (fun t k => XS.iconst X0.here hx rfl (hb hby own_d1_27) k) ?_
        by_cases hc28_7 : p1 = (3 : Int32)
        ·
          refine own_st (T' := s₁) (g' := (mkF m 31 #[.val (.int p1)] [])) (fun t k => XS.icmpNo X0.here hx rfl (hb hby own_d1_28) rfl (teq hc28_7).2 k) ?_
          obtain ⟨T8, X8, e8, st8⟩ := getS2 X0 hx hZ hown (host := "") (Or.inl (hw _ (List.mem_of_getElem? (i := 17) rfl))) Via.refl e0 S_FLOAT (g := (mkF m 31 #[.val (.int p1)] [])) rfl (hb hby own_d1_31)
          refine own_st (T' := T8) (g' := (mkF m 34 #[.val (.int p1)] [(.ref s_FLOAT)])) st8 ?_
          exact own_retR X8 hx hlk hret (hb hby own_d1_34) (by decide) (by decide) rfl ⟨by rw [hr]; simp [own_pick, hc1_1, hc10_3, hc19_5, hc28_7], e8, rfl⟩
        ·
          refine own_st (T' := s₁) (g' := (mkF m 35 #[.val (.int p1)] [])) (fun t k => XS.icmpYes X0.here hx rfl (pc0 := 28) (pc' := 35) rfl (hb hby own_d1_28) rfl (feq hc28_7).2 (by decide) (by decide) k) ?_
          refine own_st (T' := s₁) (g' := (mkF m 36 #[.val (.int p1)] [(.int p1)])) (fun t k => XS.iloadN X0.here hx rfl (hb hby own_d1_35) rfl k) ?_
          refine own_st (T' := s₁) (g' := (mkF m 37 #[.val (.int p1)] [(.int (4 : Int32)), (.int p1)])) (fun t k => XS.iconst X0.here hx rfl (hb hby own_d1_36) k) ?_
          by_cases hc37_9 : p1 = (4 : Int32)
          ·
            refine own_st (T' := s₁) (g' := (mkF m 40 #[.val (.int p1)] [])) (fun t k => XS.icmpNo X0.here hx rfl (hb hby own_d1_37) rfl (teq hc37_9).2 k) ?_
            obtain ⟨T10, X10, e10, st10⟩ := getS2 X0 hx hZ hown (host := "") (Or.inl (hw _ (List.mem_of_getElem? (i := 31) rfl))) Via.refl e0 S_DOUBLE (g := (mkF m 40 #[.val (.int p1)] [])) rfl (hb hby own_d1_40)
            refine own_st (T' := T10) (g' := (mkF m 43 #[.val (.int p1)] [(.ref s_DOUBLE)])) st10 ?_
            exact own_retR X10 hx hlk hret (hb hby own_d1_43) (by decide) (by decide) rfl ⟨by rw [hr]; simp [own_pick, hc1_1, hc10_3, hc19_5, hc28_7, hc37_9], e10, rfl⟩
          ·
            refine own_st (T' := s₁) (g' := (mkF m 44 #[.val (.int p1)] [])) (fun t k => XS.icmpYes X0.here hx rfl (pc0 := 37) (pc' := 44) rfl (hb hby own_d1_37) rfl (feq hc37_9).2 (by decide) (by decide) k) ?_
            obtain ⟨T11, X11, e11, st11⟩ := getS2 X0 hx hZ hown (host := "") (Or.inl (hw _ (List.mem_of_getElem? (i := 29) rfl))) Via.refl e0 S_TEXT (g := (mkF m 44 #[.val (.int p1)] [])) rfl (hb hby own_d1_44)
            refine own_st (T' := T11) (g' := (mkF m 47 #[.val (.int p1)] [(.ref s_TEXT)])) st11 ?_
            exact own_retR X11 hx hlk hret (hb hby own_d1_47) (by decide) (by decide) rfl ⟨by rw [hr]; simp [own_pick, hc1_1, hc10_3, hc19_5, hc28_7, hc37_9], e11, rfl⟩
theorem own_d2_0 : decode prog_8_method_6_code 0 = .ok (.aload_n 0, 1) := by decide +kernel
theorem own_d2_1 : decode prog_8_method_6_code 1 = .ok (.getstatic 13, 3) := by decide +kernel
theorem own_d2_4 : decode prog_8_method_6_code 4 = .ok (.if_acmp .eq 10, 3) := by decide +kernel
theorem own_d2_7 : decode prog_8_method_6_code 7 = .ok (.aload_n 0, 1) := by decide +kernel
theorem own_d2_8 : decode prog_8_method_6_code 8 = .ok (.getstatic 16, 3) := by decide +kernel
theorem own_d2_11 : decode prog_8_method_6_code 11 = .ok (.if_acmp .ne 7, 3) := by decide +kernel
theorem own_d2_14 : decode prog_8_method_6_code 14 = .ok (.iconst 1, 1) := by decide +kernel
theorem own_d2_15 : decode prog_8_method_6_code 15 = .ok (.goto 4, 3) := by decide +kernel
theorem own_d2_18 : decode prog_8_method_6_code 18 = .ok (.iconst 0, 1) := by decide +kernel
theorem own_d2_19 : decode prog_8_method_6_code 19 = .ok (.ireturn, 1) := by decide +kernel
theorem own_pn2 : plainFor (⟨"com/example/seriate/seriate/DataType", "isFloatingPoint", "()Z"⟩ : MethodName) = true := plainFor_of_name (show plainName "com/example/seriate/seriate/DataType" = true by first | (simp [plainName, overriddenIn]; done) | decide +kernel)
theorem own_ef2 (m : MethodId) (a1 : Addr) : entryFrame m #[(.ref a1)] 1 = (mkF m 0 #[.val (.ref a1)] []) := by first | (simp [entryFrame, mkF, argsToLocals, Value.category]; done) | rfl
set_option maxRecDepth 65536 in
set_option maxHeartbeats 40000000 in
theorem own_rm2 (l : Launch) (Z : State) (a0 : Array Value) (hw : ∀ d ∈ tables_1, d.before a0 Z = true) (h0 : Heap) (s_BOOLEAN : Addr) (s_FLOAT : Addr) (s_DOUBLE : Addr) (s_INT32 : Addr) (s_INT64 : Addr) (s_TEXT : Addr) (S_BOOLEAN : Sta Z h0 "com/example/seriate/seriate/DataType" "BOOLEAN" "Lcom/example/seriate/seriate/DataType;" (.ref s_BOOLEAN)) (S_FLOAT : Sta Z h0 "com/example/seriate/seriate/DataType" "FLOAT" "Lcom/example/seriate/seriate/DataType;" (.ref s_FLOAT)) (S_DOUBLE : Sta Z h0 "com/example/seriate/seriate/DataType" "DOUBLE" "Lcom/example/seriate/seriate/DataType;" (.ref s_DOUBLE)) (S_INT32 : Sta Z h0 "com/example/seriate/seriate/DataType" "INT32" "Lcom/example/seriate/seriate/DataType;" (.ref s_INT32)) (S_INT64 : Sta Z h0 "com/example/seriate/seriate/DataType" "INT64" "Lcom/example/seriate/seriate/DataType;" (.ref s_INT64)) (S_TEXT : Sta Z h0 "com/example/seriate/seriate/DataType" "TEXT" "Lcom/example/seriate/seriate/DataType;" (.ref s_TEXT)) (E_BOOLEAN : Exa Z h0 s_BOOLEAN "com/example/seriate/seriate/DataType") (E_FLOAT : Exa Z h0 s_FLOAT "com/example/seriate/seriate/DataType") (E_DOUBLE : Exa Z h0 s_DOUBLE "com/example/seriate/seriate/DataType") (E_INT32 : Exa Z h0 s_INT32 "com/example/seriate/seriate/DataType") (E_INT64 : Exa Z h0 s_INT64 "com/example/seriate/seriate/DataType") (E_TEXT : Exa Z h0 s_TEXT "com/example/seriate/seriate/DataType") (a1 : Addr)  (r : Int32) (hr : r = own_is2 s_FLOAT s_DOUBLE a1) :
    own_C l Z (⟨"com/example/seriate/seriate/DataType", "isFloatingPoint", "()Z"⟩ : MethodName) prog_8_method_6_code 1 (some .boolean) [] ({ frames := 0, cells := 0, slots := 0, locals := 0 } : Room) #[(.ref a1)] h0 (own_P (.int r) h0) := by
  refine own_body own_pn2 (f0 := fun m => (mkF m 0 #[.val (.ref a1)] [])) (fun m => own_ef2 m a1) ?_
  intro p e s m below meth c s₁ hx hby hml hown hnm hret hlk hZ X0 e0
  change own_G p e below (own_F (own_P (.int r) h0) s 0 0) s₁ (mkF m 0 #[.val (.ref a1)] [])
  refine own_st (T' := s₁) (g' := (mkF m 1 #[.val (.ref a1)] [(.ref a1)])) (fun t k => XS.aloadN X0.here hx rfl (hb hby own_d2_0) rfl rfl k) ?_
  obtain ⟨T1, X1, e1, st1⟩ := getS2 X0 hx hZ hown (host := "") (Or.inl (hw _ (List.mem_of_getElem? (i := 13) rfl))) Via.refl e0 S_FLOAT (g := (mkF m 1 #[.val (.ref a1)] [(.ref a1)])) rfl (hb hby own_d2_1)
  refine own_st (T' := T1) (g' := (mkF m 4 #[.val (.ref a1)] [(.ref s_FLOAT), (.ref a1)])) st1 ?_
  have K3 : ∀ (T3 : State) (X3 : Stand p l e ({ frames := 0, cells := 0, slots := 0, locals := 0 } : Room) s m #[(.ref a1)] below meth c T3 [] 0 0) (e3 : T3.heap = h0) (v4 : Int32) (hv4 : v4 = (if a1 = s_FLOAT then (1 : Int32) else (if a1 = s_DOUBLE then (1 : Int32) else (0 : Int32)))), own_G p e below (own_F (own_P (.int r) h0) s 0 0) T3 (mkF m 19 #[.val (.ref a1)] [(.int v4)]) := by
    intro T3 X3 e3 v4 hv4
    exact own_retB X3 hx hlk hret (hb hby own_d2_19) (by decide) (by decide) (own_nar (by rw [hv4]; exact (own_01 (Or.inr rfl) (own_01 (Or.inr rfl) (Or.inl rfl))))) ⟨by rw [hr]; simp [own_is2, hv4], e3, rfl⟩
  by_cases hc4_2 : a1 = s_FLOAT
  ·
    refine own_st (T' := T1) (g' := (mkF m 14 #[.val (.ref a1)] [])) (fun t k => Jvm.RoadKit.acmp (g := (mkF m 4 #[.val (.ref a1)] [(.ref s_FLOAT), (.ref a1)])) X1 hx rfl rfl rfl (pc0 := 4) (pc' := 14) (same := true) rfl (hb hby own_d2_4) rfl (decide_eq_true (congrArg Value.ref hc4_2)) (by decide) (by decide) k) ?_
    refine own_st (T' := T1) (g' := (mkF m 15 #[.val (.ref a1)] [(.int (1 : Int32))])) (fun t k => XS.iconst X1.here hx rfl (hb hby own_d2_14) k) ?_
    refine own_st (T' := T1) (g' := (mkF m 19 #[.val (.ref a1)] [(.int (1 : Int32))])) (fun t k => XS.goto X1.here hx rfl (pc0 := 15) (pc' := 19) rfl (hb hby own_d2_15) (by decide) (by decide) k) ?_
    exact K3 T1 X1 e1 _ (if_pos hc4_2).symm
  ·
    refine own_st (T' := T1) (g' := (mkF m 7 #[.val (.ref a1)] [])) (fun t k => Jvm.RoadKit.acmp (g := (mkF m 4 #[.val (.ref a1)] [(.ref s_FLOAT), (.ref a1)])) X1 hx rfl rfl rfl (pc0 := 4) (pc' := 7) (same := false) rfl (hb hby own_d2_4) rfl (decide_eq_false fun z => hc4_2 (Value.ref.inj z)) (by decide) (by decide) k) ?_
    refine own_st (T' := T1) (g' := (mkF m 8 #[.val (.ref a1)] [(.ref a1)])) (fun t k => XS.aloadN X1.here hx rfl (hb hby own_d2_7) rfl rfl k) ?_
    obtain ⟨T5, X5, e5, st5⟩ := getS2 X1 hx hZ hown (host := "") (Or.inl (hw _ (List.mem_of_getElem? (i := 15) rfl))) Via.refl e1 S_DOUBLE (g := (mkF m 8 #[.val (.ref a1)] [(.ref a1)])) rfl (hb hby own_d2_8)
    refine own_st (T' := T5) (g' := (mkF m 11 #[.val (.ref a1)] [(.ref s_DOUBLE), (.ref a1)])) st5 ?_
    by_cases hc11_6 : a1 = s_DOUBLE
    ·
      refine own_st (T' := T5) (g' := (mkF m 14 #[.val (.ref a1)] [])) (fun t k => Jvm.RoadKit.acmp (g := (mkF m 11 #[.val (.ref a1)] [(.ref s_DOUBLE), (.ref a1)])) X5 hx rfl rfl rfl (pc0 := 11) (pc' := 14) (same := true) rfl (hb hby own_d2_11) rfl (decide_eq_true (congrArg Value.ref hc11_6)) (by decide) (by decide) k) ?_
      refine own_st (T' := T5) (g' := (mkF m 15 #[.val (.ref a1)] [(.int (1 : Int32))])) (fun t k => XS.iconst X5.here hx rfl (hb hby own_d2_14) k) ?_
      refine own_st (T' := T5) (g' := (mkF m 19 #[.val (.ref a1)] [(.int (1 : Int32))])) (fun t k => XS.goto X5.here hx rfl (pc0 := 15) (pc' := 19) rfl (hb hby own_d2_15) (by decide) (by decide) k) ?_
      exact K3 T5 X5 e5 _ ((if_neg hc4_2).trans (if_pos hc11_6)).symm
    ·
      refine own_st (T' := T5) (g' := (mkF m 18 #[.val (.ref a1)] [])) (fun t k => Jvm.RoadKit.acmp (g := (mkF m 11 #[.val (.ref a1)] [(.ref s_DOUBLE), (.ref a1)])) X5 hx rfl rfl rfl (pc0 := 11) (pc' := 18) (same := false) rfl (hb hby own_d2_11) rfl (decide_eq_false fun z => hc11_6 (Value.ref.inj z)) (by decide) (by decide) k) ?_
      refine own_st (T' := T5) (g' := (mkF m 19 #[.val (.ref a1)] [(.int (0 : Int32))])) (fun t k => XS.iconst X5.here hx rfl (hb hby own_d2_18) k) ?_
      exact K3 T5 X5 e5 _ ((if_neg hc4_2).trans (if_neg hc11_6)).symm
theorem own_d3_0 : decode prog_8_method_5_code 0 = .ok (.aload_n 0, 1) := by decide +kernel
theorem own_d3_1 : decode prog_8_method_5_code 1 = .ok (.getstatic 7, 3) := by decide +kernel
theorem own_d3_4 : decode prog_8_method_5_code 4 = .ok (.if_acmp .eq 10, 3) := by decide +kernel
theorem own_d3_7 : decode prog_8_method_5_code 7 = .ok (.aload_n 0, 1) := by decide +kernel
theorem own_d3_8 : decode prog_8_method_5_code 8 = .ok (.getstatic 10, 3) := by decide +kernel
theorem own_d3_11 : decode prog_8_method_5_code 11 = .ok (.if_acmp .ne 7, 3) := by decide +kernel
theorem own_d3_14 : decode prog_8_method_5_code 14 = .ok (.iconst 1, 1) := by decide +kernel
theorem own_d3_15 : decode prog_8_method_5_code 15 = .ok (.goto 4, 3) := by decide +kernel
theorem own_d3_18 : decode prog_8_method_5_code 18 = .ok (.iconst 0, 1) := by decide +kernel
theorem own_d3_19 : decode prog_8_method_5_code 19 = .ok (.ireturn, 1) := by decide +kernel
theorem own_pn3 : plainFor (⟨"com/example/seriate/seriate/DataType", "isInteger", "()Z"⟩ : MethodName) = true := plainFor_of_name (show plainName "com/example/seriate/seriate/DataType" = true by first | (simp [plainName, overriddenIn]; done) | decide +kernel)
theorem own_ef3 (m : MethodId) (a1 : Addr) : entryFrame m #[(.ref a1)] 1 = (mkF m 0 #[.val (.ref a1)] []) := by first | (simp [entryFrame, mkF, argsToLocals, Value.category]; done) | rfl
set_option maxRecDepth 65536 in
set_option maxHeartbeats 40000000 in
theorem own_rm3 (l : Launch) (Z : State) (a0 : Array Value) (hw : ∀ d ∈ tables_1, d.before a0 Z = true) (h0 : Heap) (s_BOOLEAN : Addr) (s_FLOAT : Addr) (s_DOUBLE : Addr) (s_INT32 : Addr) (s_INT64 : Addr) (s_TEXT : Addr) (S_BOOLEAN : Sta Z h0 "com/example/seriate/seriate/DataType" "BOOLEAN" "Lcom/example/seriate/seriate/DataType;" (.ref s_BOOLEAN)) (S_FLOAT : Sta Z h0 "com/example/seriate/seriate/DataType" "FLOAT" "Lcom/example/seriate/seriate/DataType;" (.ref s_FLOAT)) (S_DOUBLE : Sta Z h0 "com/example/seriate/seriate/DataType" "DOUBLE" "Lcom/example/seriate/seriate/DataType;" (.ref s_DOUBLE)) (S_INT32 : Sta Z h0 "com/example/seriate/seriate/DataType" "INT32" "Lcom/example/seriate/seriate/DataType;" (.ref s_INT32)) (S_INT64 : Sta Z h0 "com/example/seriate/seriate/DataType" "INT64" "Lcom/example/seriate/seriate/DataType;" (.ref s_INT64)) (S_TEXT : Sta Z h0 "com/example/seriate/seriate/DataType" "TEXT" "Lcom/example/seriate/seriate/DataType;" (.ref s_TEXT)) (E_BOOLEAN : Exa Z h0 s_BOOLEAN "com/example/seriate/seriate/DataType") (E_FLOAT : Exa Z h0 s_FLOAT "com/example/seriate/seriate/DataType") (E_DOUBLE : Exa Z h0 s_DOUBLE "com/example/seriate/seriate/DataType") (E_INT32 : Exa Z h0 s_INT32 "com/example/seriate/seriate/DataType") (E_INT64 : Exa Z h0 s_INT64 "com/example/seriate/seriate/DataType") (E_TEXT : Exa Z h0 s_TEXT "com/example/seriate/seriate/DataType") (a1 : Addr)  (r : Int32) (hr : r = own_is2 s_INT32 s_INT64 a1) :
    own_C l Z (⟨"com/example/seriate/seriate/DataType", "isInteger", "()Z"⟩ : MethodName) prog_8_method_5_code 1 (some .boolean) [] ({ frames := 0, cells := 0, slots := 0, locals := 0 } : Room) #[(.ref a1)] h0 (own_P (.int r) h0) := by
  refine own_body own_pn3 (f0 := fun m => (mkF m 0 #[.val (.ref a1)] [])) (fun m => own_ef3 m a1) ?_
  intro p e s m below meth c s₁ hx hby hml hown hnm hret hlk hZ X0 e0
  change own_G p e below (own_F (own_P (.int r) h0) s 0 0) s₁ (mkF m 0 #[.val (.ref a1)] [])
  refine own_st (T' := s₁) (g' := (mkF m 1 #[.val (.ref a1)] [(.ref a1)])) (fun t k => XS.aloadN X0.here hx rfl (hb hby own_d3_0) rfl rfl k) ?_
  obtain ⟨T1, X1, e1, st1⟩ := getS2 X0 hx hZ hown (host := "") (Or.inl (hw _ (List.mem_of_getElem? (i := 23) rfl))) Via.refl e0 S_INT32 (g := (mkF m 1 #[.val (.ref a1)] [(.ref a1)])) rfl (hb hby own_d3_1)
  refine own_st (T' := T1) (g' := (mkF m 4 #[.val (.ref a1)] [(.ref s_INT32), (.ref a1)])) st1 ?_
  have K3 : ∀ (T3 : State) (X3 : Stand p l e ({ frames := 0, cells := 0, slots := 0, locals := 0 } : Room) s m #[(.ref a1)] below meth c T3 [] 0 0) (e3 : T3.heap = h0) (v4 : Int32) (hv4 : v4 = (if a1 = s_INT32 then (1 : Int32) else (if a1 = s_INT64 then (1 : Int32) else (0 : Int32)))), own_G p e below (own_F (own_P (.int r) h0) s 0 0) T3 (mkF m 19 #[.val (.ref a1)] [(.int v4)]) := by
    intro T3 X3 e3 v4 hv4
    exact own_retB X3 hx hlk hret (hb hby own_d3_19) (by decide) (by decide) (own_nar (by rw [hv4]; exact (own_01 (Or.inr rfl) (own_01 (Or.inr rfl) (Or.inl rfl))))) ⟨by rw [hr]; simp [own_is2, hv4], e3, rfl⟩
  by_cases hc4_2 : a1 = s_INT32
  ·
    refine own_st (T' := T1) (g' := (mkF m 14 #[.val (.ref a1)] [])) (fun t k => Jvm.RoadKit.acmp (g := (mkF m 4 #[.val (.ref a1)] [(.ref s_INT32), (.ref a1)])) X1 hx rfl rfl rfl (pc0 := 4) (pc' := 14) (same := true) rfl (hb hby own_d3_4) rfl (decide_eq_true (congrArg Value.ref hc4_2)) (by decide) (by decide) k) ?_
    refine own_st (T' := T1) (g' := (mkF m 15 #[.val (.ref a1)] [(.int (1 : Int32))])) (fun t k => XS.iconst X1.here hx rfl (hb hby own_d3_14) k) ?_
    refine own_st (T' := T1) (g' := (mkF m 19 #[.val (.ref a1)] [(.int (1 : Int32))])) (fun t k => XS.goto X1.here hx rfl (pc0 := 15) (pc' := 19) rfl (hb hby own_d3_15) (by decide) (by decide) k) ?_
    exact K3 T1 X1 e1 _ (if_pos hc4_2).symm
  ·
    refine own_st (T' := T1) (g' := (mkF m 7 #[.val (.ref a1)] [])) (fun t k => Jvm.RoadKit.acmp (g := (mkF m 4 #[.val (.ref a1)] [(.ref s_INT32), (.ref a1)])) X1 hx rfl rfl rfl (pc0 := 4) (pc' := 7) (same := false) rfl (hb hby own_d3_4) rfl (decide_eq_false fun z => hc4_2 (Value.ref.inj z)) (by decide) (by decide) k) ?_
    refine own_st (T' := T1) (g' := (mkF m 8 #[.val (.ref a1)] [(.ref a1)])) (fun t k => XS.aloadN X1.here hx rfl (hb hby own_d3_7) rfl rfl k) ?_
    obtain ⟨T5, X5, e5, st5⟩ := getS2 X1 hx hZ hown (host := "") (Or.inl (hw _ (List.mem_of_getElem? (i := 25) rfl))) Via.refl e1 S_INT64 (g := (mkF m 8 #[.val (.ref a1)] [(.ref a1)])) rfl (hb hby own_d3_8)
    refine own_st (T' := T5) (g' := (mkF m 11 #[.val (.ref a1)] [(.ref s_INT64), (.ref a1)])) st5 ?_
    by_cases hc11_6 : a1 = s_INT64
    ·
      refine own_st (T' := T5) (g' := (mkF m 14 #[.val (.ref a1)] [])) (fun t k => Jvm.RoadKit.acmp (g := (mkF m 11 #[.val (.ref a1)] [(.ref s_INT64), (.ref a1)])) X5 hx rfl rfl rfl (pc0 := 11) (pc' := 14) (same := true) rfl (hb hby own_d3_11) rfl (decide_eq_true (congrArg Value.ref hc11_6)) (by decide) (by decide) k) ?_
      refine own_st (T' := T5) (g' := (mkF m 15 #[.val (.ref a1)] [(.int (1 : Int32))])) (fun t k => XS.iconst X5.here hx rfl (hb hby own_d3_14) k) ?_
      refine own_st (T' := T5) (g' := (mkF m 19 #[.val (.ref a1)] [(.int (1 : Int32))])) (fun t k => XS.goto X5.here hx rfl (pc0 := 15) (pc' := 19) rfl (hb hby own_d3_15) (by decide) (by decide) k) ?_
      exact K3 T5 X5 e5 _ ((if_neg hc4_2).trans (if_pos hc11_6)).symm
    ·
      refine own_st (T' := T5) (g' := (mkF m 18 #[.val (.ref a1)] [])) (fun t k => Jvm.RoadKit.acmp (g := (mkF m 11 #[.val (.ref a1)] [(.ref s_INT64), (.ref a1)])) X5 hx rfl rfl rfl (pc0 := 11) (pc' := 18) (same := false) rfl (hb hby own_d3_11) rfl (decide_eq_false fun z => hc11_6 (Value.ref.inj z)) (by decide) (by decide) k) ?_
      refine own_st (T' := T5) (g' := (mkF m 19 #[.val (.ref a1)] [(.int (0 : Int32))])) (fun t k => XS.iconst X5.here hx rfl (hb hby own_d3_18) k) ?_
      exact K3 T5 X5 e5 _ ((if_neg hc4_2).trans (if_neg hc11_6)).symm
theorem own_pn0 : plainFor x = true := plainFor_of_name (show plainName "com/example/seriate/seriate/DataTypeIsFloatingPointPinLaw" = true by first | (simp [plainName, overriddenIn]; done) | decide +kernel)
theorem own_ef0 (m : MethodId) (p1 : Int32) : entryFrame m #[(.int p1)] maxLocals = (mkF m 0 #[.val (.int p1), .unset, .unset, .unset, .unset] []) := by first | (simp [entryFrame, mkF, argsToLocals, Value.category, maxLocals]; done) | rfl
set_option maxRecDepth 65536 in
set_option maxHeartbeats 40000000 in
theorem own_rm0 (l : Launch) (Z : State) (a0 : Array Value) (hw : ∀ d ∈ tables_1, d.before a0 Z = true) (h0 : Heap) (s_BOOLEAN : Addr) (s_FLOAT : Addr) (s_DOUBLE : Addr) (s_INT32 : Addr) (s_INT64 : Addr) (s_TEXT : Addr) (S_BOOLEAN : Sta Z h0 "com/example/seriate/seriate/DataType" "BOOLEAN" "Lcom/example/seriate/seriate/DataType;" (.ref s_BOOLEAN)) (S_FLOAT : Sta Z h0 "com/example/seriate/seriate/DataType" "FLOAT" "Lcom/example/seriate/seriate/DataType;" (.ref s_FLOAT)) (S_DOUBLE : Sta Z h0 "com/example/seriate/seriate/DataType" "DOUBLE" "Lcom/example/seriate/seriate/DataType;" (.ref s_DOUBLE)) (S_INT32 : Sta Z h0 "com/example/seriate/seriate/DataType" "INT32" "Lcom/example/seriate/seriate/DataType;" (.ref s_INT32)) (S_INT64 : Sta Z h0 "com/example/seriate/seriate/DataType" "INT64" "Lcom/example/seriate/seriate/DataType;" (.ref s_INT64)) (S_TEXT : Sta Z h0 "com/example/seriate/seriate/DataType" "TEXT" "Lcom/example/seriate/seriate/DataType;" (.ref s_TEXT)) (E_BOOLEAN : Exa Z h0 s_BOOLEAN "com/example/seriate/seriate/DataType") (E_FLOAT : Exa Z h0 s_FLOAT "com/example/seriate/seriate/DataType") (E_DOUBLE : Exa Z h0 s_DOUBLE "com/example/seriate/seriate/DataType") (E_INT32 : Exa Z h0 s_INT32 "com/example/seriate/seriate/DataType") (E_INT64 : Exa Z h0 s_INT64 "com/example/seriate/seriate/DataType") (E_TEXT : Exa Z h0 s_TEXT "com/example/seriate/seriate/DataType") (p1 : Int32) (ne_FLOAT_BOOLEAN : s_FLOAT ≠ s_BOOLEAN) (ne_FLOAT_INT32 : s_FLOAT ≠ s_INT32) (ne_FLOAT_INT64 : s_FLOAT ≠ s_INT64) (ne_FLOAT_DOUBLE : s_FLOAT ≠ s_DOUBLE) (ne_FLOAT_TEXT : s_FLOAT ≠ s_TEXT) (ne_DOUBLE_BOOLEAN : s_DOUBLE ≠ s_BOOLEAN) (ne_DOUBLE_INT32 : s_DOUBLE ≠ s_INT32) (ne_DOUBLE_INT64 : s_DOUBLE ≠ s_INT64) (ne_DOUBLE_TEXT : s_DOUBLE ≠ s_TEXT) :
    own_C l Z x code maxLocals ret tables_1 room_1 #[(.int p1)] h0 (own_P (.int 1) h0) := by
  refine own_body own_pn0 (f0 := fun m => (mkF m 0 #[.val (.int p1), .unset, .unset, .unset, .unset] [])) (fun m => own_ef0 m p1) ?_
  intro p e s m below meth c s₁ hx hby hml hown hnm hret hlk hZ X0 e0
  change own_G p e below (own_F (own_P (.int 1) h0) s room_1.cells room_1.slots) s₁ (mkF m 0 #[.val (.int p1), .unset, .unset, .unset, .unset] [])
  refine own_st (T' := s₁) (g' := (mkF m 1 #[.val (.int p1), .unset, .unset, .unset, .unset] [(.int p1)])) (fun t k => XS.iloadN X0.here hx rfl (hb hby at_0) rfl k) ?_
  refine own_st (T' := s₁) (g' := (mkF m 3 #[.val (.int p1), .unset, .unset, .unset, .unset] [(.int (2147483647 : Int32)), (.int p1)])) (X0.ldcInt hx hown (mvT hZ (hw _ (List.mem_of_getElem? (i := 0) rfl))) (g := (mkF m 1 #[.val (.int p1), .unset, .unset, .unset, .unset] [(.int p1)])) rfl (hb hby at_1)) ?_
  refine own_st (T' := s₁) (g' := (mkF m 4 #[.val (.int p1), .unset, .unset, .unset, .unset] [(.int (p1 &&& (2147483647 : Int32)))])) (fun t k => XS.iand X0.here hx rfl (hb hby at_3) rfl k) ?_
  refine own_st (T' := s₁) (g' := (mkF m 6 #[.val (.int p1), .unset, .unset, .unset, .unset] [(.int (6 : Int32)), (.int (p1 &&& (2147483647 : Int32)))])) (fun t k => XS.bipush X0.here hx rfl (hb hby at_4) k) ?_
  refine own_st (T' := s₁) (g' := (mkF m 7 #[.val (.int p1), .unset, .unset, .unset, .unset] [(.int ((p1 &&& (2147483647 : Int32)) % (6 : Int32)))])) (fun t k => iremM (g := (mkF m 6 #[.val (.int p1), .unset, .unset, .unset, .unset] [(.int (6 : Int32)), (.int (p1 &&& (2147483647 : Int32)))])) X0 hx rfl (hb hby at_6) rfl (by decide) k) ?_
  refine own_st (T' := s₁) (g' := (mkF m 8 #[.val (.int p1), .val (.int ((p1 &&& (2147483647 : Int32)) % (6 : Int32))), .unset, .unset, .unset] [])) (fun t k => XS.istoreN X0.here hx rfl (hb hby at_7) rfl (l' := #[.val (.int p1), .val (.int ((p1 &&& (2147483647 : Int32)) % (6 : Int32))), .unset, .unset, .unset]) rfl k) ?_
  refine own_st (T' := s₁) (g' := (mkF m 9 #[.val (.int p1), .val (.int ((p1 &&& (2147483647 : Int32)) % (6 : Int32))), .unset, .unset, .unset] [(.int ((p1 &&& (2147483647 : Int32)) % (6 : Int32)))])) (fun t k => XS.iloadN X0.here hx rfl (hb hby at_8) rfl k) ?_
  obtain ⟨r1, hr1⟩ : ∃ z, z = own_pick s_BOOLEAN s_INT32 s_INT64 s_FLOAT s_DOUBLE s_TEXT ((p1 &&& (2147483647 : Int32)) % (6 : Int32)) := ⟨_, rfl⟩
  obtain ⟨_, T1, L1, hQ1, X1, st1⟩ := own_callS (y := (⟨"com/example/seriate/seriate/DataTypeIsFloatingPointPinLaw", "pick", "(I)Lcom/example/seriate/seriate/DataType;"⟩ : MethodName)) (argsL := [(.int ((p1 &&& (2147483647 : Int32)) % (6 : Int32)))]) 0 [] (own_rm1 l Z a0 hw h0 s_BOOLEAN s_FLOAT s_DOUBLE s_INT32 s_INT64 s_TEXT S_BOOLEAN S_FLOAT S_DOUBLE S_INT32 S_INT64 S_TEXT E_BOOLEAN E_FLOAT E_DOUBLE E_INT32 E_INT64 E_TEXT ((p1 &&& (2147483647 : Int32)) % (6 : Int32))  _ hr1) X0 hx hZ hown (hw _ (List.mem_of_getElem? (i := 1) rfl)) (hw _ (List.mem_of_getElem? (i := 2) rfl)) (hw _ (List.mem_of_getElem? (i := 3) rfl)) (hw _ (List.mem_of_getElem? (i := 4) rfl)) (by decide) (by decide) (by decide) (by decide) (by decide) e0 (g := (mkF m 9 #[.val (.int p1), .val (.int ((p1 &&& (2147483647 : Int32)) % (6 : Int32))), .unset, .unset, .unset] [(.int ((p1 &&& (2147483647 : Int32)) % (6 : Int32)))])) rfl (by rw [hml]; rfl) (lenOf own_pd0 rfl) rfl (by show 2 * 0 + _ ≤ _; exact Nat.le_of_eq rfl) (hb hby at_9)
  obtain ⟨rfl, e1, rfl⟩ := hQ1
  have X1 : Stand p l e room_1 s m #[(.int p1)] below meth c T1 [] 0 0 := X1
  refine own_st (T' := T1) (g' := (mkF m 12 #[.val (.int p1), .val (.int ((p1 &&& (2147483647 : Int32)) % (6 : Int32))), .unset, .unset, .unset] [(.ref r1)])) st1 ?_
  have E_r1 : Exa Z h0 r1 "com/example/seriate/seriate/DataType" := by rw [hr1]; exact own_pick_all (P := fun q => Exa Z h0 q "com/example/seriate/seriate/DataType") E_BOOLEAN E_INT32 E_INT64 E_FLOAT E_DOUBLE E_TEXT
  refine own_st (T' := T1) (g' := (mkF m 13 #[.val (.int p1), .val (.int ((p1 &&& (2147483647 : Int32)) % (6 : Int32))), .val (.ref r1), .unset, .unset] [])) (fun t k => XS.astoreN X1.here hx rfl (hb hby at_12) rfl rfl (l' := #[.val (.int p1), .val (.int ((p1 &&& (2147483647 : Int32)) % (6 : Int32))), .val (.ref r1), .unset, .unset]) rfl k) ?_
  refine own_st (T' := T1) (g' := (mkF m 14 #[.val (.int p1), .val (.int ((p1 &&& (2147483647 : Int32)) % (6 : Int32))), .val (.ref r1), .unset, .unset] [(.int ((p1 &&& (2147483647 : Int32)) % (6 : Int32)))])) (fun t k => XS.iloadN X1.here hx rfl (hb hby at_13) rfl k) ?_
  refine own_st (T' := T1) (g' := (mkF m 15 #[.val (.int p1), .val (.int ((p1 &&& (2147483647 : Int32)) % (6 : Int32))), .val (.ref r1), .unset, .unset] [(.int (3 : Int32)), (.int ((p1 &&& (2147483647 : Int32)) % (6 : Int32)))])) (fun t k => XS.iconst X1.here hx rfl (hb hby at_14) k) ?_
  have K3 : ∀ (v4 : Int32) (hv4 : v4 = (if ((p1 &&& (2147483647 : Int32)) % (6 : Int32)) = (3 : Int32) then (1 : Int32) else (if ((p1 &&& (2147483647 : Int32)) % (6 : Int32)) = (4 : Int32) then (1 : Int32) else (0 : Int32)))), own_G p e below (own_F (own_P (.int 1) h0) s room_1.cells room_1.slots) T1 (mkF m 28 #[.val (.int p1), .val (.int ((p1 &&& (2147483647 : Int32)) % (6 : Int32))), .val (.ref r1), .unset, .unset] [(.int v4)]) := by
    intro v4 hv4
    refine own_st (T' := T1) (g' := (mkF m 29 #[.val (.int p1), .val (.int ((p1 &&& (2147483647 : Int32)) % (6 : Int32))), .val (.ref r1), .val (.int v4), .unset] [])) (fun t k => XS.istoreN X1.here hx rfl (hb hby at_28) rfl (l' := #[.val (.int p1), .val (.int ((p1 &&& (2147483647 : Int32)) % (6 : Int32))), .val (.ref r1), .val (.int v4), .unset]) rfl k) ?_
    refine own_st (T' := T1) (g' := (mkF m 30 #[.val (.int p1), .val (.int ((p1 &&& (2147483647 : Int32)) % (6 : Int32))), .val (.ref r1), .val (.int v4), .unset] [(.ref r1)])) (fun t k => XS.aloadN X1.here hx rfl (hb hby at_29) rfl rfl k) ?_
    obtain ⟨r5, hr5⟩ : ∃ z, z = own_is2 s_FLOAT s_DOUBLE r1 := ⟨_, rfl⟩
    obtain ⟨_, T5, L5, hQ5, X5, st5⟩ := own_callV (y := (⟨"com/example/seriate/seriate/DataType", "isFloatingPoint", "()Z"⟩ : MethodName)) (z := (⟨"com/example/seriate/seriate/DataType", "isFloatingPoint", "()Z"⟩ : MethodName)) (argsL := []) 0 [] (K := "com/example/seriate/seriate/DataType") (own_rm2 l Z a0 hw h0 s_BOOLEAN s_FLOAT s_DOUBLE s_INT32 s_INT64 s_TEXT S_BOOLEAN S_FLOAT S_DOUBLE S_INT32 S_INT64 S_TEXT E_BOOLEAN E_FLOAT E_DOUBLE E_INT32 E_INT64 E_TEXT r1  _ hr5) X1 hx hZ hown (hw _ (List.mem_of_getElem? (i := 8) rfl)) (hw _ (List.mem_of_getElem? (i := 9) rfl)) (notFace_of_selects (args := #[]) (mvT hZ (hw _ (List.mem_of_getElem? (i := 11) rfl)))) (hw _ (List.mem_of_getElem? (i := 11) rfl)) (hw _ (List.mem_of_getElem? (i := 10) rfl)) (hw _ (List.mem_of_getElem? (i := 12) rfl)) (hw _ (List.mem_of_getElem? (i := 6) rfl)) (by decide) (by decide) (by decide) (by decide) (by decide) e1 E_r1 (g := (mkF m 30 #[.val (.int p1), .val (.int ((p1 &&& (2147483647 : Int32)) % (6 : Int32))), .val (.ref r1), .val (.int v4), .unset] [(.ref r1)])) rfl (by rw [hml]; rfl) (lenOf own_pd1 rfl) rfl (by show 2 * 0 + _ ≤ _; exact Nat.le_of_eq rfl) (hb hby at_30)
    obtain ⟨rfl, e5, rfl⟩ := hQ5
    have X5 : Stand p l e room_1 s m #[(.int p1)] below meth c T5 [] 0 0 := X5
    refine own_st (T' := T5) (g' := (mkF m 33 #[.val (.int p1), .val (.int ((p1 &&& (2147483647 : Int32)) % (6 : Int32))), .val (.ref r1), .val (.int v4), .unset] [(.int r5)])) st5 ?_
    refine own_st (T' := T5) (g' := (mkF m 35 #[.val (.int p1), .val (.int ((p1 &&& (2147483647 : Int32)) % (6 : Int32))), .val (.ref r1), .val (.int v4), .val (.int r5)] [])) (fun t k => XS.istore X5.here hx rfl (hb hby at_33) rfl (l' := #[.val (.int p1), .val (.int ((p1 &&& (2147483647 : Int32)) % (6 : Int32))), .val (.ref r1), .val (.int v4), .val (.int r5)]) rfl k) ?_
    refine own_st (T' := T5) (g' := (mkF m 37 #[.val (.int p1), .val (.int ((p1 &&& (2147483647 : Int32)) % (6 : Int32))), .val (.ref r1), .val (.int v4), .val (.int r5)] [(.int r5)])) (fun t k => XS.iload X5.here hx rfl (hb hby at_35) rfl k) ?_
    refine own_st (T' := T5) (g' := (mkF m 38 #[.val (.int p1), .val (.int ((p1 &&& (2147483647 : Int32)) % (6 : Int32))), .val (.ref r1), .val (.int v4), .val (.int r5)] [(.int v4), (.int r5)])) (fun t k => XS.iloadN X5.here hx rfl (hb hby at_37) rfl k) ?_
    have hk6 : r5 = v4 := by rw [hr5, hr1, hv4]; exact own_law ne_FLOAT_BOOLEAN ne_FLOAT_INT32 ne_FLOAT_INT64 ne_FLOAT_DOUBLE ne_FLOAT_TEXT ne_DOUBLE_BOOLEAN ne_DOUBLE_INT32 ne_DOUBLE_INT64 ne_DOUBLE_TEXT
    refine own_st (T' := T5) (g' := (mkF m 43 #[.val (.int p1), .val (.int ((p1 &&& (2147483647 : Int32)) % (6 : Int32))), .val (.ref r1), .val (.int v4), .val (.int r5)] [])) (fun t k => XS.icmpYes X5.here hx rfl (pc0 := 38) (pc' := 43) rfl (hb hby at_38) rfl (teq hk6).1 (by decide) (by decide) k) ?_
    refine own_st (T' := T5) (g' := (mkF m 45 #[.val (.int p1), .val (.int ((p1 &&& (2147483647 : Int32)) % (6 : Int32))), .val (.ref r1), .val (.int v4), .val (.int r5)] [(.int r5)])) (fun t k => XS.iload X5.here hx rfl (hb hby at_43) rfl k) ?_
    by_cases hc45_7 : r5 = (0 : Int32)
    ·
      refine own_st (T' := T5) (g' := (mkF m 57 #[.val (.int p1), .val (.int ((p1 &&& (2147483647 : Int32)) % (6 : Int32))), .val (.ref r1), .val (.int v4), .val (.int r5)] [])) (fun t k => XS.ifYes X5.here hx rfl (pc0 := 45) (pc' := 57) rfl (hb hby at_45) rfl ((if0 _ _).trans (teq hc45_7).1) (by decide) (by decide) k) ?_
      refine own_st (T' := T5) (g' := (mkF m 58 #[.val (.int p1), .val (.int ((p1 &&& (2147483647 : Int32)) % (6 : Int32))), .val (.ref r1), .val (.int v4), .val (.int r5)] [(.int (1 : Int32))])) (fun t k => XS.iconst X5.here hx rfl (hb hby at_57) k) ?_
      exact own_retB X5 hx hlk hret (hb hby at_58) (by decide) (by decide) rfl ⟨rfl, e5, rfl⟩
    ·
      refine own_st (T' := T5) (g' := (mkF m 48 #[.val (.int p1), .val (.int ((p1 &&& (2147483647 : Int32)) % (6 : Int32))), .val (.ref r1), .val (.int v4), .val (.int r5)] [])) (fun t k => XS.ifNo X5.here hx rfl (hb hby at_45) rfl ((if0 _ _).trans (feq hc45_7).1) k) ?_
      refine own_st (T' := T5) (g' := (mkF m 49 #[.val (.int p1), .val (.int ((p1 &&& (2147483647 : Int32)) % (6 : Int32))), .val (.ref r1), .val (.int v4), .val (.int r5)] [(.ref r1)])) (fun t k => XS.aloadN X5.here hx rfl (hb hby at_48) rfl rfl k) ?_
      obtain ⟨r8, hr8⟩ : ∃ z, z = own_is2 s_INT32 s_INT64 r1 := ⟨_, rfl⟩
      obtain ⟨_, T8, L8, hQ8, X8, st8⟩ := own_callV (y := (⟨"com/example/seriate/seriate/DataType", "isInteger", "()Z"⟩ : MethodName)) (z := (⟨"com/example/seriate/seriate/DataType", "isInteger", "()Z"⟩ : MethodName)) (argsL := []) 0 [] (K := "com/example/seriate/seriate/DataType") (own_rm3 l Z a0 hw h0 s_BOOLEAN s_FLOAT s_DOUBLE s_INT32 s_INT64 s_TEXT S_BOOLEAN S_FLOAT S_DOUBLE S_INT32 S_INT64 S_TEXT E_BOOLEAN E_FLOAT E_DOUBLE E_INT32 E_INT64 E_TEXT r1  _ hr8) X5 hx hZ hown (hw _ (List.mem_of_getElem? (i := 18) rfl)) (hw _ (List.mem_of_getElem? (i := 19) rfl)) (notFace_of_selects (args := #[]) (mvT hZ (hw _ (List.mem_of_getElem? (i := 21) rfl)))) (hw _ (List.mem_of_getElem? (i := 21) rfl)) (hw _ (List.mem_of_getElem? (i := 20) rfl)) (hw _ (List.mem_of_getElem? (i := 22) rfl)) (hw _ (List.mem_of_getElem? (i := 6) rfl)) (by decide) (by decide) (by decide) (by decide) (by decide) e5 E_r1 (g := (mkF m 49 #[.val (.int p1), .val (.int ((p1 &&& (2147483647 : Int32)) % (6 : Int32))), .val (.ref r1), .val (.int v4), .val (.int r5)] [(.ref r1)])) rfl (by rw [hml]; rfl) (lenOf own_pd1 rfl) rfl (by show 2 * 0 + _ ≤ _; exact Nat.le_of_eq rfl) (hb hby at_49)
      obtain ⟨rfl, e8, rfl⟩ := hQ8
      have X8 : Stand p l e room_1 s m #[(.int p1)] below meth c T8 [] 0 0 := X8
      refine own_st (T' := T8) (g' := (mkF m 52 #[.val (.int p1), .val (.int ((p1 &&& (2147483647 : Int32)) % (6 : Int32))), .val (.ref r1), .val (.int v4), .val (.int r5)] [(.int r8)])) st8 ?_
      have hk9 : r8 = (0 : Int32) := by rw [hr8]; rw [hr5] at hc45_7; exact own_law2 ne_FLOAT_INT32 ne_FLOAT_INT64 ne_DOUBLE_INT32 ne_DOUBLE_INT64 hc45_7
      refine own_st (T' := T8) (g' := (mkF m 57 #[.val (.int p1), .val (.int ((p1 &&& (2147483647 : Int32)) % (6 : Int32))), .val (.ref r1), .val (.int v4), .val (.int r5)] [])) (fun t k => XS.ifYes X8.here hx rfl (pc0 := 52) (pc' := 57) rfl (hb hby at_52) rfl ((if0 _ _).trans (teq hk9).1) (by decide) (by decide) k) ?_
      refine own_st (T' := T8) (g' := (mkF m 58 #[.val (.int p1), .val (.int ((p1 &&& (2147483647 : Int32)) % (6 : Int32))), .val (.ref r1), .val (.int v4), .val (.int r5)] [(.int (1 : Int32))])) (fun t k => XS.iconst X8.here hx rfl (hb hby at_57) k) ?_
      exact own_retB X8 hx hlk hret (hb hby at_58) (by decide) (by decide) rfl ⟨rfl, e8, rfl⟩
  by_cases hc15_2 : ((p1 &&& (2147483647 : Int32)) % (6 : Int32)) = (3 : Int32)
  ·
    refine own_st (T' := T1) (g' := (mkF m 23 #[.val (.int p1), .val (.int ((p1 &&& (2147483647 : Int32)) % (6 : Int32))), .val (.ref r1), .unset, .unset] [])) (fun t k => XS.icmpYes X1.here hx rfl (pc0 := 15) (pc' := 23) rfl (hb hby at_15) rfl (teq hc15_2).1 (by decide) (by decide) k) ?_
    refine own_st (T' := T1) (g' := (mkF m 24 #[.val (.int p1), .val (.int ((p1 &&& (2147483647 : Int32)) % (6 : Int32))), .val (.ref r1), .unset, .unset] [(.int (1 : Int32))])) (fun t k => XS.iconst X1.here hx rfl (hb hby at_23) k) ?_
    refine own_st (T' := T1) (g' := (mkF m 28 #[.val (.int p1), .val (.int ((p1 &&& (2147483647 : Int32)) % (6 : Int32))), .val (.ref r1), .unset, .unset] [(.int (1 : Int32))])) (fun t k => XS.goto X1.here hx rfl (pc0 := 24) (pc' := 28) rfl (hb hby at_24) (by decide) (by decide) k) ?_
    exact K3 _ (if_pos hc15_2).symm
  ·
    refine own_st (T' := T1) (g' := (mkF m 18 #[.val (.int p1), .val (.int ((p1 &&& (2147483647 : Int32)) % (6 : Int32))), .val (.ref r1), .unset, .unset] [])) (fun t k => XS.icmpNo X1.here hx rfl (hb hby at_15) rfl (feq hc15_2).1 k) ?_
    refine own_st (T' := T1) (g' := (mkF m 19 #[.val (.int p1), .val (.int ((p1 &&& (2147483647 : Int32)) % (6 : Int32))), .val (.ref r1), .unset, .unset] [(.int ((p1 &&& (2147483647 : Int32)) % (6 : Int32)))])) (fun t k => XS.iloadN X1.here hx rfl (hb hby at_18) rfl k) ?_
    refine own_st (T' := T1) (g' := (mkF m 20 #[.val (.int p1), .val (.int ((p1 &&& (2147483647 : Int32)) % (6 : Int32))), .val (.ref r1), .unset, .unset] [(.int (4 : Int32)), (.int ((p1 &&& (2147483647 : Int32)) % (6 : Int32)))])) (fun t k => XS.iconst X1.here hx rfl (hb hby at_19) k) ?_
    by_cases hc20_10 : ((p1 &&& (2147483647 : Int32)) % (6 : Int32)) = (4 : Int32)
    ·
      refine own_st (T' := T1) (g' := (mkF m 23 #[.val (.int p1), .val (.int ((p1 &&& (2147483647 : Int32)) % (6 : Int32))), .val (.ref r1), .unset, .unset] [])) (fun t k => XS.icmpNo X1.here hx rfl (hb hby at_20) rfl (teq hc20_10).2 k) ?_
      refine own_st (T' := T1) (g' := (mkF m 24 #[.val (.int p1), .val (.int ((p1 &&& (2147483647 : Int32)) % (6 : Int32))), .val (.ref r1), .unset, .unset] [(.int (1 : Int32))])) (fun t k => XS.iconst X1.here hx rfl (hb hby at_23) k) ?_
      refine own_st (T' := T1) (g' := (mkF m 28 #[.val (.int p1), .val (.int ((p1 &&& (2147483647 : Int32)) % (6 : Int32))), .val (.ref r1), .unset, .unset] [(.int (1 : Int32))])) (fun t k => XS.goto X1.here hx rfl (pc0 := 24) (pc' := 28) rfl (hb hby at_24) (by decide) (by decide) k) ?_
      exact K3 _ ((if_neg hc15_2).trans (if_pos hc20_10)).symm
    ·
      refine own_st (T' := T1) (g' := (mkF m 27 #[.val (.int p1), .val (.int ((p1 &&& (2147483647 : Int32)) % (6 : Int32))), .val (.ref r1), .unset, .unset] [])) (fun t k => XS.icmpYes X1.here hx rfl (pc0 := 20) (pc' := 27) rfl (hb hby at_20) rfl (feq hc20_10).2 (by decide) (by decide) k) ?_
      refine own_st (T' := T1) (g' := (mkF m 28 #[.val (.int p1), .val (.int ((p1 &&& (2147483647 : Int32)) % (6 : Int32))), .val (.ref r1), .unset, .unset] [(.int (0 : Int32))])) (fun t k => XS.iconst X1.here hx rfl (hb hby at_27) k) ?_
      exact K3 _ ((if_neg hc15_2).trans (if_neg hc20_10)).symm
set_option maxRecDepth 65536 in
set_option maxHeartbeats 40000000 in
theorem own_comes {Post : Tables → Env → Array Value → State → Outcome → State → Prop} (hpost : ∀ tb e args s v u, (limb_1_1.after args s (.returned v) u = true ∧ limb_1_2.after args s (.returned v) u = true ∧ True) → FrameEnd s (.returned v) u (Jvm.fieldLocs frame_1_writes args s ++ Jvm.arrayLocs frame_1_arrays args s ++ Jvm.staticLocs frame_1_statics s) 0 0 → Post tb e args s (.returned v) u) :
    ArmFor flags0 classFile x code maxLocals ret World_1 tables_1 room_1 Calls_1 rest_1 Pre_1 Post := by
  intro l hfl _ _ p e ha hc hk s m args below hf hA hF happ hP
  obtain ⟨hcalls, hrest, hpre⟩ := hP
  obtain ⟨-, -, -, hnamed, -, -, -, hat⟩ := (Spec.applies_iff hf).mp happ
  obtain ⟨hg, hn⟩ := and_e (Cond.before_iff.mp (show (Jvm.Cond.and given_1 narrow_1).before args s = true from hpre))
  obtain ⟨hcount, hg⟩ := and_e hg
  obtain ⟨w0, rfl⟩ : ∃ w0 : Value, args = #[w0] := by
    have hs : args.size = 1 := by simpa [Cond.value, given_1] using hcount
    obtain ⟨L⟩ := args
    match L, hs with
    | [w0], _ => exact ⟨w0, rfl⟩
  have hw := fun d (hd : d ∈ tables_1) => atoms_spec (ws := Jvm.Cond.code x code maxLocals ret :: tables_1) hat d (List.mem_cons_of_mem _ hd)
  have g0 := hg
  obtain ⟨i0, ei0⟩ := is_v g0
  obtain rfl : w0 = (.int i0) := Option.some.inj ei0
  obtain ⟨n0, hn⟩ := and_e hn
  obtain ⟨n1, hn⟩ := and_e hn
  obtain ⟨n2, hn⟩ := and_e hn
  obtain ⟨n3, hn⟩ := and_e hn
  obtain ⟨n4, hn⟩ := and_e hn
  obtain ⟨n5, hn⟩ := and_e hn
  obtain ⟨n6, hn⟩ := and_e hn
  obtain ⟨n7, hn⟩ := and_e hn
  obtain ⟨n8, hn⟩ := and_e hn
  obtain ⟨n9, hn⟩ := and_e hn
  obtain ⟨n10, hn⟩ := and_e hn
  have n11 := hn
  obtain ⟨s_BOOLEAN, v_BOOLEAN, S_BOOLEAN, E_BOOLEAN⟩ := own_sta n0 (hw _ (List.mem_of_getElem? (i := 6) rfl)) (hw _ (List.mem_of_getElem? (i := 7) rfl))
  obtain ⟨s_FLOAT, v_FLOAT, S_FLOAT, E_FLOAT⟩ := own_sta n1 (hw _ (List.mem_of_getElem? (i := 6) rfl)) (hw _ (List.mem_of_getElem? (i := 14) rfl))
  obtain ⟨s_DOUBLE, v_DOUBLE, S_DOUBLE, E_DOUBLE⟩ := own_sta n4 (hw _ (List.mem_of_getElem? (i := 6) rfl)) (hw _ (List.mem_of_getElem? (i := 16) rfl))
  obtain ⟨s_INT32, v_INT32, S_INT32, E_INT32⟩ := own_sta n6 (hw _ (List.mem_of_getElem? (i := 6) rfl)) (hw _ (List.mem_of_getElem? (i := 24) rfl))
  obtain ⟨s_INT64, v_INT64, S_INT64, E_INT64⟩ := own_sta n8 (hw _ (List.mem_of_getElem? (i := 6) rfl)) (hw _ (List.mem_of_getElem? (i := 26) rfl))
  obtain ⟨s_TEXT, v_TEXT, S_TEXT, E_TEXT⟩ := own_sta n10 (hw _ (List.mem_of_getElem? (i := 6) rfl)) (hw _ (List.mem_of_getElem? (i := 30) rfl))
  have o_BOOLEAN := own_fld v_BOOLEAN n2
  have o_FLOAT := own_fld v_FLOAT n3
  have o_DOUBLE := own_fld v_DOUBLE n5
  have o_INT32 := own_fld v_INT32 n7
  have o_INT64 := own_fld v_INT64 n9
  have o_TEXT := own_fld v_TEXT n11
  have ne_FLOAT_BOOLEAN : s_FLOAT ≠ s_BOOLEAN := Fld.ne o_FLOAT o_BOOLEAN (by decide)
  have ne_FLOAT_INT32 : s_FLOAT ≠ s_INT32 := Fld.ne o_FLOAT o_INT32 (by decide)
  have ne_FLOAT_INT64 : s_FLOAT ≠ s_INT64 := Fld.ne o_FLOAT o_INT64 (by decide)
  have ne_FLOAT_DOUBLE : s_FLOAT ≠ s_DOUBLE := Fld.ne o_FLOAT o_DOUBLE (by decide)
  have ne_FLOAT_TEXT : s_FLOAT ≠ s_TEXT := Fld.ne o_FLOAT o_TEXT (by decide)
  have ne_DOUBLE_BOOLEAN : s_DOUBLE ≠ s_BOOLEAN := Fld.ne o_DOUBLE o_BOOLEAN (by decide)
  have ne_DOUBLE_INT32 : s_DOUBLE ≠ s_INT32 := Fld.ne o_DOUBLE o_INT32 (by decide)
  have ne_DOUBLE_INT64 : s_DOUBLE ≠ s_INT64 := Fld.ne o_DOUBLE o_INT64 (by decide)
  have ne_DOUBLE_TEXT : s_DOUBLE ≠ s_TEXT := Fld.ne o_DOUBLE o_TEXT (by decide)
  obtain ⟨n, o, h1, h2, h3, _, L, rfl, ⟨rfl, _, rfl⟩, hq⟩ := own_rm0 l s _ hw s.heap s_BOOLEAN s_FLOAT s_DOUBLE s_INT32 s_INT64 s_TEXT S_BOOLEAN S_FLOAT S_DOUBLE S_INT32 S_INT64 S_TEXT E_BOOLEAN E_FLOAT E_DOUBLE E_INT32 E_INT64 E_TEXT i0 ne_FLOAT_BOOLEAN ne_FLOAT_INT32 ne_FLOAT_INT64 ne_FLOAT_DOUBLE ne_FLOAT_TEXT ne_DOUBLE_BOOLEAN ne_DOUBLE_INT32 ne_DOUBLE_INT64 ne_DOUBLE_TEXT p e ha hc hk s m _ below hf ((Spec.applies_iff_loose hf).mp happ).1 ⟨rfl, State.Warmed39.refl s, rfl⟩ trivial
  exact ⟨n, _, h1, h2, h3, hpost _ _ _ _ _ _ ⟨Cond.after_iff.mpr rfl, Cond.after_iff.mpr (eq_i res_at (Term.int_eval (1)) rfl), trivial⟩ ⟨hq.1, hq.2.1, (hq.2.2.sift fun y hy => nomatch hy).mono (by decide) (by decide)⟩⟩
theorem main_1_1 : Claimed_1_1 := own_comes fun _ _ _ _ _ _ h hF => ⟨h.1, hF⟩
theorem main_1_2 : Claimed_1_2 := own_comes fun _ _ _ _ _ _ h hF => ⟨h.2.1, hF⟩
end Jvm.Pilot.@@N@@
namespace Jvm.Pilot.@@N@@
open Jvm Jvm.ClassFile Sem Op Lib Jvm.Free Jvm.Stand Jvm.Pilot.@@N@@.Jvm.D
/-! MADE BY PROGRAM (witnessworld.py) out of the Statement's table words and the real class files: 12 classes; the members and pool entries that the words name. The judged class is class 1, her method 2. -/
namespace start1
open Jvm.ClassFile
def u (s : String) : CpInfo := .utf8 (stringToUtf16 s)
/-- a pool by its gaps: so many unusable entries, then the entry; so many at the end -/
def gap : Nat → List CpInfo → List CpInfo
  | 0, r => r
  | n + 1, r => .unusable :: gap n r
def poolList (es : List (Nat × CpInfo)) (last : Nat) : List CpInfo := es.foldr (fun e r => gap e.1 (e.2 :: r)) (gap last [])
def pool (es : List (Nat × CpInfo)) (last : Nat) : Array CpInfo := ⟨poolList es last⟩
def fileOf (pool : Array CpInfo) (this : Nat) (attrs : Array Attribute := #[]) (ms : Array MethodInfo := #[]) (fl : Nat := 33) (sup : Nat := 0) (ifs : Array Nat := #[]) (fds : Array FieldInfo := #[]) : ClassFile where
  minorVersion := 0
  majorVersion := 65
  constantPool := pool
  accessFlags := fl
  thisClass := this
  superClass := sup
  interfaces := ifs
  fields := fds
  methods := ms
  attributes := attrs
def plain (name : String) (sup : Option ClassId) : Class where
  name := name
  kind := .ordinary
  loader := none
  accessFlags := 33
  super := sup
  interfaces := #[]
  cf := none
  fields := #[]
  methods := #[]
  instanceTypes := #[]
  staticTypes := #[]
  resolved := #[]
  callSites := []
  init := .initialized
  statics := none
  mirror := none

def pool0 : Array CpInfo := pool [(5, u "<init>"), (0, u "()V"), (1, .class_ 10), (1, u "java/lang/Object")] 113

def k0m0 : Method := { name := "<init>", desc := "()V", sig := { parameters := [], returnType := none }, accessFlags := 1, code := none }
/-- java/lang/Object -/
def k0 : Class := { plain "java/lang/Object" none with
  accessFlags := 33
  interfaces := #[]
  cf := some (fileOf pool0 8 #[] #[{ accessFlags := 1, nameIndex := 5, descriptorIndex := 6, attributes := #[] }] 33 0 #[] #[])
  fields := #[]
  methods := #[k0m0]
  instanceTypes := #[]
  staticTypes := #[]
  resolved := Array.replicate 124 none
  statics := none }

def pool1 : Array CpInfo := pool [(2, .class_ 4), (1, u "java/lang/Object"), (0, u "<init>"), (0, u "()V"), (0, .fieldref 8 9), (0, .class_ 10), (0, .nameAndType 11 12), (0, u "com/example/seriate/seriate/DataType"), (0, u "BOOLEAN"), (0, u "Lcom/example/seriate/seriate/DataType;"), (0, .fieldref 8 14), (0, .nameAndType 15 12), (0, u "INT32"), (0, .fieldref 8 17), (0, .nameAndType 18 12), (0, u "INT64"), (0, .fieldref 8 20), (0, .nameAndType 21 12), (0, u "FLOAT"), (0, .fieldref 8 23), (0, .nameAndType 24 12), (0, u "DOUBLE"), (0, .fieldref 8 26), (0, .nameAndType 27 12), (0, u "TEXT"), (0, .integer 2147483647), (0, .methodref 30 31), (0, .class_ 32), (0, .nameAndType 33 34), (0, u "com/example/seriate/seriate/DataTypeIsFloatingPointPinLaw"), (0, u "pick"), (0, u "(I)Lcom/example/seriate/seriate/DataType;"), (0, .methodref 8 36), (0, .nameAndType 37 38), (0, u "isFloatingPoint"), (0, u "()Z"), (0, .methodref 8 40), (0, .nameAndType 41 38), (0, u "isInteger"), (3, u "law"), (0, u "(I)Z")] 2

def k1m0 : Method := { name := "<init>", desc := "()V", sig := { parameters := [], returnType := none }, accessFlags := 2, code := none }
def k1c1 : Code := { maxStack := 2, maxLocals := 1, code := method_2_code, exceptionTable := #[], attributes := #[] }
def k1m1 : Method := { name := "pick", desc := "(I)Lcom/example/seriate/seriate/DataType;", sig := { parameters := [.int], returnType := some (.object "com/example/seriate/seriate/DataType") }, accessFlags := 10, code := some k1c1 }
def k1c2 : Code := { maxStack := 2, maxLocals := 5, code := code, exceptionTable := #[], attributes := #[] }
def k1m2 : Method := { name := "law", desc := "(I)Z", sig := { parameters := [.int], returnType := some .boolean }, accessFlags := 9, code := some k1c2 }
/-- com/example/seriate/seriate/DataTypeIsFloatingPointPinLaw -/
def k1 : Class := { plain "com/example/seriate/seriate/DataTypeIsFloatingPointPinLaw" (some 0) with
  accessFlags := 49
  interfaces := #[]
  cf := some (fileOf pool1 30 #[] #[{ accessFlags := 2, nameIndex := 5, descriptorIndex := 6, attributes := #[] }, { accessFlags := 10, nameIndex := 33, descriptorIndex := 34, attributes := #[] }, { accessFlags := 9, nameIndex := 45, descriptorIndex := 46, attributes := #[] }] 49 2 #[] #[])
  fields := #[]
  methods := #[k1m0, k1m1, k1m2]
  instanceTypes := #[]
  staticTypes := #[]
  resolved := Array.replicate 49 none
  statics := none }

def pool2 : Array CpInfo := pool [(1, .class_ 2), (0, u "java/lang/constant/Constable"), (0, .class_ 4), (0, u "java/lang/Object")] 6

/-- java/lang/constant/Constable -/
def k2 : Class := { plain "java/lang/constant/Constable" (some 0) with
  accessFlags := 1537
  interfaces := #[]
  cf := some (fileOf pool2 1 #[] #[] 1537 3 #[] #[])
  fields := #[]
  methods := #[]
  instanceTypes := #[]
  staticTypes := #[]
  resolved := Array.replicate 11 none
  statics := none }

def pool3 : Array CpInfo := pool [(1, .class_ 2), (0, u "java/lang/Comparable"), (0, .class_ 4), (0, u "java/lang/Object")] 7

/-- java/lang/Comparable -/
def k3 : Class := { plain "java/lang/Comparable" (some 0) with
  accessFlags := 1537
  interfaces := #[]
  cf := some (fileOf pool3 1 #[] #[] 1537 3 #[] #[])
  fields := #[]
  methods := #[]
  instanceTypes := #[]
  staticTypes := #[]
  resolved := Array.replicate 12 none
  statics := none }

def pool4 : Array CpInfo := pool [(1, .class_ 2), (0, u "java/io/Serializable"), (0, .class_ 4), (0, u "java/lang/Object")] 2

/-- java/io/Serializable -/
def k4 : Class := { plain "java/io/Serializable" (some 0) with
  accessFlags := 1537
  interfaces := #[]
  cf := some (fileOf pool4 1 #[] #[] 1537 3 #[] #[])
  fields := #[]
  methods := #[]
  instanceTypes := #[]
  staticTypes := #[]
  resolved := Array.replicate 7 none
  statics := none }

def pool5 : Array CpInfo := pool [(2, .class_ 4), (1, u "java/lang/Enum"), (0, u "name"), (0, u "Ljava/lang/String;"), (2, u "ordinal"), (0, u "I"), (1, .class_ 14), (1, u "java/lang/Object"), (4, u "hash"), (86, .class_ 108), (1, u "java/lang/Enum$EnumDesc"), (2, .class_ 112), (0, u "java/lang/constant/Constable"), (0, .class_ 114), (0, u "java/lang/Comparable"), (0, .class_ 116), (0, u "java/io/Serializable")] 87

/-- java/lang/Enum -/
def k5 : Class := { plain "java/lang/Enum" (some 0) with
  accessFlags := 1057
  interfaces := #[2, 3, 4]
  cf := some (fileOf pool5 2 #[.nestMembers #[106]] #[] 1057 12 #[111, 113, 115] #[{ accessFlags := 18, nameIndex := 5, descriptorIndex := 6, attributes := #[] }, { accessFlags := 18, nameIndex := 9, descriptorIndex := 10, attributes := #[] }, { accessFlags := 2, nameIndex := 19, descriptorIndex := 10, attributes := #[] }])
  fields := #[{ name := "name", type := (.object "java/lang/String"), accessFlags := 18, slot := 0, constantValue := 0 }, { name := "ordinal", type := .int, accessFlags := 18, slot := 1, constantValue := 0 }, { name := "hash", type := .int, accessFlags := 2, slot := 2, constantValue := 0 }]
  methods := #[]
  instanceTypes := #[(.object "java/lang/String"), .int, .int]
  staticTypes := #[]
  resolved := Array.replicate 204 none
  statics := none }

def pool6 : Array CpInfo := pool [(1, .class_ 2), (0, u "com/example/seriate/seriate/DataType"), (2, u "BOOLEAN"), (0, u "Lcom/example/seriate/seriate/DataType;"), (0, .fieldref 1 8), (0, .nameAndType 9 6), (0, u "INT32"), (0, .fieldref 1 11), (0, .nameAndType 12 6), (0, u "INT64"), (0, .fieldref 1 14), (0, .nameAndType 15 6), (0, u "FLOAT"), (0, .fieldref 1 17), (0, .nameAndType 18 6), (0, u "DOUBLE"), (2, u "TEXT"), (2, u "$VALUES"), (0, u "[Lcom/example/seriate/seriate/DataType;"), (6, .class_ 34), (1, u "java/lang/Enum"), (8, u "code"), (0, u "I"), (55, u "isInteger"), (0, u "()Z"), (1, u "isFloatingPoint")] 39

def k6c0 : Code := { maxStack := 2, maxLocals := 1, code := prog_8_method_5_code, exceptionTable := #[], attributes := #[] }
def k6m0 : Method := { name := "isInteger", desc := "()Z", sig := { parameters := [], returnType := some .boolean }, accessFlags := 0, code := some k6c0 }
def k6c1 : Code := { maxStack := 2, maxLocals := 1, code := prog_8_method_6_code, exceptionTable := #[], attributes := #[] }
def k6m1 : Method := { name := "isFloatingPoint", desc := "()Z", sig := { parameters := [], returnType := some .boolean }, accessFlags := 0, code := some k6c1 }
/-- com/example/seriate/seriate/DataType -/
def k6 : Class := { plain "com/example/seriate/seriate/DataType" (some 5) with
  accessFlags := 16433
  interfaces := #[]
  cf := some (fileOf pool6 1 #[] #[{ accessFlags := 0, nameIndex := 100, descriptorIndex := 101, attributes := #[] }, { accessFlags := 0, nameIndex := 103, descriptorIndex := 101, attributes := #[] }] 16433 32 #[] #[{ accessFlags := 16409, nameIndex := 5, descriptorIndex := 6, attributes := #[] }, { accessFlags := 16409, nameIndex := 9, descriptorIndex := 6, attributes := #[] }, { accessFlags := 16409, nameIndex := 12, descriptorIndex := 6, attributes := #[] }, { accessFlags := 16409, nameIndex := 15, descriptorIndex := 6, attributes := #[] }, { accessFlags := 16409, nameIndex := 18, descriptorIndex := 6, attributes := #[] }, { accessFlags := 16409, nameIndex := 21, descriptorIndex := 6, attributes := #[] }, { accessFlags := 18, nameIndex := 43, descriptorIndex := 44, attributes := #[] }, { accessFlags := 4122, nameIndex := 24, descriptorIndex := 25, attributes := #[] }])
  fields := #[{ name := "BOOLEAN", type := (.object "com/example/seriate/seriate/DataType"), accessFlags := 16409, slot := 0, constantValue := 0 }, { name := "INT32", type := (.object "com/example/seriate/seriate/DataType"), accessFlags := 16409, slot := 1, constantValue := 0 }, { name := "INT64", type := (.object "com/example/seriate/seriate/DataType"), accessFlags := 16409, slot := 2, constantValue := 0 }, { name := "FLOAT", type := (.object "com/example/seriate/seriate/DataType"), accessFlags := 16409, slot := 3, constantValue := 0 }, { name := "DOUBLE", type := (.object "com/example/seriate/seriate/DataType"), accessFlags := 16409, slot := 4, constantValue := 0 }, { name := "TEXT", type := (.object "com/example/seriate/seriate/DataType"), accessFlags := 16409, slot := 5, constantValue := 0 }, { name := "code", type := .int, accessFlags := 18, slot := 3, constantValue := 0 }, { name := "$VALUES", type := (.array (.object "com/example/seriate/seriate/DataType")), accessFlags := 4122, slot := 6, constantValue := 0 }]
  methods := #[k6m0, k6m1]
  instanceTypes := #[(.object "java/lang/String"), .int, .int, .int]
  staticTypes := #[(.object "com/example/seriate/seriate/DataType"), (.object "com/example/seriate/seriate/DataType"), (.object "com/example/seriate/seriate/DataType"), (.object "com/example/seriate/seriate/DataType"), (.object "com/example/seriate/seriate/DataType"), (.object "com/example/seriate/seriate/DataType"), (.array (.object "com/example/seriate/seriate/DataType"))]
  resolved := Array.replicate 143 none
  statics := some 0 }

def pool7 : Array CpInfo := pool [(1, u "java/lang/Cloneable"), (0, .class_ 1), (0, u "java/lang/Object"), (0, .class_ 3)] 3

/-- java/lang/Cloneable -/
def k7 : Class := { plain "java/lang/Cloneable" (some 0) with
  accessFlags := 1537
  interfaces := #[]
  cf := some (fileOf pool7 2 #[] #[] 1537 4 #[] #[])
  fields := #[]
  methods := #[]
  instanceTypes := #[]
  staticTypes := #[]
  resolved := Array.replicate 8 none
  statics := none }

/-- the primitive byte -/
def k8 : Class := { plain "byte" none with kind := .primitive 'B', accessFlags := 0x411 }
/-- [B -/
def k9 : Class := { plain "[B" (some 0) with kind := .array 8 .byte, interfaces := #[7, 4], accessFlags := 1041 }

/-- the primitive int -/
def k10 : Class := { plain "int" none with kind := .primitive 'I', accessFlags := 0x411 }
/-- [I -/
def k11 : Class := { plain "[I" (some 0) with kind := .array 10 .int, interfaces := #[7, 4], accessFlags := 1041 }

def heap : Heap := #[{ cls := 6, slots := #[.ref 1, .ref 4, .ref 5, .ref 2, .ref 3, .ref 6, .null], vm := .statics 6 },
  { cls := 6, slots := #[.null, .int 0, .int 0, .int 1], vm := .none },
  { cls := 6, slots := #[.null, .int 3, .int 0, .int 1], vm := .none },
  { cls := 6, slots := #[.null, .int 4, .int 0, .int 1], vm := .none },
  { cls := 6, slots := #[.null, .int 1, .int 0, .int 1], vm := .none },
  { cls := 6, slots := #[.null, .int 2, .int 0, .int 1], vm := .none },
  { cls := 6, slots := #[.null, .int 5, .int 0, .int 1], vm := .none }]
def classes : Array Class := #[k0, k1, k2, k3, k4, k5, k6, k7, k8, k9, k10, k11]
def interned : List (Array UInt16 × Addr) := []
def slotsUsed : Nat := 31
def theMethod : MethodId := ⟨1, 2⟩
def args0 : Array Value := #[.int 5]
def aboutOver (below : List Frame) : State where
  vm := { classes := classes, interned := interned.toArray }
  heap := heap
  slotsUsed := slotsUsed
  threads := #[{ frames := .invoking theMethod args0 :: below }]
def below0 : List Frame := [.native { method := ⟨0, 0⟩, args := #[] }]
def about1 : State := aboutOver below0
def p0 : Program := .bare "" "" ""
def e0 : Env := launch0.env 0 0 0
theorem w_frames : about1.frames = Frame.invoking theMethod args0 :: below0 := rfl
set_option maxRecDepth 65536 in
theorem w_args : argsFit about1.vm theMethod args0 = true := by decide +kernel
set_option maxRecDepth 65536 in
theorem w_heap : heapFits about1 = true := by decide +kernel
set_option maxRecDepth 65536 in
theorem w_runnable : about1.curStatus? = some .runnable := by decide +kernel
set_option maxRecDepth 65536 in
theorem w_alone : about1.alone = true := by decide +kernel
set_option maxRecDepth 65536 in
theorem w_named : about1.methodNamed? x = some theMethod := by decide +kernel
set_option maxRecDepth 65536 in
theorem w_hears : about1.hears theMethod below0 = true := by decide +kernel
set_option maxRecDepth 65536 in
theorem w_ripe : about1.ripe theMethod args0 below0 = true := by decide +kernel
theorem w_running : about1.status = .running := rfl
set_option maxRecDepth 65536 in
theorem w_room : about1.hasRoom e0.platform room_1 = true :=
  launch0.hasRoom_least _ room_1 (by decide +kernel) (by decide +kernel) (by decide +kernel) (by decide +kernel) (by decide +kernel) (by decide +kernel)
theorem allAtoms_all (ts : List Jvm.Cond) (a : Array Jvm.Value) (st : Jvm.State) : (allAtoms ts).before a st = ts.all (fun c => c.before a st) := by
  induction ts with
  | nil => rfl
  | cons c t ih =>
    show (Jvm.Cond.and c (allAtoms t)).before a st = _
    rw [Jvm.Cond.before_and, ih, List.all_cons]
def words1 : List Jvm.Cond := Jvm.Cond.code x code maxLocals ret :: tables_1
/-- a 'code' word, met by the world's own term for the bytes: nothing is compared byte by byte -/
theorem code_word {y : MethodName} {bytes : ByteArray} {mx : Nat} {rt : Option FieldType} {a : Array Value} {s : State} {m : MethodId} {meth : Method} {c : Code} (h1 : s.methodNamed? y = some m) (h2 : s.vm.method? m = some meth) (h3 : meth.code = some c) (h4 : c.code = bytes)
    (h5 : (c.maxLocals == mx && c.exceptionTable.isEmpty && decide (c.maxStack ≤ mostOperands) && decide (meth.sig.returnType = rt) && !meth.locks && decide (parseMethodDescriptor y.desc = some meth.sig)) = true) : (Jvm.Cond.code y bytes mx rt).before a s = true := by
  simp only [Bool.and_eq_true, beq_iff_eq, Bool.not_eq_true', decide_eq_true_eq] at h5
  obtain ⟨⟨⟨⟨⟨g1, g2⟩, g3⟩, g4⟩, g5⟩, g6⟩ := h5
  simp [Cond.before, Cond.holds, Cond.value, h1, h2, h3, h4, g1, g2, g3, g4, g5, g6]
def isCode : Jvm.Cond → Bool
  | .code _ _ _ _ => true
  | _ => false
theorem all_split {L : List Jvm.Cond} {P : Jvm.Cond → Bool} (h1 : L.all (fun c => isCode c || P c) = true) (h2 : ∀ c ∈ L.filter isCode, P c = true) : L.all P = true := by
  refine List.all_eq_true.mpr fun c hc => ?_
  have h := List.all_eq_true.mp h1 c hc
  rcases Bool.eq_false_or_eq_true (isCode c) with hi | hi
  · exact h2 c (List.mem_filter.mpr ⟨hc, hi⟩)
  · simpa [hi] using h
set_option maxRecDepth 65536 in
theorem w_c0 : (Jvm.Cond.code x code maxLocals ret).before args0 about1 = true := code_word (m := ⟨1, 2⟩) (meth := k1m2) (c := k1c2) (by decide +kernel) rfl rfl rfl (by decide +kernel)
set_option maxRecDepth 65536 in
theorem w_c1 : (Jvm.Cond.code ({ cls := "com/example/seriate/seriate/DataTypeIsFloatingPointPinLaw", name := "pick", desc := "(I)Lcom/example/seriate/seriate/DataType;" } : Jvm.MethodName) method_2_code (1 : Nat) (Option.some (Jvm.ClassFile.FieldType.object "com/example/seriate/seriate/DataType"))).before args0 about1 = true := code_word (m := ⟨1, 1⟩) (meth := k1m1) (c := k1c1) (by decide +kernel) rfl rfl rfl (by decide +kernel)
set_option maxRecDepth 65536 in
theorem w_c2 : (Jvm.Cond.code ({ cls := "com/example/seriate/seriate/DataType", name := "isFloatingPoint", desc := "()Z" } : Jvm.MethodName) prog_8_method_6_code (1 : Nat) (Option.some Jvm.ClassFile.FieldType.boolean)).before args0 about1 = true := code_word (m := ⟨6, 1⟩) (meth := k6m1) (c := k6c1) (by decide +kernel) rfl rfl rfl (by decide +kernel)
set_option maxRecDepth 65536 in
theorem w_c3 : (Jvm.Cond.code ({ cls := "com/example/seriate/seriate/DataType", name := "isInteger", desc := "()Z" } : Jvm.MethodName) prog_8_method_5_code (1 : Nat) (Option.some Jvm.ClassFile.FieldType.boolean)).before args0 about1 = true := code_word (m := ⟨6, 0⟩) (meth := k6m0) (c := k6c0) (by decide +kernel) rfl rfl rfl (by decide +kernel)
def codes1 : List Jvm.Cond := [Jvm.Cond.code x code maxLocals ret, Jvm.Cond.code ({ cls := "com/example/seriate/seriate/DataTypeIsFloatingPointPinLaw", name := "pick", desc := "(I)Lcom/example/seriate/seriate/DataType;" } : Jvm.MethodName) method_2_code (1 : Nat) (Option.some (Jvm.ClassFile.FieldType.object "com/example/seriate/seriate/DataType")), Jvm.Cond.code ({ cls := "com/example/seriate/seriate/DataType", name := "isFloatingPoint", desc := "()Z" } : Jvm.MethodName) prog_8_method_6_code (1 : Nat) (Option.some Jvm.ClassFile.FieldType.boolean), Jvm.Cond.code ({ cls := "com/example/seriate/seriate/DataType", name := "isInteger", desc := "()Z" } : Jvm.MethodName) prog_8_method_5_code (1 : Nat) (Option.some Jvm.ClassFile.FieldType.boolean)]
set_option maxRecDepth 65536 in
theorem codes_eq : words1.filter isCode = codes1 := rfl
theorem w_codes : ∀ c ∈ words1.filter isCode, c.before args0 about1 = true := by
  rw [codes_eq]
  intro c hc
  simp only [codes1, List.mem_cons, List.not_mem_nil, or_false] at hc
  rcases hc with rfl | rfl | rfl | rfl
  · exact w_c0
  · exact w_c1
  · exact w_c2
  · exact w_c3
set_option maxRecDepth 65536 in
theorem w_t1 : (words1.take 24).all (fun c => isCode c || c.before args0 about1) = true := by decide +kernel
set_option maxRecDepth 65536 in
theorem w_t2 : (words1.drop 24).all (fun c => isCode c || c.before args0 about1) = true := by decide +kernel
theorem w_tables : (allAtoms (Jvm.Cond.code x code maxLocals ret :: tables_1)).before args0 about1 = true := by
  rw [allAtoms_all]
  show words1.all (fun c => c.before args0 about1) = true
  refine all_split ?_ w_codes
  rw [← List.take_append_drop 24 words1, List.all_append, w_t1, w_t2]
  rfl
set_option maxRecDepth 65536 in
theorem w_case : (Jvm.Cond.and given_1 narrow_1).before args0 about1 = true := by decide +kernel
theorem w_applies : (headSpec (Jvm.Cond.code x code maxLocals ret :: tables_1) room_1).applies x e0.platform about1 = true :=
  (Spec.applies_iff w_frames).mpr ⟨w_running, w_runnable, w_alone, w_named, w_hears, w_ripe, w_room, w_tables⟩
theorem atStart : AtStart classFile x code maxLocals ret World_1 tables_1 room_1 Calls_1 rest_1 Pre_1 launch0 p0 e0 about1 theMethod args0 below0 :=
  ⟨lists_1, trivial, launch0.admits_env _ _ _, launch0.least_env, fairChoices_fair.cas, fairChoices_fair.clock, w_frames, w_args, w_heap, w_applies, trivial, trivial, w_case⟩
end start1
theorem witness_1 : WitnessClaimed_1 := ⟨start1.p0, start1.e0, start1.about1, start1.theMethod, start1.args0, start1.below0, start1.atStart⟩
end Jvm.Pilot.@@N@@
