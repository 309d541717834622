import JvmDerived
import JvmDerived.Pilot.@@N@@Statement
import JvmDerived.Pilot.@@N@@Code
set_option linter.unusedVariables false
set_option linter.unusedSimpArgs false
@@BLOCK:HandJ.lean.txt@@
@@BLOCK:SymMore.lean.txt@@
namespace Jvm.Pilot.@@N@@
open Jvm Jvm.ClassFile Sem Op Lib Jvm.Free Jvm.Stand Jvm.LawKit Jvm.RoadKit Bundle Jvm.Pilot.@@N@@.Jvm.D
section Own
variable {p : Program} {l : Launch} {e : Env} {R : Room} {s : State} {m : MethodId} {args : Array Value} {below : List Frame} {meth : Method} {c : Code} {T : State} {locs : List Loc} {cells slots : Nat} {Z : State} {a0 : Array Value} {h : Heap}
/-- the run from A ends by returning, Q holds of what it returned and of the heap, and no more than k cells and n slots are new -/
def OwnEnd (p : Program) (e : Env) (below : List Frame) (s : State) (Q : Option Value → Heap → List Loc → Prop) (k n : Nat) (A : State) : Prop :=
  ∃ t o, Steps p.tables e below A t ∧ t.status = .running ∧ Ended t below o ∧ ∃ v L, o = .returned v ∧ Q v t.heap L ∧ FrameEnd s o t L k n
theorem OwnEnd.go {Q : Option Value → Heap → List Loc → Prop} {k n : Nat} {A B : State} (st : ∀ t, Steps p.tables e below B t → Steps p.tables e below A t) (K : OwnEnd p e below s Q k n B) : OwnEnd p e below s Q k n A := by
  obtain ⟨t, o, h1, h2⟩ := K
  exact ⟨t, o, st t h1, h2⟩
theorem OwnEnd.stop {Q : Option Value → Heap → List Loc → Prop} {k n : Nat} {A : State} (X : Stand p l e R s m args below meth c T locs cells slots) (hlk : meth.locks = false) {v : Option Value} (hv : meth.sig.returnType = none → v = none)
    (st : ∀ fs, (∀ (f : JFrame) (acts : List Action), f.method = m → f.locked = none → f.entered = [] → (doReturn e (T.setTop f) acts v).1 = T.setFrames fs) → Steps p.tables e below A (T.setFrames fs))
    (hk : cells ≤ k) (hn : slots ≤ n) (hQ : Q v T.heap locs) : OwnEnd p e below s Q k n A := by
  obtain ⟨fs, hr, hrun, hended, hW, hsame⟩ := X.leave hv hlk
  exact ⟨_, _, st fs hr, hrun, hended, _, _, rfl, hQ, ⟨_, rfl⟩, hW, hsame.mono hk hn⟩
theorem OwnEnd.weak {Q Q' : Option Value → Heap → List Loc → Prop} {k n : Nat} {A : State} (K : OwnEnd p e below s Q k n A) (q : ∀ v h L, Q v h L → Q' v h L) : OwnEnd p e below s Q' k n A := by
  obtain ⟨t, o, h1, h2, h3, v, L, h4, h5, h6⟩ := K
  exact ⟨t, o, h1, h2, h3, v, L, h4, q _ _ _ h5, h6⟩
/-- the returns -/
theorem ownRetI {Q : Option Value → Heap → List Loc → Prop} {k n : Nat} (X : Stand p l e R s m args below meth c T locs cells slots) (hx : p.tables.exec = Jvm.exec) (hlk : meth.locks = false) {pc : Nat} {Ls : Array Slot} {z : Int32} {rest : List Value} (hret : meth.sig.returnType = some .int) (hd : decode c.code pc = .ok (.ireturn, 1))
    (hk : cells ≤ k) (hn : slots ≤ n) (hQ : Q (some (.int z)) T.heap locs) : OwnEnd p e below s Q k n (T.setTop (mkF m pc Ls (.int z :: rest))) :=
  OwnEnd.stop X hlk (fun q => by rw [hret] at q; cases q) (fun fs hr => retOut X hx hret rfl (Or.inl ⟨rfl, Or.inl rfl, z, rfl⟩) hd hr) hk hn hQ
theorem ownRetZ {Q : Option Value → Heap → List Loc → Prop} {k n : Nat} (X : Stand p l e R s m args below meth c T locs cells slots) (hx : p.tables.exec = Jvm.exec) (hlk : meth.locks = false) {pc : Nat} {Ls : Array Slot} {z : Int32} {rest : List Value} (hret : meth.sig.returnType = some .boolean) (hd : decode c.code pc = .ok (.ireturn, 1))
    (hk : cells ≤ k) (hn : slots ≤ n) (w : Int32) (hw : nar .boolean z = w) (hQ : Q (some (.int w)) T.heap locs) : OwnEnd p e below s Q k n (T.setTop (mkF m pc Ls (.int z :: rest))) :=
  OwnEnd.stop X hlk (fun q => by rw [hret] at q; cases q) (fun fs hr => retN X hx (t := .boolean) hret (by simp) hd (by rw [hw]; exact hr)) hk hn hQ
theorem ownRetJ {Q : Option Value → Heap → List Loc → Prop} {k n : Nat} (X : Stand p l e R s m args below meth c T locs cells slots) (hx : p.tables.exec = Jvm.exec) (hlk : meth.locks = false) {pc : Nat} {Ls : Array Slot} {z : Int64} {rest : List Value} (hret : meth.sig.returnType = some .long) (hd : decode c.code pc = .ok (.lreturn, 1))
    (hk : cells ≤ k) (hn : slots ≤ n) (hQ : Q (some (.long z)) T.heap locs) : OwnEnd p e below s Q k n (T.setTop (mkF m pc Ls (.long z :: rest))) :=
  OwnEnd.stop X hlk (fun q => by rw [hret] at q; cases q) (fun fs hr => retOut X hx hret rfl (Or.inr (Or.inl ⟨rfl, rfl, z, rfl⟩)) hd hr) hk hn hQ
theorem ownRetA {Q : Option Value → Heap → List Loc → Prop} {k n : Nat} (X : Stand p l e R s m args below meth c T locs cells slots) (hx : p.tables.exec = Jvm.exec) (hlk : meth.locks = false) {pc : Nat} {Ls : Array Slot} {w : Value} {rest : List Value} {t : FieldType} (hret : meth.sig.returnType = some t) (ht : t.isReference = true) (hw : w.isRef = true) (hn' : narrow t w = w) (hd : decode c.code pc = .ok (.areturn, 1))
    (hk : cells ≤ k) (hn : slots ≤ n) (hQ : Q (some w) T.heap locs) : OwnEnd p e below s Q k n (T.setTop (mkF m pc Ls (w :: rest))) :=
  OwnEnd.stop X hlk (fun q => by rw [hret] at q; cases q) (fun fs hr => retOut X hx hret hn' (Or.inr (Or.inr (Or.inr (Or.inr ⟨rfl, ht, hw⟩)))) hd hr) hk hn hQ
theorem ownRetV {Q : Option Value → Heap → List Loc → Prop} {k n : Nat} (X : Stand p l e R s m args below meth c T locs cells slots) (hx : p.tables.exec = Jvm.exec) (hlk : meth.locks = false) {pc : Nat} {Ls : Array Slot} (hret : meth.sig.returnType = none) (hd : decode c.code pc = .ok (.return_, 1))
    (hk : cells ≤ k) (hn : slots ≤ n) (hQ : Q none T.heap locs) : OwnEnd p e below s Q k n (T.setTop (mkF m pc Ls [])) :=
  OwnEnd.stop X hlk (fun _ => rfl) (fun fs hr => X.returnOut hx hret hd hr) hk hn hQ
/-- the calls, each by the callee's own theorem -/
theorem ownCallS (X : Stand p l e R s m args below meth c T locs cells slots) (hx : p.tables.exec = Jvm.exec) (hZ : Z.Warmed39 s.vm) {own : String} {index : Nat} {y : MethodName} {bytes : ByteArray} {maxL : Nat} {ret : Option FieldType} {rm : Room} {as' : Array Value} {Q : Option Value → Heap → List Loc → Prop} (hown : s.vm.findClass own = some m.cls)
    (w1 : (Cond.methodLink own index y).before a0 Z = true) (w2 : (Cond.static y).before a0 Z = true) (w3 : (Cond.initialized y.cls).before a0 Z = true) (w4 : (Cond.code y bytes maxL ret).before a0 Z = true) (hy : y.cls ≠ "java/lang/invoke/MethodHandle" ∧ y.cls ≠ "java/lang/invoke/VarHandle")
    (hM : MetFree l y (head1 [Cond.code y bytes maxL ret] rm) (fun a U => a = as' ∧ Z.Warmed39 U.vm ∧ U.heap = h) (fun _ _ _ _ _ => True) (fun _ U o U' => ∃ v L, o = .returned v ∧ Q v U'.heap L ∧ FrameEnd U o U' L rm.cells rm.slots)) (eT : T.heap = h)
    (W : Nat) (hf : rm.frames + 1 ≤ R.frames) (hl : W + (maxL + 11) + rm.locals ≤ R.locals) (hc : cells + rm.cells ≤ R.cells) (hs : slots + rm.slots ≤ R.slots) {g : JFrame} (hg : g.method = m) (hsize : g.locals.size = c.maxLocals) {argsL rest : List Value} (hlen : ∀ sig, parseMethodDescriptor y.desc = some sig → argsL.length = sig.parameters.length)
    (hstack : g.stack = argsL.reverse ++ rest) (has : argsL.toArray = as') (hW : 2 * g.monitorRoom + (rest.map fun v => v.category).sum ≤ W) (hdg : decode c.code g.pc = .ok (.invokestatic index, 3)) :
    ∃ (v : Option Value) (T' : State) (L : List Loc), Stand p l e R s m args below meth c T' (locs ++ L) (cells + rm.cells) (slots + rm.slots) ∧ Q v T'.heap L ∧ ∀ target, Steps p.tables e below (T'.setTop { g with pc := g.pc + 3, stack := v.toList ++ rest }) target → Steps p.tables e below (T.setTop g) target := by
  obtain ⟨v, vm₁, ⟨T', L', k', n'⟩, -, X', ⟨L, hQ, l', y', z'⟩, st⟩ := Jvm.LawKit.callS X hx hown (mvT hZ w1) (mvT hZ w2) (mvT hZ w3) (mvT hZ w4) hy (backOf (W := W) hM hZ w4 w3 hf hl) hg hsize hlen hstack hW hdg (fun _ _ => ⟨has, eT, hc, hs⟩)
  dsimp only [Pt.U, Pt.locs, Pt.cells, Pt.slots] at X' l' y' z' st hQ
  subst l' y' z'
  exact ⟨v, T', L, X', hQ, st⟩
theorem ownCallV (X : Stand p l e R s m args below meth c T locs cells slots) (hx : p.tables.exec = Jvm.exec) (hZ : Z.Warmed39 s.vm) {own C : String} {index : Nat} {y : MethodName} {bytes : ByteArray} {maxL : Nat} {ret : Option FieldType} {rm : Room} {as' : Array Value} {Q : Option Value → Heap → List Loc → Prop} (hown : s.vm.findClass own = some m.cls)
    (w1 : (Cond.methodLink own index y).before a0 Z = true) (w2 : (Cond.declares y).before a0 Z = true) (w5 : (Cond.selects C y y).before a0 Z = true) (w6 : (Cond.instanceMethod y).before a0 Z = true) (w3 : (Cond.initialized y.cls).before a0 Z = true) (w4 : (Cond.code y bytes maxL ret).before a0 Z = true) (hy : y.cls ≠ "java/lang/invoke/MethodHandle" ∧ y.cls ≠ "java/lang/invoke/VarHandle")
    (hM : MetFree l y (head1 [Cond.code y bytes maxL ret] rm) (fun a U => a = as' ∧ Z.Warmed39 U.vm ∧ U.heap = h) (fun _ _ _ _ _ => True) (fun _ U o U' => ∃ v L, o = .returned v ∧ Q v U'.heap L ∧ FrameEnd U o U' L rm.cells rm.slots)) (eT : T.heap = h) {b : Addr} (E : Exa Z h b C)
    (W : Nat) (hf : rm.frames + 1 ≤ R.frames) (hl : W + (maxL + 11) + rm.locals ≤ R.locals) (hc : cells + rm.cells ≤ R.cells) (hs : slots + rm.slots ≤ R.slots) {g : JFrame} (hg : g.method = m) (hsize : g.locals.size = c.maxLocals) {argsL rest : List Value} (hlen : ∀ sig, parseMethodDescriptor y.desc = some sig → argsL.length = sig.parameters.length)
    (hstack : g.stack = argsL.reverse ++ .ref b :: rest) (has : (.ref b :: argsL).toArray = as') (hW : 2 * g.monitorRoom + (rest.map fun v => v.category).sum ≤ W) (hdg : decode c.code g.pc = .ok (.invokevirtual index, 3)) :
    ∃ (v : Option Value) (T' : State) (L : List Loc), Stand p l e R s m args below meth c T' (locs ++ L) (cells + rm.cells) (slots + rm.slots) ∧ Q v T'.heap L ∧ ∀ target, Steps p.tables e below (T'.setTop { g with pc := g.pc + 3, stack := v.toList ++ rest }) target → Steps p.tables e below (T.setTop g) target := by
  obtain ⟨cq, kq, qa, qb, qc⟩ := isOf hZ eT E
  obtain ⟨v, vm₁, ⟨T', L', k', n'⟩, -, X', ⟨L, hQ, l', y', z'⟩, st⟩ := X.virtualBack hx hown (mvT hZ w1) (mvT hZ w2) (notFace_of_selects (args := #[]) (mvT hZ w5)) (mvT hZ w5) (mvT hZ w6) hy (backOf (W := W) hM hZ w4 w3 hf hl) qa qc hg hsize (Steps.refl _) hlen hstack hW hdg (fun _ _ => ⟨has, eT, hc, hs⟩)
  dsimp only [Pt.U, Pt.locs, Pt.cells, Pt.slots] at X' l' y' z' st hQ
  subst l' y' z'
  exact ⟨v, T', L, X', hQ, fun _ k => st.trans k⟩
theorem ownCallI (X : Stand p l e R s m args below meth c T locs cells slots) (hx : p.tables.exec = Jvm.exec) (hZ : Z.Warmed39 s.vm) {own : String} {index : Nat} {y : MethodName} {bytes : ByteArray} {maxL : Nat} {rm : Room} {as' : Array Value} {Q : Option Value → Heap → List Loc → Prop} (hown : s.vm.findClass own = some m.cls) (hy1 : y.name = "<init>")
    (w1 : (Cond.methodLink own index y).before a0 Z = true) (w6 : (Cond.instanceMethod y).before a0 Z = true) (w3 : (Cond.initialized y.cls).before a0 Z = true) (w4 : (Cond.code y bytes maxL none).before a0 Z = true) (hy : y.cls ≠ "java/lang/invoke/MethodHandle" ∧ y.cls ≠ "java/lang/invoke/VarHandle")
    (hM : MetFree l y (head1 [Cond.code y bytes maxL none] rm) (fun a U => a = as' ∧ Z.Warmed39 U.vm ∧ U.heap = h) (fun _ _ _ _ _ => True) (fun _ U o U' => ∃ v L, o = .returned v ∧ Q v U'.heap L ∧ FrameEnd U o U' L rm.cells rm.slots)) (eT : T.heap = h) {b : Addr}
    (W : Nat) (hf : rm.frames + 1 ≤ R.frames) (hl : W + (maxL + 11) + rm.locals ≤ R.locals) (hc : cells + rm.cells ≤ R.cells) (hs : slots + rm.slots ≤ R.slots) {g : JFrame} (hg : g.method = m) (hsize : g.locals.size = c.maxLocals) {argsL rest : List Value} (hlen : ∀ sig, parseMethodDescriptor y.desc = some sig → argsL.length = sig.parameters.length)
    (hstack : g.stack = argsL.reverse ++ .ref b :: rest) (has : (.ref b :: argsL).toArray = as') (hW : 2 * g.monitorRoom + (rest.map fun v => v.category).sum ≤ W) (hdg : decode c.code g.pc = .ok (.invokespecial index, 3)) :
    ∃ (v : Option Value) (T' : State) (L : List Loc), Stand p l e R s m args below meth c T' (locs ++ L) (cells + rm.cells) (slots + rm.slots) ∧ Q v T'.heap L ∧ ∀ target, Steps p.tables e below (T'.setTop { g with pc := g.pc + 3, stack := v.toList ++ rest }) target → Steps p.tables e below (T.setTop g) target := by
  obtain ⟨v, vm₁, ⟨T', L', k', n'⟩, -, X', ⟨L, hQ, l', y', z'⟩, st⟩ := X.specialBack hx hy1 hown (mvT hZ w1) (mvT hZ w6) (mvT hZ w4) hy (backOf (W := W) hM hZ w4 w3 hf hl) hg hsize (Steps.refl _) hlen hstack hW hdg (fun _ _ => ⟨has, eT, hc, hs⟩)
  dsimp only [Pt.U, Pt.locs, Pt.cells, Pt.slots] at X' l' y' z' st hQ
  subst l' y' z'
  exact ⟨v, T', L, X', hQ, fun _ k => st.trans k⟩
end Own
section Own2
variable {p : Program} {l : Launch} {e : Env} {R : Room} {s : State} {m : MethodId} {args : Array Value} {below : List Frame} {meth : Method} {c : Code} {T : State} {locs : List Loc} {cells slots : Nat} {Z : State} {a0 : Array Value} {h : Heap}
/-- branches behind lcmp -/
theorem ownLt {x y : Int64} (q : x < y) : ifCond.holds .lt (lcmpW x y) = true ∧ ifCond.holds .ge (lcmpW x y) = false ∧ ifCond.holds .gt (lcmpW y x) = true ∧ ifCond.holds .le (lcmpW y x) = false := by
  simp only [if0]
  have h1 : lcmpW x y < 0 := by rw [lcW]; exact (lc_lt x y).2 q
  have h2 : 0 < lcmpW y x := by rw [lcW]; exact (lc_gt y x).2 q
  exact ⟨(tlt h1).1, (tlt h1).2.1, (tlt h2).2.2.1, (tlt h2).2.2.2⟩
theorem ownNlt {x y : Int64} (q : ¬ x < y) : ifCond.holds .lt (lcmpW x y) = false ∧ ifCond.holds .ge (lcmpW x y) = true ∧ ifCond.holds .gt (lcmpW y x) = false ∧ ifCond.holds .le (lcmpW y x) = true := by
  simp only [if0]
  have h1 : ¬ lcmpW x y < 0 := by rw [lcW]; exact fun z => q ((lc_lt x y).1 z)
  have h2 : ¬ 0 < lcmpW y x := by rw [lcW]; exact fun z => q ((lc_gt y x).1 z)
  exact ⟨(flt h1).1, (flt h1).2.1, (flt h2).2.2.1, (flt h2).2.2.2⟩
theorem ownEq {x y : Int64} (q : x = y) : ifCond.holds .eq (lcmpW x y) = true ∧ ifCond.holds .ne (lcmpW x y) = false := by
  simp only [if0]
  have h1 : lcmpW x y = 0 := by rw [lcW]; exact (lc_eq x y).2 q
  exact teq h1
theorem ownNeq {x y : Int64} (q : ¬ x = y) : ifCond.holds .eq (lcmpW x y) = false ∧ ifCond.holds .ne (lcmpW x y) = true := by
  simp only [if0]
  have h1 : ¬ lcmpW x y = 0 := by rw [lcW]; exact fun z => q ((lc_eq x y).1 z)
  exact feq h1
theorem ownLrem {tb : Tables} [Ours tb] {e : Env} {below : List Frame} {T target : State} {m : MethodId} {c : Code} {g : JFrame} (h : At T m c below) (hx : tb.exec = Jvm.exec) (hg : g.method = m) {x y : Int64} {rest : List Value} (hd : decode c.code g.pc = .ok (.lrem, 1)) (hs : g.stack = .long y :: .long x :: rest) (hy : y ≠ 0)
    (hr : Steps tb e below (T.setTop { g with pc := g.pc + 1, stack := .long (x % y) :: rest }) target) : Steps tb e below (T.setTop g) target :=
  XS.lrem h hx hg hd hs hy (by rw [lrem_mod]; exact hr)
theorem ownLen (X : Stand p l e R s m args below meth c T locs cells slots) (hx : p.tables.exec = Jvm.exec) (hZ : Z.Warmed39 s.vm) (eT : T.heap = h) {a : Addr} {cl : Cell} {ty : FieldType} {z : Int32} (A : Arr Z h a cl ty) (S : cl.slots.size = z.toNatClampNeg) (q : ¬ z < 0) {g : JFrame} (hg : g.method = m) {rest : List Value} (hs : g.stack = .ref a :: rest) (hd : decode c.code g.pc = .ok (.arraylength, 1)) :
    ∀ target, Steps p.tables e below (T.setTop { g with pc := g.pc + 1, stack := .int z :: rest }) target → Steps p.tables e below (T.setTop g) target := fun target k =>
  X.arraylength hx (by rw [eT]; exact A.1) (State.isArrayOf_alike hZ.alike A.2.1) hg hs hd target (by rw [len_of S q]; exact k)
theorem ownOrd {C f d : String} {a : Addr} {v : Int32} {args : Array Value} (ev : (Term.static C f d).eval args Z none [] Z = some (.ref a)) (hq : (Jvm.Cond.eq (Term.field (Term.static C f d) "java/lang/Enum" "ordinal" "I") (Term.int v)).value args Z none Z [] = some true) : Fld Z Z.heap a "java/lang/Enum" "ordinal" "I" (.int v) := by
  obtain ⟨x, y, h1, h2, h3, h4⟩ := cmp_v (Or.inl hq)
  rw [fld_at ev] at h1
  cases h2
  obtain ⟨z, rfl⟩ := h4
  have h5 : (Term.field (Term.static C f d) "java/lang/Enum" "ordinal" "I").eval args Z none [] Z = some (.int z) := by rw [fld_at ev]; exact h1
  have : z = v := gotT (Cond.eq_ints h5 (Term.int_eval v)) hq
  subst this
  exact Fld.start h1
end Own2
section Own3
variable {p : Program} {l : Launch} {e : Env} {R : Room} {s : State} {m : MethodId} {args : Array Value} {below : List Frame} {meth : Method} {c : Code} {T : State} {locs : List Loc} {cells slots : Nat} {Z : State} {a0 : Array Value} {h : Heap}
/-- two ways that come to one place, the heap as it was -/
def ownDia {α : Type} (X : Stand p l e R s m args below meth c T locs cells slots) (h : Heap) (P : α → Prop) (f : α → JFrame) (g : JFrame) : Prop :=
  ∃ (T' : State) (v : α), Stand p l e R s m args below meth c T' locs cells slots ∧ T'.heap = h ∧ P v ∧ ∀ t, Steps p.tables e below (T'.setTop (f v)) t → Steps p.tables e below (T.setTop g) t
end Own3
section OwnArr
variable {p : Program} {l : Launch} {e : Env} {R : Room} {s : State} {m : MethodId} {args : Array Value} {below : List Frame} {meth : Method} {c : Code} {T : State} {locs : List Loc} {cells slots : Nat} {Z : State} {a0 : Array Value} {h h' : Heap} {a b : Addr} {n z j : Int32} {f : Nat → Int32} {sl : Nat} {v : Value} {ws : List Addr}
/-- an int[] of n components, the i-th of which holds f i -/
def ownA (Z : State) (h : Heap) (a : Addr) (n : Int32) (f : Nat → Int32) : Prop := ∃ (k : ClassId) (vs : List Value), Arv Z h a k .int n vs (.int (0 : Int32)) ∧ vs.length = n.toNatClampNeg ∧ ∀ i, i < n.toNatClampNeg → vs.getD i (.int (0 : Int32)) = .int (f i)
/-- a long[] of n components -/
def ownL (Z : State) (h : Heap) (a : Addr) (n : Int32) : Prop := ∃ (k : ClassId) (vs : List Value), Arv Z h a k .long n vs (.long (0 : Int64)) ∧ vs.length = n.toNatClampNeg ∧ ∀ i, i < n.toNatClampNeg → ∃ x : Int64, vs.getD i (.long (0 : Int64)) = .long x
def own_upd (f : Nat → Int32) (j : Int32) (x : Int32) : Nat → Int32 := fun i => if i = j.toNatClampNeg then x else f i
theorem ownA.lt (F : ownA Z h a n f) : a < h.size := by obtain ⟨k, vs, A, -⟩ := F; exact A.lt
theorem ownL.lt (F : ownL Z h a n) : a < h.size := by obtain ⟨k, vs, A, -⟩ := F; exact A.lt
theorem ownA.ext (F : ownA Z h a n f) (E : Ext h h') : ownA Z h' a n f := by obtain ⟨k, vs, A, r⟩ := F; exact ⟨k, vs, A.ext E, r⟩
theorem ownL.ext (F : ownL Z h a n) (E : Ext h h') : ownL Z h' a n := by obtain ⟨k, vs, A, r⟩ := F; exact ⟨k, vs, A.ext E, r⟩
theorem ownA.other (F : ownA Z h b n f) (W : Wr h h' a sl v) (q : b ≠ a) : ownA Z h' b n f := by obtain ⟨k, vs, A, r⟩ := F; exact ⟨k, vs, A.other W q, r⟩
theorem ownL.other (F : ownL Z h b n) (W : Wr h h' a sl v) (q : b ≠ a) : ownL Z h' b n := by obtain ⟨k, vs, A, r⟩ := F; exact ⟨k, vs, A.other W q, r⟩
theorem ownA.keep (F : ownA Z h a n f) (K : Keep h h' ws) (q : a ∉ ws) : ownA Z h' a n f := by obtain ⟨k, vs, A, r⟩ := F; exact ⟨k, vs, A.keep K q, r⟩
theorem ownL.keep (F : ownL Z h a n) (K : Keep h h' ws) (q : a ∉ ws) : ownL Z h' a n := by obtain ⟨k, vs, A, r⟩ := F; exact ⟨k, vs, A.keep K q, r⟩
theorem ownA.congr {g : Nat → Int32} (F : ownA Z h a n f) (q : ∀ i, i < n.toNatClampNeg → f i = g i) : ownA Z h a n g := by obtain ⟨k, vs, A, r, H⟩ := F; exact ⟨k, vs, A, r, fun i hi => by rw [H i hi, q i hi]⟩
theorem ownA.new {k : ClassId} (A : Arr Z h a (newA k .int z) .int) (q : ¬ z < 0) : ownA Z h a z (fun _ => 0) :=
  ⟨k, List.replicate z.toNatClampNeg (.int (0 : Int32)), (Arv.new A q).pad (pad_rep [] (.int (0 : Int32)) z.toNatClampNeg), by simp, fun i hi => by simp [List.getD_eq_getElem?_getD, hi]⟩
theorem ownL.new {k : ClassId} (A : Arr Z h a (newA k .long z) .long) (q : ¬ z < 0) : ownL Z h a z :=
  ⟨k, List.replicate z.toNatClampNeg (.long (0 : Int64)), (Arv.new A q).pad (pad_rep [] (.long (0 : Int64)) z.toNatClampNeg), by simp, fun i hi => ⟨0, by simp [List.getD_eq_getElem?_getD, hi]⟩⟩
theorem own_natlt (q : ¬ j < 0 ∧ j < n) : j.toNatClampNeg < n.toNatClampNeg := by
  obtain ⟨q1, q2⟩ := q
  rw [Int32.lt_iff_toInt_lt] at q1 q2
  have e : (0 : Int32).toInt = 0 := rfl
  simp only [Int32.toNatClampNeg]
  omega
theorem ownAload (X : Stand p l e R s m args below meth c T locs cells slots) (hx : p.tables.exec = Jvm.exec) (hZ : Z.Warmed39 s.vm) (eT : T.heap = h) (F : ownA Z h a n f) (q : ¬ j < 0 ∧ j < n) {g : JFrame} (hg : g.method = m) {rest : List Value} (hs : g.stack = .int j :: .ref a :: rest) (hd : decode c.code g.pc = .ok (.iaload, 1)) :
    ∀ target, Steps p.tables e below (T.setTop { g with pc := g.pc + 1, stack := .int (f j.toNatClampNeg) :: rest }) target → Steps p.tables e below (T.setTop g) target := by
  obtain ⟨k, vs, ⟨cl, Ar, q1, S, G, H, J⟩, len, U⟩ := F
  have i := inb_of S q
  exact X.iaload hx (by rw [eT]; exact Ar.1) (State.isArrayOf_alike hZ.alike Ar.2.1) Ar.2.2 i (Has.at H i (U _ (own_natlt q))) hg hs hd
theorem ownLload (X : Stand p l e R s m args below meth c T locs cells slots) (hx : p.tables.exec = Jvm.exec) (hZ : Z.Warmed39 s.vm) (eT : T.heap = h) (F : ownL Z h a n) (q : ¬ j < 0 ∧ j < n) {g : JFrame} (hg : g.method = m) {rest : List Value} (hs : g.stack = .int j :: .ref a :: rest) (hd : decode c.code g.pc = .ok (.laload, 1)) :
    ∃ x : Int64, ∀ target, Steps p.tables e below (T.setTop { g with pc := g.pc + 1, stack := .long x :: rest }) target → Steps p.tables e below (T.setTop g) target := by
  obtain ⟨k, vs, ⟨cl, Ar, q1, S, G, H, J⟩, len, U⟩ := F
  have i := inb_of S q
  obtain ⟨x, ux⟩ := U _ (own_natlt q)
  exact ⟨x, X.laload hx (by rw [eT]; exact Ar.1) (State.isArrayOf_alike hZ.alike Ar.2.1) Ar.2.2 i (Has.at H i ux) hg hs hd⟩
theorem ownAstore {x : Int32} (X : Stand p l e R s m args below meth c T locs cells slots) (hx : p.tables.exec = Jvm.exec) (hZ : Z.Warmed39 s.vm) (eT : T.heap = h) (F : ownA Z h a n f) (q : ¬ j < 0 ∧ j < n) {g : JFrame} (hg : g.method = m) {rest : List Value} (hs : g.stack = .int x :: .int j :: .ref a :: rest) (hd : decode c.code g.pc = .ok (.iastore, 1)) :
    ∃ T' h', Stand p l e R s m args below meth c T' (locs ++ [⟨a, j.toNatClampNeg⟩]) cells slots ∧ T'.heap = h' ∧ Wr h h' a j.toNatClampNeg (.int x) ∧ ownA Z h' a n (own_upd f j x) ∧ ∀ target, Steps p.tables e below (T'.setTop { g with pc := g.pc + 1, stack := rest }) target → Steps p.tables e below (T.setTop g) target := by
  obtain ⟨k, vs, ⟨cl, Ar, q1, S, G, H, J⟩, len, U⟩ := F
  obtain ⟨T', h', X', e', W, st⟩ := stI X hx hZ eT Ar (inb_of S q) hg hs hd
  have hl := own_natlt q
  refine ⟨T', h', X', e', W, ⟨k, vs.set j.toNatClampNeg (.int x), Arv.set Ar q1 S G H J rfl W _ rfl (by rw [len]; exact hl), by rw [List.length_set]; exact len, fun i hi => ?_⟩, st⟩
  have U' := U i hi
  rw [List.getD_eq_getElem?_getD] at U' ⊢
  rw [List.getElem?_set]
  unfold own_upd
  by_cases w : j.toNatClampNeg = i
  · subst w; rw [if_pos rfl, if_pos rfl, if_pos (by rw [len]; exact hl)]; rfl
  · rw [if_neg w, if_neg (fun z => w z.symm)]; exact U'
theorem ownLstore {x : Int64} (X : Stand p l e R s m args below meth c T locs cells slots) (hx : p.tables.exec = Jvm.exec) (hZ : Z.Warmed39 s.vm) (eT : T.heap = h) (F : ownL Z h a n) (q : ¬ j < 0 ∧ j < n) {g : JFrame} (hg : g.method = m) {rest : List Value} (hs : g.stack = .long x :: .int j :: .ref a :: rest) (hd : decode c.code g.pc = .ok (.lastore, 1)) :
    ∃ T' h', Stand p l e R s m args below meth c T' (locs ++ [⟨a, j.toNatClampNeg⟩]) cells slots ∧ T'.heap = h' ∧ Wr h h' a j.toNatClampNeg (.long x) ∧ ownL Z h' a n ∧ ∀ target, Steps p.tables e below (T'.setTop { g with pc := g.pc + 1, stack := rest }) target → Steps p.tables e below (T.setTop g) target := by
  obtain ⟨k, vs, ⟨cl, Ar, q1, S, G, H, J⟩, len, U⟩ := F
  obtain ⟨T', h', X', e', W, st⟩ := stJ X hx hZ eT Ar (inb_of S q) hg hs hd
  have hl := own_natlt q
  refine ⟨T', h', X', e', W, ⟨k, vs.set j.toNatClampNeg (.long x), Arv.set Ar q1 S G H J rfl W _ rfl (by rw [len]; exact hl), by rw [List.length_set]; exact len, fun i hi => ?_⟩, st⟩
  obtain ⟨y, U'⟩ := U i hi
  rw [List.getD_eq_getElem?_getD] at U' ⊢
  rw [List.getElem?_set]
  by_cases w : j.toNatClampNeg = i
  · subst w; exact ⟨x, by rw [if_pos rfl, if_pos (by rw [len]; exact hl)]; rfl⟩
  · exact ⟨y, by rw [if_neg w]; exact U'⟩
theorem ownAlen (X : Stand p l e R s m args below meth c T locs cells slots) (hx : p.tables.exec = Jvm.exec) (hZ : Z.Warmed39 s.vm) (eT : T.heap = h) (F : ownA Z h a n f) {g : JFrame} (hg : g.method = m) {rest : List Value} (hs : g.stack = .ref a :: rest) (hd : decode c.code g.pc = .ok (.arraylength, 1)) :
    ∀ target, Steps p.tables e below (T.setTop { g with pc := g.pc + 1, stack := .int n :: rest }) target → Steps p.tables e below (T.setTop g) target := by
  obtain ⟨k, vs, ⟨cl, Ar, q1, S, G, H, J⟩, len, U⟩ := F
  exact ownLen X hx hZ eT Ar S G hg hs hd
theorem ownLlen (X : Stand p l e R s m args below meth c T locs cells slots) (hx : p.tables.exec = Jvm.exec) (hZ : Z.Warmed39 s.vm) (eT : T.heap = h) (F : ownL Z h a n) {g : JFrame} (hg : g.method = m) {rest : List Value} (hs : g.stack = .ref a :: rest) (hd : decode c.code g.pc = .ok (.arraylength, 1)) :
    ∀ target, Steps p.tables e below (T.setTop { g with pc := g.pc + 1, stack := .int n :: rest }) target → Steps p.tables e below (T.setTop g) target := by
  obtain ⟨k, vs, ⟨cl, Ar, q1, S, G, H, J⟩, len, U⟩ := F
  exact ownLen X hx hZ eT Ar S G hg hs hd
def own_cp (N : Nat) (f g : Nat → Int32) : Nat → Int32 := fun i => if i < N then f i else g i
theorem own_getD_app {α : Type} (us ws : List α) (d : α) (i : Nat) : (us ++ ws).getD i d = if i < us.length then us.getD i d else ws.getD (i - us.length) d := by
  simp only [List.getD_eq_getElem?_getD]
  by_cases q : i < us.length
  · rw [if_pos q, List.getElem?_append_left q]
  · rw [if_neg q, List.getElem?_append_right (Nat.le_of_not_lt q)]
theorem own_getD_drop {α : Type} (ws : List α) (d : α) (k i : Nat) : (ws.drop k).getD i d = ws.getD (k + i) d := by
  simp only [List.getD_eq_getElem?_getD, List.getElem?_drop]
theorem own_getD_range {α : Type} (f : Nat → α) (d : α) (k i : Nat) (q : i < k) : ((List.range k).map f).getD i d = f i := by
  simp [List.getD_eq_getElem?_getD, q]
theorem ownAcopy {n' nn : Int32} {g' : Nat → Int32} (X : Stand p l e R s m args below meth c T locs cells slots) (hx : p.tables.exec = Jvm.exec) (hZ : Z.Warmed39 s.vm) {own : String} {index : Nat} (hown : s.vm.findClass own = some m.cls)
    (w1 : (Cond.methodLink own index Jvm.Stand.acN).before a0 Z = true) (w2 : (Cond.native Jvm.Stand.acN).before a0 Z = true) (w3 : (Cond.static Jvm.Stand.acN).before a0 Z = true) (w4 : (Cond.initialized "java/lang/System").before a0 Z = true) (eT : T.heap = h)
    (A : ownA Z h a n f) (B : ownA Z h b n' g') (h3 : ¬ nn < 0) (h4 : nn.toNatClampNeg ≤ n.toNatClampNeg ∧ nn.toNatClampNeg ≤ n'.toNatClampNeg) {n0 : Nat} (N : Fr n0 locs) (ge : n0 ≤ b)
    {g : JFrame} (hg : g.method = m) (hsize : g.locals.size = c.maxLocals) {rest : List Value} (hs : g.stack = .int nn :: .int (0 : Int32) :: .ref b :: .int (0 : Int32) :: .ref a :: rest) (hd : decode c.code g.pc = .ok (.invokestatic index, 3))
    (hf : 1 ≤ R.frames) (W : Nat) (hW : 2 * g.monitorRoom + (rest.map fun v => v.category).sum ≤ W) (hlo : W + (nativeFrameWords "java/lang/System" "arraycopy" 5 + 11) ≤ R.locals) :
    ∃ T' h' L, Stand p l e R s m args below meth c T' L cells slots ∧ T'.heap = h' ∧ Fr n0 L ∧ Keep h h' [b] ∧ ownA Z h' b n' (own_cp nn.toNatClampNeg f g') ∧ ∀ target, Steps p.tables e below (T'.setTop { g with pc := g.pc + 3, stack := rest }) target → Steps p.tables e below (T.setTop g) target := by
  obtain ⟨k, vs, A, la, U⟩ := A
  obtain ⟨k', vd, B, lb, V⟩ := B
  obtain ⟨T', h', L, X', e', N', K, AV, st⟩ := cpA X hx hZ hown w1 w2 w3 w4 eT A B (Or.inl ⟨rfl, rfl⟩) (by decide) (by decide) h3 (by show 0 + _ ≤ _; omega) (by show 0 + _ ≤ _; omega) rfl (by show 0 + _ ≤ _; omega) N ge hg hsize hs hd hf hW hlo
  refine ⟨T', h', L, X', e', N', K, ⟨k', _, AV, ?_, fun i hi => ?_⟩, st⟩
  · show (List.take 0 vd ++ _ ++ List.drop (0 + _) vd).length = _
    simp
    omega
  · show (List.take 0 vd ++ _ ++ List.drop (0 + _) vd).getD i _ = _
    rw [List.take_zero, List.nil_append, own_getD_app, List.length_map, List.length_range]
    unfold own_cp
    by_cases q : i < nn.toNatClampNeg
    · rw [if_pos q, if_pos q, own_getD_range _ _ _ _ q]
      show vs.getD (0 + i) _ = _
      rw [Nat.zero_add]
      exact U i (by omega)
    · rw [if_neg q, if_neg q, own_getD_drop]
      have e : 0 + nn.toNatClampNeg + (i - nn.toNatClampNeg) = i := by omega
      rw [e]
      exact V i hi
theorem ownLcopy {n' nn : Int32} (X : Stand p l e R s m args below meth c T locs cells slots) (hx : p.tables.exec = Jvm.exec) (hZ : Z.Warmed39 s.vm) {own : String} {index : Nat} (hown : s.vm.findClass own = some m.cls)
    (w1 : (Cond.methodLink own index Jvm.Stand.acN).before a0 Z = true) (w2 : (Cond.native Jvm.Stand.acN).before a0 Z = true) (w3 : (Cond.static Jvm.Stand.acN).before a0 Z = true) (w4 : (Cond.initialized "java/lang/System").before a0 Z = true) (eT : T.heap = h)
    (A : ownL Z h a n) (B : ownL Z h b n') (h3 : ¬ nn < 0) (h4 : nn.toNatClampNeg ≤ n.toNatClampNeg ∧ nn.toNatClampNeg ≤ n'.toNatClampNeg) {n0 : Nat} (N : Fr n0 locs) (ge : n0 ≤ b)
    {g : JFrame} (hg : g.method = m) (hsize : g.locals.size = c.maxLocals) {rest : List Value} (hs : g.stack = .int nn :: .int (0 : Int32) :: .ref b :: .int (0 : Int32) :: .ref a :: rest) (hd : decode c.code g.pc = .ok (.invokestatic index, 3))
    (hf : 1 ≤ R.frames) (W : Nat) (hW : 2 * g.monitorRoom + (rest.map fun v => v.category).sum ≤ W) (hlo : W + (nativeFrameWords "java/lang/System" "arraycopy" 5 + 11) ≤ R.locals) :
    ∃ T' h' L, Stand p l e R s m args below meth c T' L cells slots ∧ T'.heap = h' ∧ Fr n0 L ∧ Keep h h' [b] ∧ ownL Z h' b n' ∧ ∀ target, Steps p.tables e below (T'.setTop { g with pc := g.pc + 3, stack := rest }) target → Steps p.tables e below (T.setTop g) target := by
  obtain ⟨k, vs, A, la, U⟩ := A
  obtain ⟨k', vd, B, lb, V⟩ := B
  obtain ⟨T', h', L, X', e', N', K, AV, st⟩ := cpA X hx hZ hown w1 w2 w3 w4 eT A B (Or.inl ⟨rfl, rfl⟩) (by decide) (by decide) h3 (by show 0 + _ ≤ _; omega) (by show 0 + _ ≤ _; omega) rfl (by show 0 + _ ≤ _; omega) N ge hg hsize hs hd hf hW hlo
  refine ⟨T', h', L, X', e', N', K, ⟨k', _, AV, ?_, fun i hi => ?_⟩, st⟩
  · show (List.take 0 vd ++ _ ++ List.drop (0 + _) vd).length = _
    simp
    omega
  · show ∃ x, (List.take 0 vd ++ _ ++ List.drop (0 + _) vd).getD i _ = _
    rw [List.take_zero, List.nil_append, own_getD_app, List.length_map, List.length_range]
    by_cases q : i < nn.toNatClampNeg
    · rw [if_pos q, own_getD_range _ _ _ _ q]
      show ∃ x, vs.getD (0 + i) _ = _
      rw [Nat.zero_add]
      exact U i (by omega)
    · rw [if_neg q, own_getD_drop]
      have e : 0 + nn.toNatClampNeg + (i - nn.toNatClampNeg) = i := by omega
      rw [e]
      exact V i hi
end OwnArr
section OwnPriv
variable {p : Program} {l : Launch} {e : Env} {R : Room} {s : State} {m : MethodId} {args : Array Value} {below : List Frame} {meth : Method} {c : Code} {T : State} {locs : List Loc} {cells slots : Nat} {Z : State} {a0 : Array Value} {h : Heap}
theorem ownSel {y : MethodName} {n : Nat} (hy : y.cls ≠ "java/lang/invoke/MethodHandle" ∧ y.cls ≠ "java/lang/invoke/VarHandle") (hins : (Cond.instantiable y.cls n).before a0 Z = true) (hpriv : (Cond.privateMethod y).before a0 Z = true) (hinst : (Cond.instanceMethod y).before a0 Z = true) : (Cond.selects y.cls y y).before a0 Z = true := Jvm.Kit.selects_private hy hins hpriv hinst
theorem ownCallP (X : Stand p l e R s m args below meth c T locs cells slots) (hx : p.tables.exec = Jvm.exec) (hZ : Z.Warmed39 s.vm) {own : String} {index : Nat} {y : MethodName} {bytes : ByteArray} {maxL : Nat} {ret : Option FieldType} {rm : Room} {as' : Array Value} {Q : Option Value → Heap → List Loc → Prop} (hown : s.vm.findClass own = some m.cls)
    (w1 : (Cond.methodLink own index y).before a0 Z = true) (w2 : (Cond.privateMethod y).before a0 Z = true) (w5 : (Cond.selects y.cls y y).before a0 Z = true) (w6 : (Cond.instanceMethod y).before a0 Z = true) (w3 : (Cond.initialized y.cls).before a0 Z = true) (w4 : (Cond.code y bytes maxL ret).before a0 Z = true) (hy : y.cls ≠ "java/lang/invoke/MethodHandle" ∧ y.cls ≠ "java/lang/invoke/VarHandle")
    (hM : MetFree l y (head1 [Cond.code y bytes maxL ret] rm) (fun a U => a = as' ∧ Z.Warmed39 U.vm ∧ U.heap = h) (fun _ _ _ _ _ => True) (fun _ U o U' => ∃ v L, o = .returned v ∧ Q v U'.heap L ∧ FrameEnd U o U' L rm.cells rm.slots)) (eT : T.heap = h) {b : Addr} {C : String} (E : Exa Z h b C)
    (W : Nat) (hf : rm.frames + 1 ≤ R.frames) (hl : W + (maxL + 11) + rm.locals ≤ R.locals) (hc : cells + rm.cells ≤ R.cells) (hs : slots + rm.slots ≤ R.slots) {g : JFrame} (hg : g.method = m) (hsize : g.locals.size = c.maxLocals) {argsL rest : List Value} (hlen : ∀ sig, parseMethodDescriptor y.desc = some sig → argsL.length = sig.parameters.length)
    (hstack : g.stack = argsL.reverse ++ .ref b :: rest) (has : (.ref b :: argsL).toArray = as') (hW : 2 * g.monitorRoom + (rest.map fun v => v.category).sum ≤ W) (hdg : decode c.code g.pc = .ok (.invokevirtual index, 3)) :
    ∃ (v : Option Value) (T' : State) (L : List Loc), Stand p l e R s m args below meth c T' (locs ++ L) (cells + rm.cells) (slots + rm.slots) ∧ Q v T'.heap L ∧ ∀ target, Steps p.tables e below (T'.setTop { g with pc := g.pc + 3, stack := v.toList ++ rest }) target → Steps p.tables e below (T.setTop g) target := by
  obtain ⟨cq, qa, qb⟩ := E.cell
  obtain ⟨v, vm₁, ⟨T', L', k', n'⟩, -, X', ⟨L, hQ, l', y', z'⟩, st⟩ := X.privateBack hx hown (mvT hZ w1) (mvT hZ w6) (mvT hZ w5) (Cond.privateMethod_at (mvP hZ w2 (args := #[]))) (mvT hZ w4) hy (backOf (W := W) hM hZ w4 w3 hf hl) hg hsize (Steps.refl _) (by rw [eT]; exact qa) qb hlen hstack hW hdg (fun _ _ => ⟨has, eT, hc, hs⟩)
  dsimp only [Pt.U, Pt.locs, Pt.cells, Pt.slots] at X' l' y' z' st hQ
  subst l' y' z'
  exact ⟨v, T', L, X', hQ, fun _ k => st.trans k⟩
end OwnPriv

def ownTQ (Z : State) (h : Heap) (n0 : Nat) (a ha ta pa : Addr) (sz cap f0 f1 : Int32) (pf : Nat → Int32) : Prop := n0 ≤ a ∧ n0 ≤ ha ∧ n0 ≤ ta ∧ n0 ≤ pa ∧ a ≠ ha ∧ a ≠ ta ∧ a ≠ pa ∧ ha ≠ ta ∧ ha ≠ pa ∧ ta ≠ pa ∧ Exa Z h a "com/example/volens/volens/core/agent/TurnQueue" ∧ Fld Z h a "com/example/volens/volens/core/agent/TurnQueue" "heap" "[I" (.ref ha) ∧ Fld Z h a "com/example/volens/volens/core/agent/TurnQueue" "ticks" "[J" (.ref ta) ∧ Fld Z h a "com/example/volens/volens/core/agent/TurnQueue" "places" "[I" (.ref pa) ∧ Fld Z h a "com/example/volens/volens/core/agent/TurnQueue" "size" "I" (.int sz) ∧ (∃ k : ClassId, Arv Z h ha k .int (16 : Int32) [(.int f0), (.int f1), (.int (0 : Int32)), (.int (0 : Int32)), (.int (0 : Int32)), (.int (0 : Int32)), (.int (0 : Int32)), (.int (0 : Int32)), (.int (0 : Int32)), (.int (0 : Int32)), (.int (0 : Int32)), (.int (0 : Int32)), (.int (0 : Int32)), (.int (0 : Int32)), (.int (0 : Int32)), (.int (0 : Int32))] (.int (0 : Int32))) ∧ ownL Z h ta cap ∧ ownA Z h pa cap pf

theorem ownA.pos {Z : State} {h : Heap} {a : Addr} {n : Int32} {f : Nat → Int32} (F : ownA Z h a n f) : ¬ n < 0 := by obtain ⟨k, vs, ⟨cl, Ar, q1, S, G, H, J⟩, len, U⟩ := F; exact G
theorem own_loop0 {n i : Int32} (h : n.toInt - i.toInt = ((0 : Nat) : Int)) : ¬ i < n ∧ n.toNatClampNeg = i.toNatClampNeg := by
  constructor
  · rw [Int32.lt_iff_toInt_lt]; omega
  · simp only [Int32.toNatClampNeg]; congr 1; omega
theorem own_loopS {n i : Int32} {d : Nat} (h0 : ¬ i < 0) (h : n.toInt - i.toInt = ((d + 1 : Nat) : Int)) : i < n ∧ ¬ (i + (1 : Int32)) < 0 ∧ ¬ n < (i + (1 : Int32)) ∧ n.toInt - (i + (1 : Int32)).toInt = (d : Int) ∧ (i + (1 : Int32)).toNatClampNeg = i.toNatClampNeg + 1 := by
  have r1 := Int32.toInt_lt n
  have e1 : (1 : Int32).toInt = 1 := by decide
  have e0 : (0 : Int32).toInt = 0 := by decide
  rw [Int32.lt_iff_toInt_lt, e0] at h0
  have h2 : (i + (1 : Int32)).toInt = i.toInt + 1 := by rw [XT.add32 ⟨by rw [e1]; omega, by rw [e1]; omega⟩, e1]
  refine ⟨?_, ?_, ?_, ?_, ?_⟩
  · rw [Int32.lt_iff_toInt_lt]; omega
  · rw [Int32.lt_iff_toInt_lt, h2, e0]; omega
  · rw [Int32.lt_iff_toInt_lt, h2]; omega
  · rw [h2]; omega
  · simp only [Int32.toNatClampNeg, h2]; omega
theorem own_fillS {f : Nat → Int32} {i x : Int32} (h : ∀ j, j < i.toNatClampNeg → f j = x) (hs : (i + (1 : Int32)).toNatClampNeg = i.toNatClampNeg + 1) : ∀ j, j < (i + (1 : Int32)).toNatClampNeg → own_upd f i x j = x := fun j hj => by
  unfold own_upd
  by_cases q : j = i.toNatClampNeg
  · rw [if_pos q]
  · rw [if_neg q]; exact h j (by omega)
theorem own_fill0 {n : Int32} (h : ¬ n < 0) : n.toInt - (0 : Int32).toInt = ((n.toInt.toNat : Nat) : Int) := by
  rw [Int32.lt_iff_toInt_lt] at h
  have e0 : (0 : Int32).toInt = 0 := by decide
  rw [e0] at h ⊢
  omega
def own_min (x y : Int32) : Int32 := if y < x then y else x
theorem own_min0 (x : Int32) : own_min x (0 : Int32) < (1 : Int32) := by
  unfold own_min
  by_cases q : (0 : Int32) < x
  · rw [if_pos q]; decide
  · rw [if_neg q]; rw [Int32.lt_iff_toInt_lt] at q ⊢; have e0 : (0 : Int32).toInt = 0 := by decide
    have e1 : (1 : Int32).toInt = 1 := by decide
    omega
theorem own_min1 (x : Int32) : own_min x (1 : Int32) < (2 : Int32) := by
  unfold own_min
  by_cases q : (1 : Int32) < x
  · rw [if_pos q]; decide
  · rw [if_neg q]; rw [Int32.lt_iff_toInt_lt] at q ⊢; have e0 : (1 : Int32).toInt = 1 := by decide
    have e1 : (2 : Int32).toInt = 2 := by decide
    omega
theorem own_rng (x : Int32) : ¬ (x &&& (31 : Int32)) < 0 ∧ (x &&& (31 : Int32)) < (32 : Int32) := by
  have h := c_mask x 31 5 (by decide) (by decide)
  have e0 : (0 : Int32).toInt = 0 := by decide
  have e1 : (32 : Int32).toInt = 32 := by decide
  rw [Int32.lt_iff_toInt_lt, Int32.lt_iff_toInt_lt, h, e0, e1]
  omega
theorem own_up {x : Int32} (h : ¬ x < 0 ∧ x < (16 : Int32)) : ¬ x < 0 ∧ x < (32 : Int32) := by
  refine ⟨h.1, ?_⟩
  have h2 := h.2
  rw [Int32.lt_iff_toInt_lt] at h2 ⊢
  have e0 : (16 : Int32).toInt = 16 := by decide
  have e1 : (32 : Int32).toInt = 32 := by decide
  omega
theorem own_next {x : Int32} (h : x < (32 : Int32)) (h0 : ¬ x < 0) : ¬ (32 : Int32) < x + (1 : Int32) := by
  rw [Int32.lt_iff_toInt_lt] at h h0 ⊢
  have e1 : (1 : Int32).toInt = 1 := by decide
  have e2 : (32 : Int32).toInt = 32 := by decide
  have e0 : (0 : Int32).toInt = 0 := by decide
  have h2 : (x + (1 : Int32)).toInt = x.toInt + 1 := by rw [XT.add32 ⟨by rw [e1]; omega, by rw [e1]; omega⟩, e1]
  omega
theorem own_nat {x y : Int32} (hx : ¬ x < 0) (hy : ¬ y < 0) (h : ¬ x = y) : ¬ x.toNatClampNeg = y.toNatClampNeg := fun q => by
  apply h
  apply Int32.toInt_inj.mp
  rw [Int32.lt_iff_toInt_lt] at hx hy
  have e0 : (0 : Int32).toInt = 0 := by decide
  simp only [Int32.toNatClampNeg] at q
  omega
theorem own_nat16 {x : Int32} (h : ¬ x < (16 : Int32)) : ¬ x.toNatClampNeg < 16 := by
  rw [Int32.lt_iff_toInt_lt] at h
  have e : (16 : Int32).toInt = 16 := by decide
  simp only [Int32.toNatClampNeg]
  omega
theorem own_cp_hi {N : Nat} {f : Nat → Int32} {i : Nat} (h : ¬ i < N) : own_cp N f (fun _ => (-1 : Int32)) i = (-1 : Int32) := by unfold own_cp; rw [if_neg h]
theorem own_upd_ne {f : Nat → Int32} {j x : Int32} {i : Nat} (h : ¬ i = j.toNatClampNeg) : own_upd f j x i = f i := by unfold own_upd; rw [if_neg h]
theorem own_upd_eq (f : Nat → Int32) (j x : Int32) : own_upd f j x j.toNatClampNeg = x := by unfold own_upd; rw [if_pos rfl]
theorem own_anti {x y : Int32} (h1 : ¬ x < y) (h2 : ¬ y < x) : x = y := by
  apply Int32.toInt_inj.mp
  rw [Int32.lt_iff_toInt_lt] at h1 h2
  omega

theorem own_cp_const (N i : Nat) : own_cp N (fun _ => (-1 : Int32)) (fun _ => (-1 : Int32)) i = (-1 : Int32) := by unfold own_cp; split <;> rfl
theorem own_lt12 {x : Int32} (h : x < (1 : Int32)) : x < (2 : Int32) := by
  rw [Int32.lt_iff_toInt_lt] at h ⊢
  have e0 : (1 : Int32).toInt = 1 := by decide
  have e1 : (2 : Int32).toInt = 2 := by decide
  omega

theorem d9_0 : decode jdk_29_method_69_code 0 = .ok (.iload_n 0, 1) := by decide +kernel
theorem d9_1 : decode jdk_29_method_69_code 1 = .ok (.iload_n 1, 1) := by decide +kernel
theorem d9_2 : decode jdk_29_method_69_code 2 = .ok (.if_icmp .gt 7, 3) := by decide +kernel
theorem d9_5 : decode jdk_29_method_69_code 5 = .ok (.iload_n 0, 1) := by decide +kernel
theorem d9_6 : decode jdk_29_method_69_code 6 = .ok (.goto 4, 3) := by decide +kernel
theorem d9_9 : decode jdk_29_method_69_code 9 = .ok (.iload_n 1, 1) := by decide +kernel
theorem d9_10 : decode jdk_29_method_69_code 10 = .ok (.ireturn, 1) := by decide +kernel
theorem ef_9 (m : MethodId) (x0 : Int32) (x1 : Int32) : entryFrame m #[(.int x0), (.int x1)] 2 = mkF m 0 #[.val (.int x0), .val (.int x1)] [] := by first | (simp [entryFrame, mkF, argsToLocals, Value.category]; done) | rfl
def Q9 (Z : State) (p1 : Int32) (p2 : Int32) (h0 : Heap) (n0 : Nat) (v : Option Value) (h : Heap) (L : List Loc) : Prop := v = some (.int (own_min p1 p2)) ∧ Fr n0 L ∧ h = h0
set_option maxRecDepth 65536 in
set_option maxHeartbeats 40000000 in
theorem rm9 (l : Launch) (Z : State) (a0 : Array Value) (hw : ∀ d ∈ tables_1, d.before a0 Z = true) (ws : List Jvm.Cond) (p1 : Int32) (p2 : Int32) (h0 : Heap) (n0 : Nat) (Z0 : n0 ≤ h0.size) :
    MetFree l (⟨"java/lang/Math", "min", "(II)I"⟩ : MethodName) (head1 (Jvm.Cond.code (⟨"java/lang/Math", "min", "(II)I"⟩ : MethodName) jdk_29_method_69_code 2 (some .int) :: ws) ({ frames := 0, cells := 0, slots := 0, locals := 0 } : Room)) (fun a U => a = #[(.int p1), (.int p2)] ∧ Z.Warmed39 U.vm ∧ U.heap = h0) (fun _ _ _ _ _ => True) (fun _ U o U' => ∃ v L, o = .returned v ∧ Q9 Z p1 p2 h0 n0 v U'.heap L ∧ FrameEnd U o U' L ({ frames := 0, cells := 0, slots := 0, locals := 0 } : Room).cells ({ frames := 0, cells := 0, slots := 0, locals := 0 } : Room).slots) := by
  refine MetFree.of_bodySF (Jvm.Free.JP.mathPlain rfl (by decide +kernel)) hisR ?_
  intro p e s m args below meth c s₁ Bd hml0 hP hK
  obtain ⟨rfl, hZ, hh⟩ := hP
  have hx := Bd.exec
  have hby := Bd.bytes
  have hlk : meth.locks = false := Bd.notSynchronized
  have hret := Bd.returns
  have hml : c.maxLocals = 2 := hml0
  have hown : s.vm.findClass "java/lang/Math" = some m.cls := findClass_of_methodNamed Bd.named
  have hnm := (name_of_methodNamed Bd.named Bd.method).1
  have X0 : Stand p l e ({ frames := 0, cells := 0, slots := 0, locals := 0 } : Room) s m #[(.int p1), (.int p2)] below meth c s₁ [] 0 0 := Stand.of_body Bd
  have e0 : s₁.heap = h0 := by rw [← hh, Bd.state]; rfl
  have N0 := Fr.nil n0
  have K0 := Keep.refl h0 []
  show OwnEnd p e below s (Q9 Z p1 p2 h0 n0) ({ frames := 0, cells := 0, slots := 0, locals := 0 } : Room).cells ({ frames := 0, cells := 0, slots := 0, locals := 0 } : Room).slots _
  refine OwnEnd.go (fun _ k => castTop (ef_9 m p1 p2) k) ?_
  show OwnEnd p e below s _ _ _ (s₁.setTop (mkF m 0 #[.val (.int p1), .val (.int p2)] []))
  refine OwnEnd.go (fun _ k => XS.iloadN X0.here hx rfl (hb hby d9_0) rfl  k) ?_
  show OwnEnd p e below s _ _ _ (s₁.setTop (mkF m 1 #[.val (.int p1), .val (.int p2)] [(.int p1)]))
  refine OwnEnd.go (fun _ k => XS.iloadN X0.here hx rfl (hb hby d9_1) rfl  k) ?_
  show OwnEnd p e below s _ _ _ (s₁.setTop (mkF m 2 #[.val (.int p1), .val (.int p2)] [(.int p2), (.int p1)]))
  by_cases hc101 : p2 < p1
  · refine OwnEnd.go (fun _ k => XS.icmpYes X0.here hx rfl (pc0 := 2) (pc' := 9) rfl (hb hby d9_2) rfl (tlt hc101).2.2.1 (by decide) (by decide) k) ?_
    show OwnEnd p e below s _ _ _ (s₁.setTop (mkF m 9 #[.val (.int p1), .val (.int p2)] []))
    refine OwnEnd.go (fun _ k => XS.iloadN X0.here hx rfl (hb hby d9_9) rfl  k) ?_
    show OwnEnd p e below s _ _ _ (s₁.setTop (mkF m 10 #[.val (.int p1), .val (.int p2)] [(.int p2)]))
    refine ownRetI X0 hx hlk hret (hb hby d9_10) (by decide) (by decide) ?_
    show Q9 Z p1 p2 h0 n0 _ s₁.heap _
    rw [e0]
    refine ⟨?_, N0, rfl⟩
    unfold own_min
    rw [if_pos hc101]
  · refine OwnEnd.go (fun _ k => XS.icmpNo X0.here hx rfl (hb hby d9_2) rfl (flt hc101).2.2.1 k) ?_
    show OwnEnd p e below s _ _ _ (s₁.setTop (mkF m 5 #[.val (.int p1), .val (.int p2)] []))
    refine OwnEnd.go (fun _ k => XS.iloadN X0.here hx rfl (hb hby d9_5) rfl  k) ?_
    show OwnEnd p e below s _ _ _ (s₁.setTop (mkF m 6 #[.val (.int p1), .val (.int p2)] [(.int p1)]))
    refine OwnEnd.go (fun _ k => XS.goto X0.here hx rfl (pc0 := 6) (pc' := 10) rfl (hb hby d9_6) (by decide) (by decide) k) ?_
    show OwnEnd p e below s _ _ _ (s₁.setTop (mkF m 10 #[.val (.int p1), .val (.int p2)] [(.int p1)]))
    refine ownRetI X0 hx hlk hret (hb hby d9_10) (by decide) (by decide) ?_
    show Q9 Z p1 p2 h0 n0 _ s₁.heap _
    rw [e0]
    refine ⟨?_, N0, rfl⟩
    unfold own_min
    rw [if_neg hc101]
theorem d9L_0 : decode jdk_29_method_69_code 0 = .ok (.iload_n 0, 1) := by decide +kernel
theorem d9L_1 : decode jdk_29_method_69_code 1 = .ok (.iload_n 1, 1) := by decide +kernel
theorem d9L_2 : decode jdk_29_method_69_code 2 = .ok (.if_icmp .gt 7, 3) := by decide +kernel
theorem d9L_5 : decode jdk_29_method_69_code 5 = .ok (.iload_n 0, 1) := by decide +kernel
theorem d9L_6 : decode jdk_29_method_69_code 6 = .ok (.goto 4, 3) := by decide +kernel
theorem d9L_10 : decode jdk_29_method_69_code 10 = .ok (.ireturn, 1) := by decide +kernel
theorem ef_9L (m : MethodId) (x0 : Int32) (x1 : Int32) : entryFrame m #[(.int x0), (.int x1)] 2 = mkF m 0 #[.val (.int x0), .val (.int x1)] [] := by first | (simp [entryFrame, mkF, argsToLocals, Value.category]; done) | rfl
def Q9L (Z : State) (p1 : Int32) (p2 : Int32) (h0 : Heap) (n0 : Nat) (v : Option Value) (h : Heap) (L : List Loc) : Prop := v = some (.int p1) ∧ Fr n0 L ∧ h = h0
set_option maxRecDepth 65536 in
set_option maxHeartbeats 40000000 in
theorem rm9L (l : Launch) (Z : State) (a0 : Array Value) (hw : ∀ d ∈ tables_1, d.before a0 Z = true) (ws : List Jvm.Cond) (p1 : Int32) (p2 : Int32) (h0 : Heap) (n0 : Nat) (Z0 : n0 ≤ h0.size) (hm : ¬ p2 < p1) :
    MetFree l (⟨"java/lang/Math", "min", "(II)I"⟩ : MethodName) (head1 (Jvm.Cond.code (⟨"java/lang/Math", "min", "(II)I"⟩ : MethodName) jdk_29_method_69_code 2 (some .int) :: ws) ({ frames := 0, cells := 0, slots := 0, locals := 0 } : Room)) (fun a U => a = #[(.int p1), (.int p2)] ∧ Z.Warmed39 U.vm ∧ U.heap = h0) (fun _ _ _ _ _ => True) (fun _ U o U' => ∃ v L, o = .returned v ∧ Q9L Z p1 p2 h0 n0 v U'.heap L ∧ FrameEnd U o U' L ({ frames := 0, cells := 0, slots := 0, locals := 0 } : Room).cells ({ frames := 0, cells := 0, slots := 0, locals := 0 } : Room).slots) := by
  refine MetFree.of_bodySF (Jvm.Free.JP.mathPlain rfl (by decide +kernel)) hisR ?_
  intro p e s m args below meth c s₁ Bd hml0 hP hK
  obtain ⟨rfl, hZ, hh⟩ := hP
  have hx := Bd.exec
  have hby := Bd.bytes
  have hlk : meth.locks = false := Bd.notSynchronized
  have hret := Bd.returns
  have hml : c.maxLocals = 2 := hml0
  have hown : s.vm.findClass "java/lang/Math" = some m.cls := findClass_of_methodNamed Bd.named
  have hnm := (name_of_methodNamed Bd.named Bd.method).1
  have X0 : Stand p l e ({ frames := 0, cells := 0, slots := 0, locals := 0 } : Room) s m #[(.int p1), (.int p2)] below meth c s₁ [] 0 0 := Stand.of_body Bd
  have e0 : s₁.heap = h0 := by rw [← hh, Bd.state]; rfl
  have N0 := Fr.nil n0
  have K0 := Keep.refl h0 []
  show OwnEnd p e below s (Q9L Z p1 p2 h0 n0) ({ frames := 0, cells := 0, slots := 0, locals := 0 } : Room).cells ({ frames := 0, cells := 0, slots := 0, locals := 0 } : Room).slots _
  refine OwnEnd.go (fun _ k => castTop (ef_9L m p1 p2) k) ?_
  show OwnEnd p e below s _ _ _ (s₁.setTop (mkF m 0 #[.val (.int p1), .val (.int p2)] []))
  refine OwnEnd.go (fun _ k => XS.iloadN X0.here hx rfl (hb hby d9L_0) rfl  k) ?_
  show OwnEnd p e below s _ _ _ (s₁.setTop (mkF m 1 #[.val (.int p1), .val (.int p2)] [(.int p1)]))
  refine OwnEnd.go (fun _ k => XS.iloadN X0.here hx rfl (hb hby d9L_1) rfl  k) ?_
  show OwnEnd p e below s _ _ _ (s₁.setTop (mkF m 2 #[.val (.int p1), .val (.int p2)] [(.int p2), (.int p1)]))
  refine OwnEnd.go (fun _ k => XS.icmpNo X0.here hx rfl (hb hby d9L_2) rfl (flt hm).2.2.1 k) ?_
  show OwnEnd p e below s _ _ _ (s₁.setTop (mkF m 5 #[.val (.int p1), .val (.int p2)] []))
  refine OwnEnd.go (fun _ k => XS.iloadN X0.here hx rfl (hb hby d9L_5) rfl  k) ?_
  show OwnEnd p e below s _ _ _ (s₁.setTop (mkF m 6 #[.val (.int p1), .val (.int p2)] [(.int p1)]))
  refine OwnEnd.go (fun _ k => XS.goto X0.here hx rfl (pc0 := 6) (pc' := 10) rfl (hb hby d9L_6) (by decide) (by decide) k) ?_
  show OwnEnd p e below s _ _ _ (s₁.setTop (mkF m 10 #[.val (.int p1), .val (.int p2)] [(.int p1)]))
  refine ownRetI X0 hx hlk hret (hb hby d9L_10) (by decide) (by decide) ?_
  show Q9L Z p1 p2 h0 n0 _ s₁.heap _
  rw [e0]
  exact ⟨rfl, N0, rfl⟩
theorem d11_0 : decode jdk_29_method_65_code 0 = .ok (.iload_n 0, 1) := by decide +kernel
theorem d11_1 : decode jdk_29_method_65_code 1 = .ok (.iload_n 1, 1) := by decide +kernel
theorem d11_2 : decode jdk_29_method_65_code 2 = .ok (.if_icmp .lt 7, 3) := by decide +kernel
theorem d11_5 : decode jdk_29_method_65_code 5 = .ok (.iload_n 0, 1) := by decide +kernel
theorem d11_6 : decode jdk_29_method_65_code 6 = .ok (.goto 4, 3) := by decide +kernel
theorem d11_9 : decode jdk_29_method_65_code 9 = .ok (.iload_n 1, 1) := by decide +kernel
theorem d11_10 : decode jdk_29_method_65_code 10 = .ok (.ireturn, 1) := by decide +kernel
theorem ef_11 (m : MethodId) (x0 : Int32) (x1 : Int32) : entryFrame m #[(.int x0), (.int x1)] 2 = mkF m 0 #[.val (.int x0), .val (.int x1)] [] := by first | (simp [entryFrame, mkF, argsToLocals, Value.category]; done) | rfl
def Q11 (Z : State) (p1 : Int32) (p2 : Int32) (h0 : Heap) (n0 : Nat) (v : Option Value) (h : Heap) (L : List Loc) : Prop := v = some (.int p2) ∧ Fr n0 L ∧ h = h0
set_option maxRecDepth 65536 in
set_option maxHeartbeats 40000000 in
theorem rm11 (l : Launch) (Z : State) (a0 : Array Value) (hw : ∀ d ∈ tables_1, d.before a0 Z = true) (ws : List Jvm.Cond) (p1 : Int32) (p2 : Int32) (h0 : Heap) (n0 : Nat) (Z0 : n0 ≤ h0.size) (hm : ¬ p2 < p1) :
    MetFree l (⟨"java/lang/Math", "max", "(II)I"⟩ : MethodName) (head1 (Jvm.Cond.code (⟨"java/lang/Math", "max", "(II)I"⟩ : MethodName) jdk_29_method_65_code 2 (some .int) :: ws) ({ frames := 0, cells := 0, slots := 0, locals := 0 } : Room)) (fun a U => a = #[(.int p1), (.int p2)] ∧ Z.Warmed39 U.vm ∧ U.heap = h0) (fun _ _ _ _ _ => True) (fun _ U o U' => ∃ v L, o = .returned v ∧ Q11 Z p1 p2 h0 n0 v U'.heap L ∧ FrameEnd U o U' L ({ frames := 0, cells := 0, slots := 0, locals := 0 } : Room).cells ({ frames := 0, cells := 0, slots := 0, locals := 0 } : Room).slots) := by
  refine MetFree.of_bodySF (Jvm.Free.JP.mathPlain rfl (by decide +kernel)) hisR ?_
  intro p e s m args below meth c s₁ Bd hml0 hP hK
  obtain ⟨rfl, hZ, hh⟩ := hP
  have hx := Bd.exec
  have hby := Bd.bytes
  have hlk : meth.locks = false := Bd.notSynchronized
  have hret := Bd.returns
  have hml : c.maxLocals = 2 := hml0
  have hown : s.vm.findClass "java/lang/Math" = some m.cls := findClass_of_methodNamed Bd.named
  have hnm := (name_of_methodNamed Bd.named Bd.method).1
  have X0 : Stand p l e ({ frames := 0, cells := 0, slots := 0, locals := 0 } : Room) s m #[(.int p1), (.int p2)] below meth c s₁ [] 0 0 := Stand.of_body Bd
  have e0 : s₁.heap = h0 := by rw [← hh, Bd.state]; rfl
  have N0 := Fr.nil n0
  have K0 := Keep.refl h0 []
  show OwnEnd p e below s (Q11 Z p1 p2 h0 n0) ({ frames := 0, cells := 0, slots := 0, locals := 0 } : Room).cells ({ frames := 0, cells := 0, slots := 0, locals := 0 } : Room).slots _
  refine OwnEnd.go (fun _ k => castTop (ef_11 m p1 p2) k) ?_
  show OwnEnd p e below s _ _ _ (s₁.setTop (mkF m 0 #[.val (.int p1), .val (.int p2)] []))
  refine OwnEnd.go (fun _ k => XS.iloadN X0.here hx rfl (hb hby d11_0) rfl  k) ?_
  show OwnEnd p e below s _ _ _ (s₁.setTop (mkF m 1 #[.val (.int p1), .val (.int p2)] [(.int p1)]))
  refine OwnEnd.go (fun _ k => XS.iloadN X0.here hx rfl (hb hby d11_1) rfl  k) ?_
  show OwnEnd p e below s _ _ _ (s₁.setTop (mkF m 2 #[.val (.int p1), .val (.int p2)] [(.int p2), (.int p1)]))
  by_cases hc101 : p1 < p2
  · refine OwnEnd.go (fun _ k => XS.icmpYes X0.here hx rfl (pc0 := 2) (pc' := 9) rfl (hb hby d11_2) rfl (tlt hc101).1 (by decide) (by decide) k) ?_
    show OwnEnd p e below s _ _ _ (s₁.setTop (mkF m 9 #[.val (.int p1), .val (.int p2)] []))
    refine OwnEnd.go (fun _ k => XS.iloadN X0.here hx rfl (hb hby d11_9) rfl  k) ?_
    show OwnEnd p e below s _ _ _ (s₁.setTop (mkF m 10 #[.val (.int p1), .val (.int p2)] [(.int p2)]))
    refine ownRetI X0 hx hlk hret (hb hby d11_10) (by decide) (by decide) ?_
    show Q11 Z p1 p2 h0 n0 _ s₁.heap _
    rw [e0]
    refine ⟨?_, N0, rfl⟩
    rfl
  · refine OwnEnd.go (fun _ k => XS.icmpNo X0.here hx rfl (hb hby d11_2) rfl (flt hc101).1 k) ?_
    show OwnEnd p e below s _ _ _ (s₁.setTop (mkF m 5 #[.val (.int p1), .val (.int p2)] []))
    refine OwnEnd.go (fun _ k => XS.iloadN X0.here hx rfl (hb hby d11_5) rfl  k) ?_
    show OwnEnd p e below s _ _ _ (s₁.setTop (mkF m 6 #[.val (.int p1), .val (.int p2)] [(.int p1)]))
    refine OwnEnd.go (fun _ k => XS.goto X0.here hx rfl (pc0 := 6) (pc' := 10) rfl (hb hby d11_6) (by decide) (by decide) k) ?_
    show OwnEnd p e below s _ _ _ (s₁.setTop (mkF m 10 #[.val (.int p1), .val (.int p2)] [(.int p1)]))
    refine ownRetI X0 hx hlk hret (hb hby d11_10) (by decide) (by decide) ?_
    show Q11 Z p1 p2 h0 n0 _ s₁.heap _
    rw [e0]
    refine ⟨?_, N0, rfl⟩
    rw [own_anti hc101 hm]
theorem d4_0 : decode jdk_65_method_103_code 0 = .ok (.iconst 0, 1) := by decide +kernel
theorem d4_1 : decode jdk_65_method_103_code 1 = .ok (.istore_n 2, 1) := by decide +kernel
theorem d4_2 : decode jdk_65_method_103_code 2 = .ok (.aload_n 0, 1) := by decide +kernel
theorem d4_3 : decode jdk_65_method_103_code 3 = .ok (.arraylength, 1) := by decide +kernel
theorem d4_4 : decode jdk_65_method_103_code 4 = .ok (.istore_n 3, 1) := by decide +kernel
theorem d4_5 : decode jdk_65_method_103_code 5 = .ok (.iload_n 2, 1) := by decide +kernel
theorem d4_6 : decode jdk_65_method_103_code 6 = .ok (.iload_n 3, 1) := by decide +kernel
theorem d4_7 : decode jdk_65_method_103_code 7 = .ok (.if_icmp .ge 13, 3) := by decide +kernel
theorem d4_10 : decode jdk_65_method_103_code 10 = .ok (.aload_n 0, 1) := by decide +kernel
theorem d4_11 : decode jdk_65_method_103_code 11 = .ok (.iload_n 2, 1) := by decide +kernel
theorem d4_12 : decode jdk_65_method_103_code 12 = .ok (.iload_n 1, 1) := by decide +kernel
theorem d4_13 : decode jdk_65_method_103_code 13 = .ok (.iastore, 1) := by decide +kernel
theorem d4_14 : decode jdk_65_method_103_code 14 = .ok (.iinc 2 1, 3) := by decide +kernel
theorem d4_17 : decode jdk_65_method_103_code 17 = .ok (.goto (-12), 3) := by decide +kernel
theorem d4_20 : decode jdk_65_method_103_code 20 = .ok (.return_, 1) := by decide +kernel
theorem pn_4 : plainName "java/util/Arrays" = true := by first | (simp [plainName, overriddenIn]; done) | decide +kernel
theorem ef_4 (m : MethodId) (x0 : Addr) (x1 : Int32) : entryFrame m #[(.ref x0), (.int x1)] 4 = mkF m 0 #[.val (.ref x0), .val (.int x1), .unset, .unset] [] := by first | (simp [entryFrame, mkF, argsToLocals, Value.category]; done) | rfl
def Q4 (Z : State) (a1 : Addr) (p2 : Int32) (n : Int32) (f : (Nat → Int32)) (h0 : Heap) (n0 : Nat) (v : Option Value) (h : Heap) (L : List Loc) : Prop := v = none ∧ Fr n0 L ∧ Keep h0 h [a1] ∧ ownA Z h a1 n (fun _ => p2)
set_option maxRecDepth 65536 in
set_option maxHeartbeats 40000000 in
theorem rm4 (l : Launch) (Z : State) (a0 : Array Value) (hw : ∀ d ∈ tables_1, d.before a0 Z = true) (ws : List Jvm.Cond) (a1 : Addr) (p2 : Int32) (n : Int32) (f : (Nat → Int32)) (h0 : Heap) (n0 : Nat) (Z0 : n0 ≤ h0.size) (V0 : ownA Z h0 a1 n f) (g1 : n0 ≤ a1) :
    MetFree l (⟨"java/util/Arrays", "fill", "([II)V"⟩ : MethodName) (head1 (Jvm.Cond.code (⟨"java/util/Arrays", "fill", "([II)V"⟩ : MethodName) jdk_65_method_103_code 4 none :: ws) ({ frames := 0, cells := 0, slots := 0, locals := 0 } : Room)) (fun a U => a = #[(.ref a1), (.int p2)] ∧ Z.Warmed39 U.vm ∧ U.heap = h0) (fun _ _ _ _ _ => True) (fun _ U o U' => ∃ v L, o = .returned v ∧ Q4 Z a1 p2 n f h0 n0 v U'.heap L ∧ FrameEnd U o U' L ({ frames := 0, cells := 0, slots := 0, locals := 0 } : Room).cells ({ frames := 0, cells := 0, slots := 0, locals := 0 } : Room).slots) := by
  refine MetFree.of_bodySF (plainFor_of_name pn_4) hisR ?_
  intro p e s m args below meth c s₁ Bd hml0 hP hK
  obtain ⟨rfl, hZ, hh⟩ := hP
  have hx := Bd.exec
  have hby := Bd.bytes
  have hlk : meth.locks = false := Bd.notSynchronized
  have hret := Bd.returns
  have hml : c.maxLocals = 4 := hml0
  have hown : s.vm.findClass "java/util/Arrays" = some m.cls := findClass_of_methodNamed Bd.named
  have hnm := (name_of_methodNamed Bd.named Bd.method).1
  have X0 : Stand p l e ({ frames := 0, cells := 0, slots := 0, locals := 0 } : Room) s m #[(.ref a1), (.int p2)] below meth c s₁ [] 0 0 := Stand.of_body Bd
  have e0 : s₁.heap = h0 := by rw [← hh, Bd.state]; rfl
  have N0 := Fr.nil n0
  have K0 := Keep.refl h0 [a1]
  show OwnEnd p e below s (Q4 Z a1 p2 n f h0 n0) ({ frames := 0, cells := 0, slots := 0, locals := 0 } : Room).cells ({ frames := 0, cells := 0, slots := 0, locals := 0 } : Room).slots _
  refine OwnEnd.go (fun _ k => castTop (ef_4 m a1 p2) k) ?_
  show OwnEnd p e below s _ _ _ (s₁.setTop (mkF m 0 #[.val (.ref a1), .val (.int p2), .unset, .unset] []))
  refine OwnEnd.go (fun _ k => XS.iconst X0.here hx rfl (hb hby d4_0) k) ?_
  show OwnEnd p e below s _ _ _ (s₁.setTop (mkF m 1 #[.val (.ref a1), .val (.int p2), .unset, .unset] [(.int (0 : Int32))]))
  refine OwnEnd.go (fun _ k => XS.istoreN X0.here hx rfl (hb hby d4_1) rfl  (l' := #[.val (.ref a1), .val (.int p2), .val (.int (0 : Int32)), .unset]) rfl k) ?_
  show OwnEnd p e below s _ _ _ (s₁.setTop (mkF m 2 #[.val (.ref a1), .val (.int p2), .val (.int (0 : Int32)), .unset] []))
  refine OwnEnd.go (fun _ k => XS.aloadN X0.here hx rfl (hb hby d4_2) rfl rfl k) ?_
  show OwnEnd p e below s _ _ _ (s₁.setTop (mkF m 3 #[.val (.ref a1), .val (.int p2), .val (.int (0 : Int32)), .unset] [(.ref a1)]))
  refine OwnEnd.go (fun _ k => ownAlen X0 hx hZ e0 V0 (g := (mkF m 3 #[.val (.ref a1), .val (.int p2), .val (.int (0 : Int32)), .unset] [(.ref a1)])) rfl rfl (hb hby d4_3) _ k) ?_
  show OwnEnd p e below s _ _ _ (s₁.setTop (mkF m 4 #[.val (.ref a1), .val (.int p2), .val (.int (0 : Int32)), .unset] [(.int n)]))
  refine OwnEnd.go (fun _ k => XS.istoreN X0.here hx rfl (hb hby d4_4) rfl  (l' := #[.val (.ref a1), .val (.int p2), .val (.int (0 : Int32)), .val (.int n)]) rfl k) ?_
  show OwnEnd p e below s _ _ _ (s₁.setTop (mkF m 5 #[.val (.ref a1), .val (.int p2), .val (.int (0 : Int32)), .val (.int n)] []))
  have J : ∀ (d : Nat) (T1 : State) (L : List Loc) (i : Int32) (f1 : Nat → Int32), ¬ i < 0 → ¬ n < i → n.toInt - i.toInt = (d : Int) → (∀ j, j < i.toNatClampNeg → f1 j = p2) → Stand p l e ({ frames := 0, cells := 0, slots := 0, locals := 0 } : Room) s m #[(.ref a1), (.int p2)] below meth c T1 L 0 0 → Fr n0 L → Keep h0 T1.heap [a1] → n0 ≤ T1.heap.size → ownA Z T1.heap a1 n f1 → OwnEnd p e below s (Q4 Z a1 p2 n f h0 n0) ({ frames := 0, cells := 0, slots := 0, locals := 0 } : Room).cells ({ frames := 0, cells := 0, slots := 0, locals := 0 } : Room).slots (T1.setTop (mkF m 5 #[.val (.ref a1), .val (.int p2), .val (.int i), .val (.int n)] [])) := by
    intro d
    induction d with
    | zero =>
      intro T1 L i f1 h1 h2 h3 hf X1 N1 K1 Y1 V1
      obtain ⟨g1', g2'⟩ := own_loop0 h3
      show OwnEnd p e below s _ _ _ (T1.setTop (mkF m 5 #[.val (.ref a1), .val (.int p2), .val (.int i), .val (.int n)] []))
      refine OwnEnd.go (fun _ k => XS.iloadN X1.here hx rfl (hb hby d4_5) rfl  k) ?_
      show OwnEnd p e below s _ _ _ (T1.setTop (mkF m 6 #[.val (.ref a1), .val (.int p2), .val (.int i), .val (.int n)] [(.int i)]))
      refine OwnEnd.go (fun _ k => XS.iloadN X1.here hx rfl (hb hby d4_6) rfl  k) ?_
      show OwnEnd p e below s _ _ _ (T1.setTop (mkF m 7 #[.val (.ref a1), .val (.int p2), .val (.int i), .val (.int n)] [(.int n), (.int i)]))
      refine OwnEnd.go (fun _ k => XS.icmpYes X1.here hx rfl (pc0 := 7) (pc' := 20) rfl (hb hby d4_7) rfl (flt g1').2.1 (by decide) (by decide) k) ?_
      show OwnEnd p e below s _ _ _ (T1.setTop (mkF m 20 #[.val (.ref a1), .val (.int p2), .val (.int i), .val (.int n)] []))
      refine ownRetV X1 hx hlk hret (hb hby d4_20) (by decide) (by decide) ?_
      show Q4 Z a1 p2 n f h0 n0 _ T1.heap _
      exact ⟨rfl, N1, K1, ownA.congr V1 (fun j hj => hf j (by rw [← g2']; exact hj))⟩
    | succ d ih =>
      intro T1 L i f1 h1 h2 h3 hf X1 N1 K1 Y1 V1
      obtain ⟨g1', g2, g3, g4, g5⟩ := own_loopS h1 h3
      show OwnEnd p e below s _ _ _ (T1.setTop (mkF m 5 #[.val (.ref a1), .val (.int p2), .val (.int i), .val (.int n)] []))
      refine OwnEnd.go (fun _ k => XS.iloadN X1.here hx rfl (hb hby d4_5) rfl  k) ?_
      show OwnEnd p e below s _ _ _ (T1.setTop (mkF m 6 #[.val (.ref a1), .val (.int p2), .val (.int i), .val (.int n)] [(.int i)]))
      refine OwnEnd.go (fun _ k => XS.iloadN X1.here hx rfl (hb hby d4_6) rfl  k) ?_
      show OwnEnd p e below s _ _ _ (T1.setTop (mkF m 7 #[.val (.ref a1), .val (.int p2), .val (.int i), .val (.int n)] [(.int n), (.int i)]))
      refine OwnEnd.go (fun _ k => XS.icmpNo X1.here hx rfl (hb hby d4_7) rfl (tlt g1').2.1 k) ?_
      show OwnEnd p e below s _ _ _ (T1.setTop (mkF m 10 #[.val (.ref a1), .val (.int p2), .val (.int i), .val (.int n)] []))
      refine OwnEnd.go (fun _ k => XS.aloadN X1.here hx rfl (hb hby d4_10) rfl rfl k) ?_
      show OwnEnd p e below s _ _ _ (T1.setTop (mkF m 11 #[.val (.ref a1), .val (.int p2), .val (.int i), .val (.int n)] [(.ref a1)]))
      refine OwnEnd.go (fun _ k => XS.iloadN X1.here hx rfl (hb hby d4_11) rfl  k) ?_
      show OwnEnd p e below s _ _ _ (T1.setTop (mkF m 12 #[.val (.ref a1), .val (.int p2), .val (.int i), .val (.int n)] [(.int i), (.ref a1)]))
      refine OwnEnd.go (fun _ k => XS.iloadN X1.here hx rfl (hb hby d4_12) rfl  k) ?_
      show OwnEnd p e below s _ _ _ (T1.setTop (mkF m 13 #[.val (.ref a1), .val (.int p2), .val (.int i), .val (.int n)] [(.int p2), (.int i), (.ref a1)]))
      obtain ⟨T102, h102, X102, e102, W102, V102, st102⟩ := ownAstore X1 hx hZ (rfl : T1.heap = T1.heap) V1 (j := i) ⟨h1, g1'⟩ (g := (mkF m 13 #[.val (.ref a1), .val (.int p2), .val (.int i), .val (.int n)] [(.int p2), (.int i), (.ref a1)])) rfl rfl (hb hby d4_13)
      have N102 := Fr.snoc X102 N1 g1
      have K102 := K1.wr W102 (Or.inl (List.mem_of_getElem? (i := 0) rfl))
      have Y102 := Nat.le_trans Y1 (Nat.le_of_eq W102.size.symm)
      refine OwnEnd.go (fun _ k => st102 _ k) ?_
      show OwnEnd p e below s _ _ _ (T102.setTop (mkF m 14 #[.val (.ref a1), .val (.int p2), .val (.int i), .val (.int n)] []))
      refine OwnEnd.go (fun _ k => XS.iinc X102.here hx rfl (hb hby d4_14) rfl (l' := #[.val (.ref a1), .val (.int p2), .val (.int (i + (1 : Int32))), .val (.int n)]) rfl k) ?_
      show OwnEnd p e below s _ _ _ (T102.setTop (mkF m 17 #[.val (.ref a1), .val (.int p2), .val (.int (i + (1 : Int32))), .val (.int n)] []))
      refine OwnEnd.go (fun _ k => XS.goto X102.here hx rfl (pc0 := 17) (pc' := 5) rfl (hb hby d4_17) (by decide) (by decide) k) ?_
      show OwnEnd p e below s _ _ _ (T102.setTop (mkF m 5 #[.val (.ref a1), .val (.int p2), .val (.int (i + (1 : Int32))), .val (.int n)] []))
      exact ih _ _ (i + (1 : Int32)) _ g2 g3 g4 (own_fillS hf g5) X102 N102 (by rw [e102]; exact K102) (by rw [e102]; exact Y102) (by rw [e102]; exact V102)
  exact J n.toInt.toNat _ _ _ f (by decide) V0.pos (own_fill0 V0.pos) (fun j hj => absurd hj (Nat.not_lt_zero j)) X0 N0 (by rw [e0]; exact K0) (by rw [e0]; exact Z0) (by rw [e0]; exact V0)
theorem d3N16_0 : decode prog_28_method_11_code 0 = .ok (.iload_n 0, 1) := by decide +kernel
theorem d3N16_1 : decode prog_28_method_11_code 1 = .ok (.newarray .int, 2) := by decide +kernel
theorem d3N16_3 : decode prog_28_method_11_code 3 = .ok (.astore_n 1, 1) := by decide +kernel
theorem d3N16_4 : decode prog_28_method_11_code 4 = .ok (.aload_n 1, 1) := by decide +kernel
theorem d3N16_5 : decode prog_28_method_11_code 5 = .ok (.iconst (-1), 1) := by decide +kernel
theorem d3N16_6 : decode prog_28_method_11_code 6 = .ok (.invokestatic 67, 3) := by decide +kernel
theorem d3N16_9 : decode prog_28_method_11_code 9 = .ok (.aload_n 1, 1) := by decide +kernel
theorem d3N16_10 : decode prog_28_method_11_code 10 = .ok (.areturn, 1) := by decide +kernel
theorem pn_3N16 : plainName "com/example/volens/volens/core/agent/TurnQueue" = true := by first | (simp [plainName, overriddenIn]; done) | decide +kernel
theorem pd3N16_0 : parseMethodDescriptor "([II)V" = some ⟨[(.array .int), .int], none⟩ := by decide +kernel
theorem ef_3N16 (m : MethodId) (x0 : Int32) : entryFrame m #[(.int x0)] 2 = mkF m 0 #[.val (.int x0), .unset] [] := by first | (simp [entryFrame, mkF, argsToLocals, Value.category]; done) | rfl
def Q3N16 (Z : State)  (h0 : Heap) (n0 : Nat) (v : Option Value) (h : Heap) (L : List Loc) : Prop := ∃ (xr : Addr), v = some (.ref xr) ∧ Fr n0 L ∧ Keep h0 h [] ∧ n0 ≤ xr ∧ h0.size ≤ xr ∧ ownA Z h xr (16 : Int32) (fun _ => (-1 : Int32))
set_option maxRecDepth 65536 in
set_option maxHeartbeats 40000000 in
theorem rm3N16 (l : Launch) (Z : State) (a0 : Array Value) (hw : ∀ d ∈ tables_1, d.before a0 Z = true) (ws : List Jvm.Cond)  (h0 : Heap) (n0 : Nat) (Z0 : n0 ≤ h0.size) :
    MetFree l (⟨"com/example/volens/volens/core/agent/TurnQueue", "newPlaces", "(I)[I"⟩ : MethodName) (head1 (Jvm.Cond.code (⟨"com/example/volens/volens/core/agent/TurnQueue", "newPlaces", "(I)[I"⟩ : MethodName) prog_28_method_11_code 2 (some (.array .int)) :: ws) ({ frames := 1, cells := 1, slots := 16, locals := 15 } : Room)) (fun a U => a = #[(.int (16 : Int32))] ∧ Z.Warmed39 U.vm ∧ U.heap = h0) (fun _ _ _ _ _ => True) (fun _ U o U' => ∃ v L, o = .returned v ∧ Q3N16 Z  h0 n0 v U'.heap L ∧ FrameEnd U o U' L ({ frames := 1, cells := 1, slots := 16, locals := 15 } : Room).cells ({ frames := 1, cells := 1, slots := 16, locals := 15 } : Room).slots) := by
  have ww9 := hw _ (List.mem_of_getElem? (i := 9) rfl)
  have ww18 := hw _ (List.mem_of_getElem? (i := 18) rfl)
  have ww19 := hw _ (List.mem_of_getElem? (i := 19) rfl)
  have ww20 := hw _ (List.mem_of_getElem? (i := 20) rfl)
  have ww21 := hw _ (List.mem_of_getElem? (i := 21) rfl)
  refine MetFree.of_bodySF (plainFor_of_name pn_3N16) hisR ?_
  intro p e s m args below meth c s₁ Bd hml0 hP hK
  obtain ⟨rfl, hZ, hh⟩ := hP
  have hx := Bd.exec
  have hby := Bd.bytes
  have hlk : meth.locks = false := Bd.notSynchronized
  have hret := Bd.returns
  have hml : c.maxLocals = 2 := hml0
  have hown : s.vm.findClass "com/example/volens/volens/core/agent/TurnQueue" = some m.cls := findClass_of_methodNamed Bd.named
  have hnm := (name_of_methodNamed Bd.named Bd.method).1
  have X0 : Stand p l e ({ frames := 1, cells := 1, slots := 16, locals := 15 } : Room) s m #[(.int (16 : Int32))] below meth c s₁ [] 0 0 := Stand.of_body Bd
  have e0 : s₁.heap = h0 := by rw [← hh, Bd.state]; rfl
  have N0 := Fr.nil n0
  have K0 := Keep.refl h0 []
  show OwnEnd p e below s (Q3N16 Z  h0 n0) ({ frames := 1, cells := 1, slots := 16, locals := 15 } : Room).cells ({ frames := 1, cells := 1, slots := 16, locals := 15 } : Room).slots _
  refine OwnEnd.go (fun _ k => castTop (ef_3N16 m (16 : Int32)) k) ?_
  show OwnEnd p e below s _ _ _ (s₁.setTop (mkF m 0 #[.val (.int (16 : Int32)), .unset] []))
  refine OwnEnd.go (fun _ k => XS.iloadN X0.here hx rfl (hb hby d3N16_0) rfl  k) ?_
  show OwnEnd p e below s _ _ _ (s₁.setTop (mkF m 1 #[.val (.int (16 : Int32)), .unset] [(.int (16 : Int32))]))
  obtain ⟨T101, h101, k101, X101, e101, E101, A101, st101⟩ := newP (aty := .int) X0 hx hZ ww9 e0 (g := (mkF m 1 #[.val (.int (16 : Int32)), .unset] [(.int (16 : Int32))])) rfl (hb hby d3N16_1) rfl (by decide) (cap := 16) (by decide) (by decide) (by decide) (by decide)
  obtain ⟨b101, g101⟩ : ∃ z, z = h0.size := ⟨_, rfl⟩
  rw [← g101] at A101 st101
  have u101 : n0 ≤ b101 := Nat.le_trans Z0 (Nat.le_of_eq g101.symm)
  have v101 : h0.size ≤ b101 := Nat.le_trans K0.1 (Nat.le_of_eq g101.symm)
  have K101 := K0.ext E101
  have Y101 := Nat.le_trans Z0 E101.1
  have V101 := ownA.new A101 (by decide)
  refine OwnEnd.go (fun _ k => st101 _ k) ?_
  show OwnEnd p e below s _ _ _ (T101.setTop (mkF m 3 #[.val (.int (16 : Int32)), .unset] [(.ref b101)]))
  refine OwnEnd.go (fun _ k => XS.astoreN X101.here hx rfl (hb hby d3N16_3) rfl rfl (l' := #[.val (.int (16 : Int32)), .val (.ref b101)]) rfl k) ?_
  show OwnEnd p e below s _ _ _ (T101.setTop (mkF m 4 #[.val (.int (16 : Int32)), .val (.ref b101)] []))
  refine OwnEnd.go (fun _ k => XS.aloadN X101.here hx rfl (hb hby d3N16_4) rfl rfl k) ?_
  show OwnEnd p e below s _ _ _ (T101.setTop (mkF m 5 #[.val (.int (16 : Int32)), .val (.ref b101)] [(.ref b101)]))
  refine OwnEnd.go (fun _ k => XS.iconst X101.here hx rfl (hb hby d3N16_5) k) ?_
  show OwnEnd p e below s _ _ _ (T101.setTop (mkF m 6 #[.val (.int (16 : Int32)), .val (.ref b101)] [(.int (-1 : Int32)), (.ref b101)]))
  obtain ⟨_, T102, L102, X102, hQ102, st102⟩ := ownCallS X101 hx hZ hown ww18 ww19 ww20 ww21 (by decide) (rm4 l Z a0 hw [] b101 (-1 : Int32) (16 : Int32) (fun _ => 0) h101 n0 Y101  V101 u101) e101 0 (by decide) (by decide) (by decide) (by decide) (g := (mkF m 6 #[.val (.int (16 : Int32)), .val (.ref b101)] [(.int (-1 : Int32)), (.ref b101)])) rfl (by rw [hml]; rfl) (argsL := [(.ref b101), (.int (-1 : Int32))]) (rest := []) (lenOf pd3N16_0 rfl) rfl rfl (by show 2 * 0 + _ ≤ _; exact Nat.le_of_eq rfl) (hb hby d3N16_6)
  obtain ⟨rfl, N102q, K102q, P103⟩ := hQ102
  have N102 := Fr.app N0 N102q
  have K102 := K101.trans K102q (allS (Or.inr v101) all0)
  have Y102 := Nat.le_trans Y101 K102q.1
  refine OwnEnd.go (fun _ k => st102 _ k) ?_
  show OwnEnd p e below s _ _ _ (T102.setTop (mkF m 9 #[.val (.int (16 : Int32)), .val (.ref b101)] []))
  refine OwnEnd.go (fun _ k => XS.aloadN X102.here hx rfl (hb hby d3N16_9) rfl rfl k) ?_
  show OwnEnd p e below s _ _ _ (T102.setTop (mkF m 10 #[.val (.int (16 : Int32)), .val (.ref b101)] [(.ref b101)]))
  refine ownRetA X102 hx hlk hret rfl rfl rfl (hb hby d3N16_10) (by decide) (by decide) ?_
  show Q3N16 Z h0 n0 _ T102.heap _
  exact ⟨_, rfl, N102, K102, u101, v101, P103⟩
theorem d3N32_0 : decode prog_28_method_11_code 0 = .ok (.iload_n 0, 1) := by decide +kernel
theorem d3N32_1 : decode prog_28_method_11_code 1 = .ok (.newarray .int, 2) := by decide +kernel
theorem d3N32_3 : decode prog_28_method_11_code 3 = .ok (.astore_n 1, 1) := by decide +kernel
theorem d3N32_4 : decode prog_28_method_11_code 4 = .ok (.aload_n 1, 1) := by decide +kernel
theorem d3N32_5 : decode prog_28_method_11_code 5 = .ok (.iconst (-1), 1) := by decide +kernel
theorem d3N32_6 : decode prog_28_method_11_code 6 = .ok (.invokestatic 67, 3) := by decide +kernel
theorem d3N32_9 : decode prog_28_method_11_code 9 = .ok (.aload_n 1, 1) := by decide +kernel
theorem d3N32_10 : decode prog_28_method_11_code 10 = .ok (.areturn, 1) := by decide +kernel
theorem pn_3N32 : plainName "com/example/volens/volens/core/agent/TurnQueue" = true := by first | (simp [plainName, overriddenIn]; done) | decide +kernel
theorem pd3N32_0 : parseMethodDescriptor "([II)V" = some ⟨[(.array .int), .int], none⟩ := by decide +kernel
theorem ef_3N32 (m : MethodId) (x0 : Int32) : entryFrame m #[(.int x0)] 2 = mkF m 0 #[.val (.int x0), .unset] [] := by first | (simp [entryFrame, mkF, argsToLocals, Value.category]; done) | rfl
def Q3N32 (Z : State)  (h0 : Heap) (n0 : Nat) (v : Option Value) (h : Heap) (L : List Loc) : Prop := ∃ (xr : Addr), v = some (.ref xr) ∧ Fr n0 L ∧ Keep h0 h [] ∧ n0 ≤ xr ∧ h0.size ≤ xr ∧ ownA Z h xr (32 : Int32) (fun _ => (-1 : Int32))
set_option maxRecDepth 65536 in
set_option maxHeartbeats 40000000 in
theorem rm3N32 (l : Launch) (Z : State) (a0 : Array Value) (hw : ∀ d ∈ tables_1, d.before a0 Z = true) (ws : List Jvm.Cond)  (h0 : Heap) (n0 : Nat) (Z0 : n0 ≤ h0.size) :
    MetFree l (⟨"com/example/volens/volens/core/agent/TurnQueue", "newPlaces", "(I)[I"⟩ : MethodName) (head1 (Jvm.Cond.code (⟨"com/example/volens/volens/core/agent/TurnQueue", "newPlaces", "(I)[I"⟩ : MethodName) prog_28_method_11_code 2 (some (.array .int)) :: ws) ({ frames := 1, cells := 1, slots := 32, locals := 15 } : Room)) (fun a U => a = #[(.int (32 : Int32))] ∧ Z.Warmed39 U.vm ∧ U.heap = h0) (fun _ _ _ _ _ => True) (fun _ U o U' => ∃ v L, o = .returned v ∧ Q3N32 Z  h0 n0 v U'.heap L ∧ FrameEnd U o U' L ({ frames := 1, cells := 1, slots := 32, locals := 15 } : Room).cells ({ frames := 1, cells := 1, slots := 32, locals := 15 } : Room).slots) := by
  have ww9 := hw _ (List.mem_of_getElem? (i := 9) rfl)
  have ww18 := hw _ (List.mem_of_getElem? (i := 18) rfl)
  have ww19 := hw _ (List.mem_of_getElem? (i := 19) rfl)
  have ww20 := hw _ (List.mem_of_getElem? (i := 20) rfl)
  have ww21 := hw _ (List.mem_of_getElem? (i := 21) rfl)
  refine MetFree.of_bodySF (plainFor_of_name pn_3N32) hisR ?_
  intro p e s m args below meth c s₁ Bd hml0 hP hK
  obtain ⟨rfl, hZ, hh⟩ := hP
  have hx := Bd.exec
  have hby := Bd.bytes
  have hlk : meth.locks = false := Bd.notSynchronized
  have hret := Bd.returns
  have hml : c.maxLocals = 2 := hml0
  have hown : s.vm.findClass "com/example/volens/volens/core/agent/TurnQueue" = some m.cls := findClass_of_methodNamed Bd.named
  have hnm := (name_of_methodNamed Bd.named Bd.method).1
  have X0 : Stand p l e ({ frames := 1, cells := 1, slots := 32, locals := 15 } : Room) s m #[(.int (32 : Int32))] below meth c s₁ [] 0 0 := Stand.of_body Bd
  have e0 : s₁.heap = h0 := by rw [← hh, Bd.state]; rfl
  have N0 := Fr.nil n0
  have K0 := Keep.refl h0 []
  show OwnEnd p e below s (Q3N32 Z  h0 n0) ({ frames := 1, cells := 1, slots := 32, locals := 15 } : Room).cells ({ frames := 1, cells := 1, slots := 32, locals := 15 } : Room).slots _
  refine OwnEnd.go (fun _ k => castTop (ef_3N32 m (32 : Int32)) k) ?_
  show OwnEnd p e below s _ _ _ (s₁.setTop (mkF m 0 #[.val (.int (32 : Int32)), .unset] []))
  refine OwnEnd.go (fun _ k => XS.iloadN X0.here hx rfl (hb hby d3N32_0) rfl  k) ?_
  show OwnEnd p e below s _ _ _ (s₁.setTop (mkF m 1 #[.val (.int (32 : Int32)), .unset] [(.int (32 : Int32))]))
  obtain ⟨T101, h101, k101, X101, e101, E101, A101, st101⟩ := newP (aty := .int) X0 hx hZ ww9 e0 (g := (mkF m 1 #[.val (.int (32 : Int32)), .unset] [(.int (32 : Int32))])) rfl (hb hby d3N32_1) rfl (by decide) (cap := 32) (by decide) (by decide) (by decide) (by decide)
  obtain ⟨b101, g101⟩ : ∃ z, z = h0.size := ⟨_, rfl⟩
  rw [← g101] at A101 st101
  have u101 : n0 ≤ b101 := Nat.le_trans Z0 (Nat.le_of_eq g101.symm)
  have v101 : h0.size ≤ b101 := Nat.le_trans K0.1 (Nat.le_of_eq g101.symm)
  have K101 := K0.ext E101
  have Y101 := Nat.le_trans Z0 E101.1
  have V101 := ownA.new A101 (by decide)
  refine OwnEnd.go (fun _ k => st101 _ k) ?_
  show OwnEnd p e below s _ _ _ (T101.setTop (mkF m 3 #[.val (.int (32 : Int32)), .unset] [(.ref b101)]))
  refine OwnEnd.go (fun _ k => XS.astoreN X101.here hx rfl (hb hby d3N32_3) rfl rfl (l' := #[.val (.int (32 : Int32)), .val (.ref b101)]) rfl k) ?_
  show OwnEnd p e below s _ _ _ (T101.setTop (mkF m 4 #[.val (.int (32 : Int32)), .val (.ref b101)] []))
  refine OwnEnd.go (fun _ k => XS.aloadN X101.here hx rfl (hb hby d3N32_4) rfl rfl k) ?_
  show OwnEnd p e below s _ _ _ (T101.setTop (mkF m 5 #[.val (.int (32 : Int32)), .val (.ref b101)] [(.ref b101)]))
  refine OwnEnd.go (fun _ k => XS.iconst X101.here hx rfl (hb hby d3N32_5) k) ?_
  show OwnEnd p e below s _ _ _ (T101.setTop (mkF m 6 #[.val (.int (32 : Int32)), .val (.ref b101)] [(.int (-1 : Int32)), (.ref b101)]))
  obtain ⟨_, T102, L102, X102, hQ102, st102⟩ := ownCallS X101 hx hZ hown ww18 ww19 ww20 ww21 (by decide) (rm4 l Z a0 hw [] b101 (-1 : Int32) (32 : Int32) (fun _ => 0) h101 n0 Y101  V101 u101) e101 0 (by decide) (by decide) (by decide) (by decide) (g := (mkF m 6 #[.val (.int (32 : Int32)), .val (.ref b101)] [(.int (-1 : Int32)), (.ref b101)])) rfl (by rw [hml]; rfl) (argsL := [(.ref b101), (.int (-1 : Int32))]) (rest := []) (lenOf pd3N32_0 rfl) rfl rfl (by show 2 * 0 + _ ≤ _; exact Nat.le_of_eq rfl) (hb hby d3N32_6)
  obtain ⟨rfl, N102q, K102q, P103⟩ := hQ102
  have N102 := Fr.app N0 N102q
  have K102 := K101.trans K102q (allS (Or.inr v101) all0)
  have Y102 := Nat.le_trans Y101 K102q.1
  refine OwnEnd.go (fun _ k => st102 _ k) ?_
  show OwnEnd p e below s _ _ _ (T102.setTop (mkF m 9 #[.val (.int (32 : Int32)), .val (.ref b101)] []))
  refine OwnEnd.go (fun _ k => XS.aloadN X102.here hx rfl (hb hby d3N32_9) rfl rfl k) ?_
  show OwnEnd p e below s _ _ _ (T102.setTop (mkF m 10 #[.val (.int (32 : Int32)), .val (.ref b101)] [(.ref b101)]))
  refine ownRetA X102 hx hlk hret rfl rfl rfl (hb hby d3N32_10) (by decide) (by decide) ?_
  show Q3N32 Z h0 n0 _ T102.heap _
  exact ⟨_, rfl, N102, K102, u101, v101, P103⟩
theorem d1_0 : decode prog_28_method_1_code 0 = .ok (.aload_n 0, 1) := by decide +kernel
theorem d1_1 : decode prog_28_method_1_code 1 = .ok (.invokespecial 1, 3) := by decide +kernel
theorem d1_4 : decode prog_28_method_1_code 4 = .ok (.aload_n 0, 1) := by decide +kernel
theorem d1_5 : decode prog_28_method_1_code 5 = .ok (.bipush 16, 2) := by decide +kernel
theorem d1_7 : decode prog_28_method_1_code 7 = .ok (.newarray .int, 2) := by decide +kernel
theorem d1_9 : decode prog_28_method_1_code 9 = .ok (.putfield 9, 3) := by decide +kernel
theorem d1_12 : decode prog_28_method_1_code 12 = .ok (.aload_n 0, 1) := by decide +kernel
theorem d1_13 : decode prog_28_method_1_code 13 = .ok (.bipush 16, 2) := by decide +kernel
theorem d1_15 : decode prog_28_method_1_code 15 = .ok (.newarray .long, 2) := by decide +kernel
theorem d1_17 : decode prog_28_method_1_code 17 = .ok (.putfield 13, 3) := by decide +kernel
theorem d1_20 : decode prog_28_method_1_code 20 = .ok (.aload_n 0, 1) := by decide +kernel
theorem d1_21 : decode prog_28_method_1_code 21 = .ok (.bipush 16, 2) := by decide +kernel
theorem d1_23 : decode prog_28_method_1_code 23 = .ok (.invokestatic 17, 3) := by decide +kernel
theorem d1_26 : decode prog_28_method_1_code 26 = .ok (.putfield 21, 3) := by decide +kernel
theorem d1_29 : decode prog_28_method_1_code 29 = .ok (.return_, 1) := by decide +kernel
theorem pn_1 : plainName "com/example/volens/volens/core/agent/TurnQueue" = true := by first | (simp [plainName, overriddenIn]; done) | decide +kernel
theorem pd1_0 : parseMethodDescriptor "(I)[I" = some ⟨[.int], some (.array .int)⟩ := by decide +kernel
theorem ef_1 (m : MethodId) (x0 : Addr) : entryFrame m #[(.ref x0)] 1 = mkF m 0 #[.val (.ref x0)] [] := by first | (simp [entryFrame, mkF, argsToLocals, Value.category]; done) | rfl
def Q1 (Z : State) (a1 : Addr) (h0 : Heap) (n0 : Nat) (v : Option Value) (h : Heap) (L : List Loc) : Prop := ∃ (ha : Addr) (ta : Addr) (pa : Addr), v = none ∧ Fr n0 L ∧ Keep h0 h [a1] ∧ n0 ≤ ha ∧ n0 ≤ ta ∧ n0 ≤ pa ∧ h0.size ≤ ha ∧ h0.size ≤ ta ∧ h0.size ≤ pa ∧ ownTQ Z h n0 a1 ha ta pa (0 : Int32) (16 : Int32) (0 : Int32) (0 : Int32) (fun _ => (-1 : Int32))
set_option maxRecDepth 65536 in
set_option maxHeartbeats 40000000 in
theorem rm1 (l : Launch) (Z : State) (a0 : Array Value) (hw : ∀ d ∈ tables_1, d.before a0 Z = true) (ws : List Jvm.Cond) (a1 : Addr) (h0 : Heap) (n0 : Nat) (Z0 : n0 ≤ h0.size) (F_heap : Fld Z h0 a1 "com/example/volens/volens/core/agent/TurnQueue" "heap" "[I" .null) (F_ticks : Fld Z h0 a1 "com/example/volens/volens/core/agent/TurnQueue" "ticks" "[J" .null) (F_places : Fld Z h0 a1 "com/example/volens/volens/core/agent/TurnQueue" "places" "[I" .null) (F_size : Fld Z h0 a1 "com/example/volens/volens/core/agent/TurnQueue" "size" "I" (.int (0 : Int32))) (E1 : Exa Z h0 a1 "com/example/volens/volens/core/agent/TurnQueue") (ga : n0 ≤ a1) :
    MetFree l (⟨"com/example/volens/volens/core/agent/TurnQueue", "<init>", "()V"⟩ : MethodName) (head1 (Jvm.Cond.code (⟨"com/example/volens/volens/core/agent/TurnQueue", "<init>", "()V"⟩ : MethodName) prog_28_method_1_code 1 none :: ws) ({ frames := 2, cells := 3, slots := 48, locals := 29 } : Room)) (fun a U => a = #[(.ref a1)] ∧ Z.Warmed39 U.vm ∧ U.heap = h0) (fun _ _ _ _ _ => True) (fun _ U o U' => ∃ v L, o = .returned v ∧ Q1 Z a1 h0 n0 v U'.heap L ∧ FrameEnd U o U' L ({ frames := 2, cells := 3, slots := 48, locals := 29 } : Room).cells ({ frames := 2, cells := 3, slots := 48, locals := 29 } : Room).slots) := by
  have ww1 := hw _ (List.mem_of_getElem? (i := 1) rfl)
  have ww2 := hw _ (List.mem_of_getElem? (i := 2) rfl)
  have ww6 := hw _ (List.mem_of_getElem? (i := 6) rfl)
  have ww7 := hw _ (List.mem_of_getElem? (i := 7) rfl)
  have ww8 := hw _ (List.mem_of_getElem? (i := 8) rfl)
  have ww9 := hw _ (List.mem_of_getElem? (i := 9) rfl)
  have ww10 := hw _ (List.mem_of_getElem? (i := 10) rfl)
  have ww11 := hw _ (List.mem_of_getElem? (i := 11) rfl)
  have ww12 := hw _ (List.mem_of_getElem? (i := 12) rfl)
  have ww13 := hw _ (List.mem_of_getElem? (i := 13) rfl)
  have ww14 := hw _ (List.mem_of_getElem? (i := 14) rfl)
  have ww15 := hw _ (List.mem_of_getElem? (i := 15) rfl)
  have ww16 := hw _ (List.mem_of_getElem? (i := 16) rfl)
  have ww17 := hw _ (List.mem_of_getElem? (i := 17) rfl)
  have ww22 := hw _ (List.mem_of_getElem? (i := 22) rfl)
  have ww23 := hw _ (List.mem_of_getElem? (i := 23) rfl)
  have ww30 := hw _ (List.mem_of_getElem? (i := 30) rfl)
  refine MetFree.of_bodySF (plainFor_of_name pn_1) hisR ?_
  intro p e s m args below meth c s₁ Bd hml0 hP hK
  obtain ⟨rfl, hZ, hh⟩ := hP
  have hx := Bd.exec
  have hby := Bd.bytes
  have hlk : meth.locks = false := Bd.notSynchronized
  have hret := Bd.returns
  have hml : c.maxLocals = 1 := hml0
  have hown : s.vm.findClass "com/example/volens/volens/core/agent/TurnQueue" = some m.cls := findClass_of_methodNamed Bd.named
  have hnm := (name_of_methodNamed Bd.named Bd.method).1
  have X0 : Stand p l e ({ frames := 2, cells := 3, slots := 48, locals := 29 } : Room) s m #[(.ref a1)] below meth c s₁ [] 0 0 := Stand.of_body Bd
  have e0 : s₁.heap = h0 := by rw [← hh, Bd.state]; rfl
  have N0 := Fr.nil n0
  have K0 := Keep.refl h0 [a1]
  show OwnEnd p e below s (Q1 Z a1 h0 n0) ({ frames := 2, cells := 3, slots := 48, locals := 29 } : Room).cells ({ frames := 2, cells := 3, slots := 48, locals := 29 } : Room).slots _
  refine OwnEnd.go (fun _ k => castTop (ef_1 m a1) k) ?_
  show OwnEnd p e below s _ _ _ (s₁.setTop (mkF m 0 #[.val (.ref a1)] []))
  refine OwnEnd.go (fun _ k => XS.aloadN X0.here hx rfl (hb hby d1_0) rfl rfl k) ?_
  show OwnEnd p e below s _ _ _ (s₁.setTop (mkF m 1 #[.val (.ref a1)] [(.ref a1)]))
  obtain ⟨T101, X101, e101, st101⟩ := initO X0 hx hZ hown ww6 ww7 ww8 e0 (g := (mkF m 1 #[.val (.ref a1)] [(.ref a1)])) rfl (by rw [hml]; rfl) rfl (hb hby d1_1) (by decide) (W := 0) (by show 2 * 0 + _ ≤ _; exact Nat.le_of_eq rfl) (by decide)
  refine OwnEnd.go (fun _ k => st101 _ k) ?_
  show OwnEnd p e below s _ _ _ (T101.setTop (mkF m 4 #[.val (.ref a1)] []))
  refine OwnEnd.go (fun _ k => XS.aloadN X101.here hx rfl (hb hby d1_4) rfl rfl k) ?_
  show OwnEnd p e below s _ _ _ (T101.setTop (mkF m 5 #[.val (.ref a1)] [(.ref a1)]))
  refine OwnEnd.go (fun _ k => XS.bipush X101.here hx rfl (hb hby d1_5) k) ?_
  show OwnEnd p e below s _ _ _ (T101.setTop (mkF m 7 #[.val (.ref a1)] [(.int (16 : Int32)), (.ref a1)]))
  obtain ⟨T102, h102, k102, X102, e102, E102, A102, st102⟩ := newP (aty := .int) X101 hx hZ ww9 e101 (g := (mkF m 7 #[.val (.ref a1)] [(.int (16 : Int32)), (.ref a1)])) rfl (hb hby d1_7) rfl (by decide) (cap := 16) (by decide) (by decide) (by decide) (by decide)
  obtain ⟨b102, g102⟩ : ∃ z, z = h0.size := ⟨_, rfl⟩
  rw [← g102] at A102 st102
  have ne103 : a1 ≠ b102 := Nat.ne_of_lt (Nat.lt_of_lt_of_le F_heap.lt (Nat.le_of_eq g102.symm))
  have u102 : n0 ≤ b102 := Nat.le_trans Z0 (Nat.le_of_eq g102.symm)
  have v102 : h0.size ≤ b102 := Nat.le_trans K0.1 (Nat.le_of_eq g102.symm)
  have F104 := F_heap.ext E102
  have F105 := F_ticks.ext E102
  have F106 := F_places.ext E102
  have F107 := F_size.ext E102
  have F108 := E1.ext E102
  have K102 := K0.ext E102
  have Y102 := Nat.le_trans Z0 E102.1
  have V102 : Arv Z h102 b102 k102 .int (16 : Int32) [(.int (0 : Int32)), (.int (0 : Int32)), (.int (0 : Int32)), (.int (0 : Int32)), (.int (0 : Int32)), (.int (0 : Int32)), (.int (0 : Int32)), (.int (0 : Int32)), (.int (0 : Int32)), (.int (0 : Int32)), (.int (0 : Int32)), (.int (0 : Int32)), (.int (0 : Int32)), (.int (0 : Int32)), (.int (0 : Int32)), (.int (0 : Int32))] (.int (0 : Int32)) := (Arv.new A102 (by decide)).pad (pad_rep [] (.int (0 : Int32)) 16)
  refine OwnEnd.go (fun _ k => st102 _ k) ?_
  show OwnEnd p e below s _ _ _ (T102.setTop (mkF m 9 #[.val (.ref a1)] [(.ref b102), (.ref a1)]))
  obtain ⟨T109, h109, X109, e109, W109, st109⟩ := putF X102 hx hZ hown (host := "") (Or.inl ww10) Via.refl e102 F104 F108 (Or.inl ww11) ww1 (ty := (.array .int)) (by decide) rfl rfl (g := (mkF m 9 #[.val (.ref a1)] [(.ref b102), (.ref a1)])) rfl rfl (hb hby d1_9)
  have F110 := F104.same W109
  have F111 := F105.other W109 (Or.inr (slot_ne (Or.inl ww14) (Or.inl ww11) (by decide) (t := (.array .long)) (t' := (.array .int)) (by decide) (by decide)))
  have F112 := F106.other W109 (Or.inr (slot_ne (Or.inl ww23) (Or.inl ww11) (by decide) (t := (.array .int)) (t' := (.array .int)) (by decide) (by decide)))
  have F113 := F107.other W109 (Or.inr (slot_ne (Or.inl ww30) (Or.inl ww11) (by decide) (t := .int) (t' := (.array .int)) (by decide) (by decide)))
  have F114 := F108.wr W109
  have F115 := V102.other W109 (Ne.symm ne103)
  have N109 := Fr.snoc X109 N0 ga
  have K109 := K102.wr W109 (Or.inl (List.mem_of_getElem? (i := 0) rfl))
  have Y109 := Nat.le_trans Y102 (Nat.le_of_eq W109.size.symm)
  refine OwnEnd.go (fun _ k => st109 _ k) ?_
  show OwnEnd p e below s _ _ _ (T109.setTop (mkF m 12 #[.val (.ref a1)] []))
  refine OwnEnd.go (fun _ k => XS.aloadN X109.here hx rfl (hb hby d1_12) rfl rfl k) ?_
  show OwnEnd p e below s _ _ _ (T109.setTop (mkF m 13 #[.val (.ref a1)] [(.ref a1)]))
  refine OwnEnd.go (fun _ k => XS.bipush X109.here hx rfl (hb hby d1_13) k) ?_
  show OwnEnd p e below s _ _ _ (T109.setTop (mkF m 15 #[.val (.ref a1)] [(.int (16 : Int32)), (.ref a1)]))
  obtain ⟨T116, h116, k116, X116, e116, E116, A116, st116⟩ := newP (aty := .long) X109 hx hZ ww12 e109 (g := (mkF m 15 #[.val (.ref a1)] [(.int (16 : Int32)), (.ref a1)])) rfl (hb hby d1_15) rfl (by decide) (cap := 16) (by decide) (by decide) (by decide) (by decide)
  obtain ⟨b116, g116⟩ : ∃ z, z = h109.size := ⟨_, rfl⟩
  rw [← g116] at A116 st116
  have ne117 : a1 ≠ b116 := Nat.ne_of_lt (Nat.lt_of_lt_of_le F110.lt (Nat.le_of_eq g116.symm))
  have ne118 : b102 ≠ b116 := Nat.ne_of_lt (Nat.lt_of_lt_of_le F115.lt (Nat.le_of_eq g116.symm))
  have u116 : n0 ≤ b116 := Nat.le_trans Y109 (Nat.le_of_eq g116.symm)
  have v116 : h0.size ≤ b116 := Nat.le_trans K109.1 (Nat.le_of_eq g116.symm)
  have F119 := F110.ext E116
  have F120 := F111.ext E116
  have F121 := F112.ext E116
  have F122 := F113.ext E116
  have F123 := F114.ext E116
  have F124 := F115.ext E116
  have K116 := K109.ext E116
  have Y116 := Nat.le_trans Y109 E116.1
  have V116 := ownL.new A116 (by decide)
  refine OwnEnd.go (fun _ k => st116 _ k) ?_
  show OwnEnd p e below s _ _ _ (T116.setTop (mkF m 17 #[.val (.ref a1)] [(.ref b116), (.ref a1)]))
  obtain ⟨T125, h125, X125, e125, W125, st125⟩ := putF X116 hx hZ hown (host := "") (Or.inl ww13) Via.refl e116 F120 F123 (Or.inl ww14) ww1 (ty := (.array .long)) (by decide) rfl rfl (g := (mkF m 17 #[.val (.ref a1)] [(.ref b116), (.ref a1)])) rfl rfl (hb hby d1_17)
  have F126 := F119.other W125 (Or.inr (slot_ne (Or.inl ww11) (Or.inl ww14) (by decide) (t := (.array .int)) (t' := (.array .long)) (by decide) (by decide)))
  have F127 := F120.same W125
  have F128 := F121.other W125 (Or.inr (slot_ne (Or.inl ww23) (Or.inl ww14) (by decide) (t := (.array .int)) (t' := (.array .long)) (by decide) (by decide)))
  have F129 := F122.other W125 (Or.inr (slot_ne (Or.inl ww30) (Or.inl ww14) (by decide) (t := .int) (t' := (.array .long)) (by decide) (by decide)))
  have F130 := F123.wr W125
  have F131 := F124.other W125 (Ne.symm ne103)
  have F132 := V116.other W125 (Ne.symm ne117)
  have N125 := Fr.snoc X125 N109 ga
  have K125 := K116.wr W125 (Or.inl (List.mem_of_getElem? (i := 0) rfl))
  have Y125 := Nat.le_trans Y116 (Nat.le_of_eq W125.size.symm)
  refine OwnEnd.go (fun _ k => st125 _ k) ?_
  show OwnEnd p e below s _ _ _ (T125.setTop (mkF m 20 #[.val (.ref a1)] []))
  refine OwnEnd.go (fun _ k => XS.aloadN X125.here hx rfl (hb hby d1_20) rfl rfl k) ?_
  show OwnEnd p e below s _ _ _ (T125.setTop (mkF m 21 #[.val (.ref a1)] [(.ref a1)]))
  refine OwnEnd.go (fun _ k => XS.bipush X125.here hx rfl (hb hby d1_21) k) ?_
  show OwnEnd p e below s _ _ _ (T125.setTop (mkF m 23 #[.val (.ref a1)] [(.int (16 : Int32)), (.ref a1)]))
  obtain ⟨_, T133, L133, X133, hQ133, st133⟩ := ownCallS X125 hx hZ hown ww15 ww16 ww2 ww17 (by decide) (rm3N16 l Z a0 hw []  h125 n0 Y125  ) e125 1 (by decide) (by decide) (by decide) (by decide) (g := (mkF m 23 #[.val (.ref a1)] [(.int (16 : Int32)), (.ref a1)])) rfl (by rw [hml]; rfl) (argsL := [(.int (16 : Int32))]) (rest := [(.ref a1)]) (lenOf pd1_0 rfl) rfl rfl (by show 2 * 0 + _ ≤ _; exact Nat.le_of_eq rfl) (hb hby d1_23)
  obtain ⟨y137, hQ133⟩ := hQ133
  obtain ⟨rfl, N133q, K133q, P134, P135, P136⟩ := hQ133
  have N133 := Fr.app N125 N133q
  have F138 := F126.keep K133q nin0
  have F139 := F127.keep K133q nin0
  have F140 := F128.keep K133q nin0
  have F141 := F129.keep K133q nin0
  have F142 := F130.keep K133q
  have F143 := F131.keep K133q nin0
  have F144 := F132.keep K133q nin0
  have K133 := K125.trans K133q all0
  have Y133 := Nat.le_trans Y125 K133q.1
  refine OwnEnd.go (fun _ k => st133 _ k) ?_
  have ne145 : a1 ≠ y137 := Nat.ne_of_lt (Nat.lt_of_lt_of_le F130.lt P135)
  have ne146 : b102 ≠ y137 := Nat.ne_of_lt (Nat.lt_of_lt_of_le F131.lt P135)
  have ne147 : b116 ≠ y137 := Nat.ne_of_lt (Nat.lt_of_lt_of_le F132.lt P135)
  show OwnEnd p e below s _ _ _ (T133.setTop (mkF m 26 #[.val (.ref a1)] [(.ref y137), (.ref a1)]))
  obtain ⟨T148, h148, X148, e148, W148, st148⟩ := putF X133 hx hZ hown (host := "") (Or.inl ww22) Via.refl (rfl : T133.heap = T133.heap) F140 F142 (Or.inl ww23) ww1 (ty := (.array .int)) (by decide) rfl rfl (g := (mkF m 26 #[.val (.ref a1)] [(.ref y137), (.ref a1)])) rfl rfl (hb hby d1_26)
  have F149 := F138.other W148 (Or.inr (slot_ne (Or.inl ww11) (Or.inl ww23) (by decide) (t := (.array .int)) (t' := (.array .int)) (by decide) (by decide)))
  have F150 := F139.other W148 (Or.inr (slot_ne (Or.inl ww14) (Or.inl ww23) (by decide) (t := (.array .long)) (t' := (.array .int)) (by decide) (by decide)))
  have F151 := F140.same W148
  have F152 := F141.other W148 (Or.inr (slot_ne (Or.inl ww30) (Or.inl ww23) (by decide) (t := .int) (t' := (.array .int)) (by decide) (by decide)))
  have F153 := F142.wr W148
  have F154 := F143.other W148 (Ne.symm ne103)
  have F155 := F144.other W148 (Ne.symm ne117)
  have F156 := P136.other W148 (Ne.symm ne145)
  have N148 := Fr.snoc X148 N133 ga
  have K148 := K133.wr W148 (Or.inl (List.mem_of_getElem? (i := 0) rfl))
  have Y148 := Nat.le_trans Y133 (Nat.le_of_eq W148.size.symm)
  refine OwnEnd.go (fun _ k => st148 _ k) ?_
  show OwnEnd p e below s _ _ _ (T148.setTop (mkF m 29 #[.val (.ref a1)] []))
  refine ownRetV X148 hx hlk hret (hb hby d1_29) (by decide) (by decide) ?_
  show Q1 Z a1 h0 n0 _ T148.heap _
  rw [e148]
  exact ⟨b102, b116, y137, rfl, N148, K148, u102, u116, P134, v102, v116, (Nat.le_trans K125.1 P135), ⟨ga, u102, u116, P134, ne103, ne117, ne145, ne118, ne146, ne147, F153, F149, F150, F151, F152, ⟨_, F154⟩, F155, F156⟩⟩
theorem d13_0 : decode prog_28_method_9_code 0 = .ok (.aload_n 0, 1) := by decide +kernel
theorem d13_1 : decode prog_28_method_9_code 1 = .ok (.getfield 13, 3) := by decide +kernel
theorem d13_4 : decode prog_28_method_9_code 4 = .ok (.iload_n 1, 1) := by decide +kernel
theorem d13_5 : decode prog_28_method_9_code 5 = .ok (.laload, 1) := by decide +kernel
theorem d13_6 : decode prog_28_method_9_code 6 = .ok (.aload_n 0, 1) := by decide +kernel
theorem d13_7 : decode prog_28_method_9_code 7 = .ok (.getfield 13, 3) := by decide +kernel
theorem d13_10 : decode prog_28_method_9_code 10 = .ok (.iload_n 2, 1) := by decide +kernel
theorem d13_11 : decode prog_28_method_9_code 11 = .ok (.laload, 1) := by decide +kernel
theorem d13_12 : decode prog_28_method_9_code 12 = .ok (.lcmp, 1) := by decide +kernel
theorem d13_13 : decode prog_28_method_9_code 13 = .ok (.ifCond .lt 24, 3) := by decide +kernel
theorem d13_16 : decode prog_28_method_9_code 16 = .ok (.aload_n 0, 1) := by decide +kernel
theorem d13_17 : decode prog_28_method_9_code 17 = .ok (.getfield 13, 3) := by decide +kernel
theorem d13_20 : decode prog_28_method_9_code 20 = .ok (.iload_n 1, 1) := by decide +kernel
theorem d13_21 : decode prog_28_method_9_code 21 = .ok (.laload, 1) := by decide +kernel
theorem d13_22 : decode prog_28_method_9_code 22 = .ok (.aload_n 0, 1) := by decide +kernel
theorem d13_23 : decode prog_28_method_9_code 23 = .ok (.getfield 13, 3) := by decide +kernel
theorem d13_26 : decode prog_28_method_9_code 26 = .ok (.iload_n 2, 1) := by decide +kernel
theorem d13_27 : decode prog_28_method_9_code 27 = .ok (.laload, 1) := by decide +kernel
theorem d13_28 : decode prog_28_method_9_code 28 = .ok (.lcmp, 1) := by decide +kernel
theorem d13_29 : decode prog_28_method_9_code 29 = .ok (.ifCond .ne 12, 3) := by decide +kernel
theorem d13_32 : decode prog_28_method_9_code 32 = .ok (.iload_n 1, 1) := by decide +kernel
theorem d13_33 : decode prog_28_method_9_code 33 = .ok (.iload_n 2, 1) := by decide +kernel
theorem d13_34 : decode prog_28_method_9_code 34 = .ok (.if_icmp .ge 7, 3) := by decide +kernel
theorem d13_37 : decode prog_28_method_9_code 37 = .ok (.iconst 1, 1) := by decide +kernel
theorem d13_38 : decode prog_28_method_9_code 38 = .ok (.goto 4, 3) := by decide +kernel
theorem d13_41 : decode prog_28_method_9_code 41 = .ok (.iconst 0, 1) := by decide +kernel
theorem d13_42 : decode prog_28_method_9_code 42 = .ok (.ireturn, 1) := by decide +kernel
theorem pn_13 : plainName "com/example/volens/volens/core/agent/TurnQueue" = true := by first | (simp [plainName, overriddenIn]; done) | decide +kernel
theorem ef_13 (m : MethodId) (x0 : Addr) (x1 : Int32) (x2 : Int32) : entryFrame m #[(.ref x0), (.int x1), (.int x2)] 3 = mkF m 0 #[.val (.ref x0), .val (.int x1), .val (.int x2)] [] := by first | (simp [entryFrame, mkF, argsToLocals, Value.category]; done) | rfl
def Q13 (Z : State) (a1 : Addr) (p2 : Int32) (p3 : Int32) (ha : Addr) (ta : Addr) (pa : Addr) (sz : Int32) (cap : Int32) (f0 : Int32) (f1 : Int32) (pf : (Nat → Int32)) (h0 : Heap) (n0 : Nat) (v : Option Value) (h : Heap) (L : List Loc) : Prop := ∃ (xb : Int32), v = some (.int xb) ∧ Fr n0 L ∧ h = h0
set_option maxRecDepth 65536 in
set_option maxHeartbeats 40000000 in
theorem rm13 (l : Launch) (Z : State) (a0 : Array Value) (hw : ∀ d ∈ tables_1, d.before a0 Z = true) (ws : List Jvm.Cond) (a1 : Addr) (p2 : Int32) (p3 : Int32) (ha : Addr) (ta : Addr) (pa : Addr) (sz : Int32) (cap : Int32) (f0 : Int32) (f1 : Int32) (pf : (Nat → Int32)) (h0 : Heap) (n0 : Nat) (Z0 : n0 ≤ h0.size) (B0 : ownTQ Z h0 n0 a1 ha ta pa sz cap f0 f1 pf) (hbd2 : (¬ p2 < 0 ∧ p2 < cap)) (hbd3 : (¬ p3 < 0 ∧ p3 < cap)) :
    MetFree l (⟨"com/example/volens/volens/core/agent/TurnQueue", "before", "(II)Z"⟩ : MethodName) (head1 (Jvm.Cond.code (⟨"com/example/volens/volens/core/agent/TurnQueue", "before", "(II)Z"⟩ : MethodName) prog_28_method_9_code 3 (some .boolean) :: ws) ({ frames := 0, cells := 0, slots := 0, locals := 0 } : Room)) (fun a U => a = #[(.ref a1), (.int p2), (.int p3)] ∧ Z.Warmed39 U.vm ∧ U.heap = h0) (fun _ _ _ _ _ => True) (fun _ U o U' => ∃ v L, o = .returned v ∧ Q13 Z a1 p2 p3 ha ta pa sz cap f0 f1 pf h0 n0 v U'.heap L ∧ FrameEnd U o U' L ({ frames := 0, cells := 0, slots := 0, locals := 0 } : Room).cells ({ frames := 0, cells := 0, slots := 0, locals := 0 } : Room).slots) := by
  have ww13 := hw _ (List.mem_of_getElem? (i := 13) rfl)
  refine MetFree.of_bodySF (plainFor_of_name pn_13) hisR ?_
  intro p e s m args below meth c s₁ Bd hml0 hP hK
  obtain ⟨rfl, hZ, hh⟩ := hP
  have hx := Bd.exec
  have hby := Bd.bytes
  have hlk : meth.locks = false := Bd.notSynchronized
  have hret := Bd.returns
  have hml : c.maxLocals = 3 := hml0
  have hown : s.vm.findClass "com/example/volens/volens/core/agent/TurnQueue" = some m.cls := findClass_of_methodNamed Bd.named
  have hnm := (name_of_methodNamed Bd.named Bd.method).1
  have X0 : Stand p l e ({ frames := 0, cells := 0, slots := 0, locals := 0 } : Room) s m #[(.ref a1), (.int p2), (.int p3)] below meth c s₁ [] 0 0 := Stand.of_body Bd
  have e0 : s₁.heap = h0 := by rw [← hh, Bd.state]; rfl
  have N0 := Fr.nil n0
  have K0 := Keep.refl h0 []
  show OwnEnd p e below s (Q13 Z a1 p2 p3 ha ta pa sz cap f0 f1 pf h0 n0) ({ frames := 0, cells := 0, slots := 0, locals := 0 } : Room).cells ({ frames := 0, cells := 0, slots := 0, locals := 0 } : Room).slots _
  refine OwnEnd.go (fun _ k => castTop (ef_13 m a1 p2 p3) k) ?_
  have B_101 := B0
  obtain ⟨ga_101, gh_101, gt_101, gp_101, n1_101, n2_101, n3_101, n4_101, n5_101, n6_101, E1_101, F_h_101, F_t_101, F_p_101, F_s_101, ⟨kh_101, V_h_101⟩, V_t_101, V_p_101⟩ := B_101
  show OwnEnd p e below s _ _ _ (s₁.setTop (mkF m 0 #[.val (.ref a1), .val (.int p2), .val (.int p3)] []))
  refine OwnEnd.go (fun _ k => XS.aloadN X0.here hx rfl (hb hby d13_0) rfl rfl k) ?_
  show OwnEnd p e below s _ _ _ (s₁.setTop (mkF m 1 #[.val (.ref a1), .val (.int p2), .val (.int p3)] [(.ref a1)]))
  obtain ⟨T102, X102, e102, st102⟩ := getF X0 hx hZ hown (host := "") (Or.inl ww13) Via.refl e0 F_t_101 (g := (mkF m 1 #[.val (.ref a1), .val (.int p2), .val (.int p3)] [(.ref a1)])) rfl rfl (hb hby d13_1)
  refine OwnEnd.go (fun _ k => st102 _ k) ?_
  show OwnEnd p e below s _ _ _ (T102.setTop (mkF m 4 #[.val (.ref a1), .val (.int p2), .val (.int p3)] [(.ref ta)]))
  refine OwnEnd.go (fun _ k => XS.iloadN X102.here hx rfl (hb hby d13_4) rfl  k) ?_
  show OwnEnd p e below s _ _ _ (T102.setTop (mkF m 5 #[.val (.ref a1), .val (.int p2), .val (.int p3)] [(.int p2), (.ref ta)]))
  obtain ⟨x103, st103⟩ := ownLload X102 hx hZ e102 V_t_101 (j := p2) hbd2 (g := (mkF m 5 #[.val (.ref a1), .val (.int p2), .val (.int p3)] [(.int p2), (.ref ta)])) rfl rfl (hb hby d13_5)
  refine OwnEnd.go (fun _ k => st103 _ k) ?_
  show OwnEnd p e below s _ _ _ (T102.setTop (mkF m 6 #[.val (.ref a1), .val (.int p2), .val (.int p3)] [(.long x103)]))
  refine OwnEnd.go (fun _ k => XS.aloadN X102.here hx rfl (hb hby d13_6) rfl rfl k) ?_
  show OwnEnd p e below s _ _ _ (T102.setTop (mkF m 7 #[.val (.ref a1), .val (.int p2), .val (.int p3)] [(.ref a1), (.long x103)]))
  obtain ⟨T104, X104, e104, st104⟩ := getF X102 hx hZ hown (host := "") (Or.inl ww13) Via.refl e102 F_t_101 (g := (mkF m 7 #[.val (.ref a1), .val (.int p2), .val (.int p3)] [(.ref a1), (.long x103)])) rfl rfl (hb hby d13_7)
  refine OwnEnd.go (fun _ k => st104 _ k) ?_
  show OwnEnd p e below s _ _ _ (T104.setTop (mkF m 10 #[.val (.ref a1), .val (.int p2), .val (.int p3)] [(.ref ta), (.long x103)]))
  refine OwnEnd.go (fun _ k => XS.iloadN X104.here hx rfl (hb hby d13_10) rfl  k) ?_
  show OwnEnd p e below s _ _ _ (T104.setTop (mkF m 11 #[.val (.ref a1), .val (.int p2), .val (.int p3)] [(.int p3), (.ref ta), (.long x103)]))
  obtain ⟨x105, st105⟩ := ownLload X104 hx hZ e104 V_t_101 (j := p3) hbd3 (g := (mkF m 11 #[.val (.ref a1), .val (.int p2), .val (.int p3)] [(.int p3), (.ref ta), (.long x103)])) rfl rfl (hb hby d13_11)
  refine OwnEnd.go (fun _ k => st105 _ k) ?_
  show OwnEnd p e below s _ _ _ (T104.setTop (mkF m 12 #[.val (.ref a1), .val (.int p2), .val (.int p3)] [(.long x105), (.long x103)]))
  refine OwnEnd.go (fun _ k => XS.lcmp X104.here hx rfl (hb hby d13_12) rfl k) ?_
  show OwnEnd p e below s _ _ _ (T104.setTop (mkF m 13 #[.val (.ref a1), .val (.int p2), .val (.int p3)] [(.int (lcmpW x103 x105))]))
  by_cases hc106 : x103 < x105
  · refine OwnEnd.go (fun _ k => XS.ifYes X104.here hx rfl (pc0 := 13) (pc' := 37) rfl (hb hby d13_13) rfl (ownLt hc106).1 (by decide) (by decide) k) ?_
    show OwnEnd p e below s _ _ _ (T104.setTop (mkF m 37 #[.val (.ref a1), .val (.int p2), .val (.int p3)] []))
    refine OwnEnd.go (fun _ k => XS.iconst X104.here hx rfl (hb hby d13_37) k) ?_
    show OwnEnd p e below s _ _ _ (T104.setTop (mkF m 38 #[.val (.ref a1), .val (.int p2), .val (.int p3)] [(.int (1 : Int32))]))
    refine OwnEnd.go (fun _ k => XS.goto X104.here hx rfl (pc0 := 38) (pc' := 42) rfl (hb hby d13_38) (by decide) (by decide) k) ?_
    show OwnEnd p e below s _ _ _ (T104.setTop (mkF m 42 #[.val (.ref a1), .val (.int p2), .val (.int p3)] [(.int (1 : Int32))]))
    refine ownRetZ X104 hx hlk hret (hb hby d13_42) (by decide) (by decide) (1 : Int32) (by decide) ?_
    show Q13 Z a1 p2 p3 ha ta pa sz cap f0 f1 pf h0 n0 _ T104.heap _
    rw [e104]
    exact ⟨_, rfl, N0, rfl⟩
  · refine OwnEnd.go (fun _ k => XS.ifNo X104.here hx rfl (hb hby d13_13) rfl (ownNlt hc106).1 k) ?_
    show OwnEnd p e below s _ _ _ (T104.setTop (mkF m 16 #[.val (.ref a1), .val (.int p2), .val (.int p3)] []))
    refine OwnEnd.go (fun _ k => XS.aloadN X104.here hx rfl (hb hby d13_16) rfl rfl k) ?_
    show OwnEnd p e below s _ _ _ (T104.setTop (mkF m 17 #[.val (.ref a1), .val (.int p2), .val (.int p3)] [(.ref a1)]))
    obtain ⟨T107, X107, e107, st107⟩ := getF X104 hx hZ hown (host := "") (Or.inl ww13) Via.refl e104 F_t_101 (g := (mkF m 17 #[.val (.ref a1), .val (.int p2), .val (.int p3)] [(.ref a1)])) rfl rfl (hb hby d13_17)
    refine OwnEnd.go (fun _ k => st107 _ k) ?_
    show OwnEnd p e below s _ _ _ (T107.setTop (mkF m 20 #[.val (.ref a1), .val (.int p2), .val (.int p3)] [(.ref ta)]))
    refine OwnEnd.go (fun _ k => XS.iloadN X107.here hx rfl (hb hby d13_20) rfl  k) ?_
    show OwnEnd p e below s _ _ _ (T107.setTop (mkF m 21 #[.val (.ref a1), .val (.int p2), .val (.int p3)] [(.int p2), (.ref ta)]))
    obtain ⟨x108, st108⟩ := ownLload X107 hx hZ e107 V_t_101 (j := p2) hbd2 (g := (mkF m 21 #[.val (.ref a1), .val (.int p2), .val (.int p3)] [(.int p2), (.ref ta)])) rfl rfl (hb hby d13_21)
    refine OwnEnd.go (fun _ k => st108 _ k) ?_
    show OwnEnd p e below s _ _ _ (T107.setTop (mkF m 22 #[.val (.ref a1), .val (.int p2), .val (.int p3)] [(.long x108)]))
    refine OwnEnd.go (fun _ k => XS.aloadN X107.here hx rfl (hb hby d13_22) rfl rfl k) ?_
    show OwnEnd p e below s _ _ _ (T107.setTop (mkF m 23 #[.val (.ref a1), .val (.int p2), .val (.int p3)] [(.ref a1), (.long x108)]))
    obtain ⟨T109, X109, e109, st109⟩ := getF X107 hx hZ hown (host := "") (Or.inl ww13) Via.refl e107 F_t_101 (g := (mkF m 23 #[.val (.ref a1), .val (.int p2), .val (.int p3)] [(.ref a1), (.long x108)])) rfl rfl (hb hby d13_23)
    refine OwnEnd.go (fun _ k => st109 _ k) ?_
    show OwnEnd p e below s _ _ _ (T109.setTop (mkF m 26 #[.val (.ref a1), .val (.int p2), .val (.int p3)] [(.ref ta), (.long x108)]))
    refine OwnEnd.go (fun _ k => XS.iloadN X109.here hx rfl (hb hby d13_26) rfl  k) ?_
    show OwnEnd p e below s _ _ _ (T109.setTop (mkF m 27 #[.val (.ref a1), .val (.int p2), .val (.int p3)] [(.int p3), (.ref ta), (.long x108)]))
    obtain ⟨x110, st110⟩ := ownLload X109 hx hZ e109 V_t_101 (j := p3) hbd3 (g := (mkF m 27 #[.val (.ref a1), .val (.int p2), .val (.int p3)] [(.int p3), (.ref ta), (.long x108)])) rfl rfl (hb hby d13_27)
    refine OwnEnd.go (fun _ k => st110 _ k) ?_
    show OwnEnd p e below s _ _ _ (T109.setTop (mkF m 28 #[.val (.ref a1), .val (.int p2), .val (.int p3)] [(.long x110), (.long x108)]))
    refine OwnEnd.go (fun _ k => XS.lcmp X109.here hx rfl (hb hby d13_28) rfl k) ?_
    show OwnEnd p e below s _ _ _ (T109.setTop (mkF m 29 #[.val (.ref a1), .val (.int p2), .val (.int p3)] [(.int (lcmpW x108 x110))]))
    by_cases hc111 : x108 = x110
    · refine OwnEnd.go (fun _ k => XS.ifNo X109.here hx rfl (hb hby d13_29) rfl (ownEq hc111).2 k) ?_
      show OwnEnd p e below s _ _ _ (T109.setTop (mkF m 32 #[.val (.ref a1), .val (.int p2), .val (.int p3)] []))
      refine OwnEnd.go (fun _ k => XS.iloadN X109.here hx rfl (hb hby d13_32) rfl  k) ?_
      show OwnEnd p e below s _ _ _ (T109.setTop (mkF m 33 #[.val (.ref a1), .val (.int p2), .val (.int p3)] [(.int p2)]))
      refine OwnEnd.go (fun _ k => XS.iloadN X109.here hx rfl (hb hby d13_33) rfl  k) ?_
      show OwnEnd p e below s _ _ _ (T109.setTop (mkF m 34 #[.val (.ref a1), .val (.int p2), .val (.int p3)] [(.int p3), (.int p2)]))
      by_cases hc112 : p2 < p3
      · refine OwnEnd.go (fun _ k => XS.icmpNo X109.here hx rfl (hb hby d13_34) rfl (tlt hc112).2.1 k) ?_
        show OwnEnd p e below s _ _ _ (T109.setTop (mkF m 37 #[.val (.ref a1), .val (.int p2), .val (.int p3)] []))
        refine OwnEnd.go (fun _ k => XS.iconst X109.here hx rfl (hb hby d13_37) k) ?_
        show OwnEnd p e below s _ _ _ (T109.setTop (mkF m 38 #[.val (.ref a1), .val (.int p2), .val (.int p3)] [(.int (1 : Int32))]))
        refine OwnEnd.go (fun _ k => XS.goto X109.here hx rfl (pc0 := 38) (pc' := 42) rfl (hb hby d13_38) (by decide) (by decide) k) ?_
        show OwnEnd p e below s _ _ _ (T109.setTop (mkF m 42 #[.val (.ref a1), .val (.int p2), .val (.int p3)] [(.int (1 : Int32))]))
        refine ownRetZ X109 hx hlk hret (hb hby d13_42) (by decide) (by decide) (1 : Int32) (by decide) ?_
        show Q13 Z a1 p2 p3 ha ta pa sz cap f0 f1 pf h0 n0 _ T109.heap _
        rw [e109]
        exact ⟨_, rfl, N0, rfl⟩
      · refine OwnEnd.go (fun _ k => XS.icmpYes X109.here hx rfl (pc0 := 34) (pc' := 41) rfl (hb hby d13_34) rfl (flt hc112).2.1 (by decide) (by decide) k) ?_
        show OwnEnd p e below s _ _ _ (T109.setTop (mkF m 41 #[.val (.ref a1), .val (.int p2), .val (.int p3)] []))
        refine OwnEnd.go (fun _ k => XS.iconst X109.here hx rfl (hb hby d13_41) k) ?_
        show OwnEnd p e below s _ _ _ (T109.setTop (mkF m 42 #[.val (.ref a1), .val (.int p2), .val (.int p3)] [(.int (0 : Int32))]))
        refine ownRetZ X109 hx hlk hret (hb hby d13_42) (by decide) (by decide) (0 : Int32) (by decide) ?_
        show Q13 Z a1 p2 p3 ha ta pa sz cap f0 f1 pf h0 n0 _ T109.heap _
        rw [e109]
        exact ⟨_, rfl, N0, rfl⟩
    · refine OwnEnd.go (fun _ k => XS.ifYes X109.here hx rfl (pc0 := 29) (pc' := 41) rfl (hb hby d13_29) rfl (ownNeq hc111).2 (by decide) (by decide) k) ?_
      show OwnEnd p e below s _ _ _ (T109.setTop (mkF m 41 #[.val (.ref a1), .val (.int p2), .val (.int p3)] []))
      refine OwnEnd.go (fun _ k => XS.iconst X109.here hx rfl (hb hby d13_41) k) ?_
      show OwnEnd p e below s _ _ _ (T109.setTop (mkF m 42 #[.val (.ref a1), .val (.int p2), .val (.int p3)] [(.int (0 : Int32))]))
      refine ownRetZ X109 hx hlk hret (hb hby d13_42) (by decide) (by decide) (0 : Int32) (by decide) ?_
      show Q13 Z a1 p2 p3 ha ta pa sz cap f0 f1 pf h0 n0 _ T109.heap _
      rw [e109]
      exact ⟨_, rfl, N0, rfl⟩
theorem d8d0_0 : decode prog_28_method_8_code 0 = .ok (.aload_n 0, 1) := by decide +kernel
theorem d8d0_1 : decode prog_28_method_8_code 1 = .ok (.getfield 9, 3) := by decide +kernel
theorem d8d0_4 : decode prog_28_method_8_code 4 = .ok (.iload_n 2, 1) := by decide +kernel
theorem d8d0_5 : decode prog_28_method_8_code 5 = .ok (.iload_n 1, 1) := by decide +kernel
theorem d8d0_6 : decode prog_28_method_8_code 6 = .ok (.iastore, 1) := by decide +kernel
theorem d8d0_7 : decode prog_28_method_8_code 7 = .ok (.aload_n 0, 1) := by decide +kernel
theorem d8d0_8 : decode prog_28_method_8_code 8 = .ok (.getfield 21, 3) := by decide +kernel
theorem d8d0_11 : decode prog_28_method_8_code 11 = .ok (.iload_n 1, 1) := by decide +kernel
theorem d8d0_12 : decode prog_28_method_8_code 12 = .ok (.iload_n 2, 1) := by decide +kernel
theorem d8d0_13 : decode prog_28_method_8_code 13 = .ok (.iastore, 1) := by decide +kernel
theorem d8d0_14 : decode prog_28_method_8_code 14 = .ok (.return_, 1) := by decide +kernel
theorem pn_8d0 : plainName "com/example/volens/volens/core/agent/TurnQueue" = true := by first | (simp [plainName, overriddenIn]; done) | decide +kernel
theorem ef_8d0 (m : MethodId) (x0 : Addr) (x1 : Int32) (x2 : Int32) : entryFrame m #[(.ref x0), (.int x1), (.int x2)] 3 = mkF m 0 #[.val (.ref x0), .val (.int x1), .val (.int x2)] [] := by first | (simp [entryFrame, mkF, argsToLocals, Value.category]; done) | rfl
def Q8d0 (Z : State) (a1 : Addr) (p2 : Int32) (ha : Addr) (ta : Addr) (pa : Addr) (sz : Int32) (cap : Int32) (f0 : Int32) (f1 : Int32) (pf : (Nat → Int32)) (h0 : Heap) (n0 : Nat) (v : Option Value) (h : Heap) (L : List Loc) : Prop := v = none ∧ Fr n0 L ∧ Keep h0 h [a1, ha, ta, pa] ∧ ownTQ Z h n0 a1 ha ta pa sz cap p2 f1 (own_upd pf p2 (0 : Int32))
set_option maxRecDepth 65536 in
set_option maxHeartbeats 40000000 in
theorem rm8d0 (l : Launch) (Z : State) (a0 : Array Value) (hw : ∀ d ∈ tables_1, d.before a0 Z = true) (ws : List Jvm.Cond) (a1 : Addr) (p2 : Int32) (ha : Addr) (ta : Addr) (pa : Addr) (sz : Int32) (cap : Int32) (f0 : Int32) (f1 : Int32) (pf : (Nat → Int32)) (h0 : Heap) (n0 : Nat) (Z0 : n0 ≤ h0.size) (B0 : ownTQ Z h0 n0 a1 ha ta pa sz cap f0 f1 pf) (hbd : (¬ p2 < 0 ∧ p2 < cap)) :
    MetFree l (⟨"com/example/volens/volens/core/agent/TurnQueue", "put", "(II)V"⟩ : MethodName) (head1 (Jvm.Cond.code (⟨"com/example/volens/volens/core/agent/TurnQueue", "put", "(II)V"⟩ : MethodName) prog_28_method_8_code 3 none :: ws) ({ frames := 0, cells := 0, slots := 0, locals := 0 } : Room)) (fun a U => a = #[(.ref a1), (.int p2), (.int (0 : Int32))] ∧ Z.Warmed39 U.vm ∧ U.heap = h0) (fun _ _ _ _ _ => True) (fun _ U o U' => ∃ v L, o = .returned v ∧ Q8d0 Z a1 p2 ha ta pa sz cap f0 f1 pf h0 n0 v U'.heap L ∧ FrameEnd U o U' L ({ frames := 0, cells := 0, slots := 0, locals := 0 } : Room).cells ({ frames := 0, cells := 0, slots := 0, locals := 0 } : Room).slots) := by
  have ww10 := hw _ (List.mem_of_getElem? (i := 10) rfl)
  have ww22 := hw _ (List.mem_of_getElem? (i := 22) rfl)
  refine MetFree.of_bodySF (plainFor_of_name pn_8d0) hisR ?_
  intro p e s m args below meth c s₁ Bd hml0 hP hK
  obtain ⟨rfl, hZ, hh⟩ := hP
  have hx := Bd.exec
  have hby := Bd.bytes
  have hlk : meth.locks = false := Bd.notSynchronized
  have hret := Bd.returns
  have hml : c.maxLocals = 3 := hml0
  have hown : s.vm.findClass "com/example/volens/volens/core/agent/TurnQueue" = some m.cls := findClass_of_methodNamed Bd.named
  have hnm := (name_of_methodNamed Bd.named Bd.method).1
  have X0 : Stand p l e ({ frames := 0, cells := 0, slots := 0, locals := 0 } : Room) s m #[(.ref a1), (.int p2), (.int (0 : Int32))] below meth c s₁ [] 0 0 := Stand.of_body Bd
  have e0 : s₁.heap = h0 := by rw [← hh, Bd.state]; rfl
  have N0 := Fr.nil n0
  have K0 := Keep.refl h0 [a1, ha, ta, pa]
  show OwnEnd p e below s (Q8d0 Z a1 p2 ha ta pa sz cap f0 f1 pf h0 n0) ({ frames := 0, cells := 0, slots := 0, locals := 0 } : Room).cells ({ frames := 0, cells := 0, slots := 0, locals := 0 } : Room).slots _
  refine OwnEnd.go (fun _ k => castTop (ef_8d0 m a1 p2 (0 : Int32)) k) ?_
  have B_101 := B0
  obtain ⟨ga_101, gh_101, gt_101, gp_101, n1_101, n2_101, n3_101, n4_101, n5_101, n6_101, E1_101, F_h_101, F_t_101, F_p_101, F_s_101, ⟨kh_101, V_h_101⟩, V_t_101, V_p_101⟩ := B_101
  show OwnEnd p e below s _ _ _ (s₁.setTop (mkF m 0 #[.val (.ref a1), .val (.int p2), .val (.int (0 : Int32))] []))
  refine OwnEnd.go (fun _ k => XS.aloadN X0.here hx rfl (hb hby d8d0_0) rfl rfl k) ?_
  show OwnEnd p e below s _ _ _ (s₁.setTop (mkF m 1 #[.val (.ref a1), .val (.int p2), .val (.int (0 : Int32))] [(.ref a1)]))
  obtain ⟨T102, X102, e102, st102⟩ := getF X0 hx hZ hown (host := "") (Or.inl ww10) Via.refl e0 F_h_101 (g := (mkF m 1 #[.val (.ref a1), .val (.int p2), .val (.int (0 : Int32))] [(.ref a1)])) rfl rfl (hb hby d8d0_1)
  refine OwnEnd.go (fun _ k => st102 _ k) ?_
  show OwnEnd p e below s _ _ _ (T102.setTop (mkF m 4 #[.val (.ref a1), .val (.int p2), .val (.int (0 : Int32))] [(.ref ha)]))
  refine OwnEnd.go (fun _ k => XS.iloadN X102.here hx rfl (hb hby d8d0_4) rfl  k) ?_
  show OwnEnd p e below s _ _ _ (T102.setTop (mkF m 5 #[.val (.ref a1), .val (.int p2), .val (.int (0 : Int32))] [(.int (0 : Int32)), (.ref ha)]))
  refine OwnEnd.go (fun _ k => XS.iloadN X102.here hx rfl (hb hby d8d0_5) rfl  k) ?_
  show OwnEnd p e below s _ _ _ (T102.setTop (mkF m 6 #[.val (.ref a1), .val (.int p2), .val (.int (0 : Int32))] [(.int p2), (.int (0 : Int32)), (.ref ha)]))
  obtain ⟨c103, Ar103, q103, S103, G103, H103, J103⟩ := id V_h_101
  obtain ⟨T103, h103, X103, e103, W103, st103⟩ := stI X102 hx hZ e102 Ar103 (j := (0 : Int32)) (inb_of S103 ⟨by decide, by decide⟩) (g := (mkF m 6 #[.val (.ref a1), .val (.int p2), .val (.int (0 : Int32))] [(.int p2), (.int (0 : Int32)), (.ref ha)])) rfl rfl (hb hby d8d0_6)
  have V103 : Arv Z h103 ha kh_101 .int (16 : Int32) [(.int p2), (.int f1), (.int (0 : Int32)), (.int (0 : Int32)), (.int (0 : Int32)), (.int (0 : Int32)), (.int (0 : Int32)), (.int (0 : Int32)), (.int (0 : Int32)), (.int (0 : Int32)), (.int (0 : Int32)), (.int (0 : Int32)), (.int (0 : Int32)), (.int (0 : Int32)), (.int (0 : Int32)), (.int (0 : Int32))] (.int (0 : Int32)) := Arv.set Ar103 q103 S103 G103 H103 J103 rfl W103 0 rfl (Nat.le_of_ble_eq_true rfl)
  have F104 := E1_101.wr W103
  have F105 := F_h_101.other W103 (Or.inl n1_101)
  have F106 := F_t_101.other W103 (Or.inl n1_101)
  have F107 := F_p_101.other W103 (Or.inl n1_101)
  have F108 := F_s_101.other W103 (Or.inl n1_101)
  have F110 := V_t_101.other W103 (Ne.symm n4_101)
  have F111 := V_p_101.other W103 (Ne.symm n5_101)
  have N103 := Fr.snoc X103 N0 gh_101
  have K103 := K0.wr W103 (Or.inl (List.mem_of_getElem? (i := 1) rfl))
  have Y103 := Nat.le_trans Z0 (Nat.le_of_eq W103.size.symm)
  refine OwnEnd.go (fun _ k => st103 _ k) ?_
  show OwnEnd p e below s _ _ _ (T103.setTop (mkF m 7 #[.val (.ref a1), .val (.int p2), .val (.int (0 : Int32))] []))
  refine OwnEnd.go (fun _ k => XS.aloadN X103.here hx rfl (hb hby d8d0_7) rfl rfl k) ?_
  show OwnEnd p e below s _ _ _ (T103.setTop (mkF m 8 #[.val (.ref a1), .val (.int p2), .val (.int (0 : Int32))] [(.ref a1)]))
  obtain ⟨T112, X112, e112, st112⟩ := getF X103 hx hZ hown (host := "") (Or.inl ww22) Via.refl e103 F107 (g := (mkF m 8 #[.val (.ref a1), .val (.int p2), .val (.int (0 : Int32))] [(.ref a1)])) rfl rfl (hb hby d8d0_8)
  refine OwnEnd.go (fun _ k => st112 _ k) ?_
  show OwnEnd p e below s _ _ _ (T112.setTop (mkF m 11 #[.val (.ref a1), .val (.int p2), .val (.int (0 : Int32))] [(.ref pa)]))
  refine OwnEnd.go (fun _ k => XS.iloadN X112.here hx rfl (hb hby d8d0_11) rfl  k) ?_
  show OwnEnd p e below s _ _ _ (T112.setTop (mkF m 12 #[.val (.ref a1), .val (.int p2), .val (.int (0 : Int32))] [(.int p2), (.ref pa)]))
  refine OwnEnd.go (fun _ k => XS.iloadN X112.here hx rfl (hb hby d8d0_12) rfl  k) ?_
  show OwnEnd p e below s _ _ _ (T112.setTop (mkF m 13 #[.val (.ref a1), .val (.int p2), .val (.int (0 : Int32))] [(.int (0 : Int32)), (.int p2), (.ref pa)]))
  obtain ⟨T113, h113, X113, e113, W113, V113, st113⟩ := ownAstore X112 hx hZ e112 F111 (j := p2) hbd (g := (mkF m 13 #[.val (.ref a1), .val (.int p2), .val (.int (0 : Int32))] [(.int (0 : Int32)), (.int p2), (.ref pa)])) rfl rfl (hb hby d8d0_13)
  have F114 := F104.wr W113
  have F115 := F105.other W113 (Or.inl n3_101)
  have F116 := F106.other W113 (Or.inl n3_101)
  have F117 := F107.other W113 (Or.inl n3_101)
  have F118 := F108.other W113 (Or.inl n3_101)
  have F119 := F110.other W113 n6_101
  have F121 := V103.other W113 n5_101
  have N113 := Fr.snoc X113 N103 gp_101
  have K113 := K103.wr W113 (Or.inl (List.mem_of_getElem? (i := 3) rfl))
  have Y113 := Nat.le_trans Y103 (Nat.le_of_eq W113.size.symm)
  refine OwnEnd.go (fun _ k => st113 _ k) ?_
  show OwnEnd p e below s _ _ _ (T113.setTop (mkF m 14 #[.val (.ref a1), .val (.int p2), .val (.int (0 : Int32))] []))
  refine ownRetV X113 hx hlk hret (hb hby d8d0_14) (by decide) (by decide) ?_
  show Q8d0 Z a1 p2 ha ta pa sz cap f0 f1 pf h0 n0 _ T113.heap _
  rw [e113]
  exact ⟨rfl, N113, K113, ⟨ga_101, gh_101, gt_101, gp_101, n1_101, n2_101, n3_101, n4_101, n5_101, n6_101, F114, F115, F116, F117, F118, ⟨_, F121⟩, F119, V113⟩⟩
theorem d7d0_0 : decode prog_28_method_6_code 0 = .ok (.iload_n 2, 1) := by decide +kernel
theorem d7d0_1 : decode prog_28_method_6_code 1 = .ok (.istore_n 3, 1) := by decide +kernel
theorem d7d0_2 : decode prog_28_method_6_code 2 = .ok (.iload_n 3, 1) := by decide +kernel
theorem d7d0_3 : decode prog_28_method_6_code 3 = .ok (.ifCond .le 46, 3) := by decide +kernel
theorem d7d0_49 : decode prog_28_method_6_code 49 = .ok (.aload_n 0, 1) := by decide +kernel
theorem d7d0_50 : decode prog_28_method_6_code 50 = .ok (.iload_n 1, 1) := by decide +kernel
theorem d7d0_51 : decode prog_28_method_6_code 51 = .ok (.iload_n 3, 1) := by decide +kernel
theorem d7d0_52 : decode prog_28_method_6_code 52 = .ok (.invokevirtual 49, 3) := by decide +kernel
theorem d7d0_55 : decode prog_28_method_6_code 55 = .ok (.return_, 1) := by decide +kernel
theorem pn_7d0 : plainName "com/example/volens/volens/core/agent/TurnQueue" = true := by first | (simp [plainName, overriddenIn]; done) | decide +kernel
theorem pd7d0_0 : parseMethodDescriptor "(II)V" = some ⟨[.int, .int], none⟩ := by decide +kernel
theorem ef_7d0 (m : MethodId) (x0 : Addr) (x1 : Int32) (x2 : Int32) : entryFrame m #[(.ref x0), (.int x1), (.int x2)] 5 = mkF m 0 #[.val (.ref x0), .val (.int x1), .val (.int x2), .unset, .unset] [] := by first | (simp [entryFrame, mkF, argsToLocals, Value.category]; done) | rfl
def Q7d0 (Z : State) (a1 : Addr) (p2 : Int32) (ha : Addr) (ta : Addr) (pa : Addr) (sz : Int32) (cap : Int32) (f0 : Int32) (f1 : Int32) (pf : (Nat → Int32)) (h0 : Heap) (n0 : Nat) (v : Option Value) (h : Heap) (L : List Loc) : Prop := v = none ∧ Fr n0 L ∧ Keep h0 h [a1, ha, ta, pa] ∧ ownTQ Z h n0 a1 ha ta pa sz cap p2 f1 (own_upd pf p2 (0 : Int32))
set_option maxRecDepth 65536 in
set_option maxHeartbeats 40000000 in
theorem rm7d0 (l : Launch) (Z : State) (a0 : Array Value) (hw : ∀ d ∈ tables_1, d.before a0 Z = true) (ws : List Jvm.Cond) (a1 : Addr) (p2 : Int32) (ha : Addr) (ta : Addr) (pa : Addr) (sz : Int32) (cap : Int32) (f0 : Int32) (f1 : Int32) (pf : (Nat → Int32)) (h0 : Heap) (n0 : Nat) (Z0 : n0 ≤ h0.size) (B0 : ownTQ Z h0 n0 a1 ha ta pa sz cap f0 f1 pf) (hbd : (¬ p2 < 0 ∧ p2 < cap)) :
    MetFree l (⟨"com/example/volens/volens/core/agent/TurnQueue", "rise", "(II)V"⟩ : MethodName) (head1 (Jvm.Cond.code (⟨"com/example/volens/volens/core/agent/TurnQueue", "rise", "(II)V"⟩ : MethodName) prog_28_method_6_code 5 none :: ws) ({ frames := 1, cells := 0, slots := 0, locals := 14 } : Room)) (fun a U => a = #[(.ref a1), (.int p2), (.int (0 : Int32))] ∧ Z.Warmed39 U.vm ∧ U.heap = h0) (fun _ _ _ _ _ => True) (fun _ U o U' => ∃ v L, o = .returned v ∧ Q7d0 Z a1 p2 ha ta pa sz cap f0 f1 pf h0 n0 v U'.heap L ∧ FrameEnd U o U' L ({ frames := 1, cells := 0, slots := 0, locals := 14 } : Room).cells ({ frames := 1, cells := 0, slots := 0, locals := 14 } : Room).slots) := by
  have ww1 := hw _ (List.mem_of_getElem? (i := 1) rfl)
  have ww2 := hw _ (List.mem_of_getElem? (i := 2) rfl)
  have ww40 := hw _ (List.mem_of_getElem? (i := 40) rfl)
  have ww41 := hw _ (List.mem_of_getElem? (i := 41) rfl)
  have ww42 := hw _ (List.mem_of_getElem? (i := 42) rfl)
  have ww43 := hw _ (List.mem_of_getElem? (i := 43) rfl)
  refine MetFree.of_bodySF (plainFor_of_name pn_7d0) hisR ?_
  intro p e s m args below meth c s₁ Bd hml0 hP hK
  obtain ⟨rfl, hZ, hh⟩ := hP
  have hx := Bd.exec
  have hby := Bd.bytes
  have hlk : meth.locks = false := Bd.notSynchronized
  have hret := Bd.returns
  have hml : c.maxLocals = 5 := hml0
  have hown : s.vm.findClass "com/example/volens/volens/core/agent/TurnQueue" = some m.cls := findClass_of_methodNamed Bd.named
  have hnm := (name_of_methodNamed Bd.named Bd.method).1
  have X0 : Stand p l e ({ frames := 1, cells := 0, slots := 0, locals := 14 } : Room) s m #[(.ref a1), (.int p2), (.int (0 : Int32))] below meth c s₁ [] 0 0 := Stand.of_body Bd
  have e0 : s₁.heap = h0 := by rw [← hh, Bd.state]; rfl
  have N0 := Fr.nil n0
  have K0 := Keep.refl h0 [a1, ha, ta, pa]
  show OwnEnd p e below s (Q7d0 Z a1 p2 ha ta pa sz cap f0 f1 pf h0 n0) ({ frames := 1, cells := 0, slots := 0, locals := 14 } : Room).cells ({ frames := 1, cells := 0, slots := 0, locals := 14 } : Room).slots _
  refine OwnEnd.go (fun _ k => castTop (ef_7d0 m a1 p2 (0 : Int32)) k) ?_
  have E1 := B0.2.2.2.2.2.2.2.2.2.2.1
  have ga := B0.1
  have gh := B0.2.1
  have gt := B0.2.2.1
  have gp := B0.2.2.2.1
  show OwnEnd p e below s _ _ _ (s₁.setTop (mkF m 0 #[.val (.ref a1), .val (.int p2), .val (.int (0 : Int32)), .unset, .unset] []))
  refine OwnEnd.go (fun _ k => XS.iloadN X0.here hx rfl (hb hby d7d0_0) rfl  k) ?_
  show OwnEnd p e below s _ _ _ (s₁.setTop (mkF m 1 #[.val (.ref a1), .val (.int p2), .val (.int (0 : Int32)), .unset, .unset] [(.int (0 : Int32))]))
  refine OwnEnd.go (fun _ k => XS.istoreN X0.here hx rfl (hb hby d7d0_1) rfl  (l' := #[.val (.ref a1), .val (.int p2), .val (.int (0 : Int32)), .val (.int (0 : Int32)), .unset]) rfl k) ?_
  show OwnEnd p e below s _ _ _ (s₁.setTop (mkF m 2 #[.val (.ref a1), .val (.int p2), .val (.int (0 : Int32)), .val (.int (0 : Int32)), .unset] []))
  refine OwnEnd.go (fun _ k => XS.iloadN X0.here hx rfl (hb hby d7d0_2) rfl  k) ?_
  show OwnEnd p e below s _ _ _ (s₁.setTop (mkF m 3 #[.val (.ref a1), .val (.int p2), .val (.int (0 : Int32)), .val (.int (0 : Int32)), .unset] [(.int (0 : Int32))]))
  refine OwnEnd.go (fun _ k => XS.ifYes X0.here hx rfl (pc0 := 3) (pc' := 49) rfl (hb hby d7d0_3) rfl ((if0 _ _).trans (flt (by decide : ¬ (0 : Int32) < (0 : Int32))).2.2.2) (by decide) (by decide) k) ?_
  show OwnEnd p e below s _ _ _ (s₁.setTop (mkF m 49 #[.val (.ref a1), .val (.int p2), .val (.int (0 : Int32)), .val (.int (0 : Int32)), .unset] []))
  refine OwnEnd.go (fun _ k => XS.aloadN X0.here hx rfl (hb hby d7d0_49) rfl rfl k) ?_
  show OwnEnd p e below s _ _ _ (s₁.setTop (mkF m 50 #[.val (.ref a1), .val (.int p2), .val (.int (0 : Int32)), .val (.int (0 : Int32)), .unset] [(.ref a1)]))
  refine OwnEnd.go (fun _ k => XS.iloadN X0.here hx rfl (hb hby d7d0_50) rfl  k) ?_
  show OwnEnd p e below s _ _ _ (s₁.setTop (mkF m 51 #[.val (.ref a1), .val (.int p2), .val (.int (0 : Int32)), .val (.int (0 : Int32)), .unset] [(.int p2), (.ref a1)]))
  refine OwnEnd.go (fun _ k => XS.iloadN X0.here hx rfl (hb hby d7d0_51) rfl  k) ?_
  show OwnEnd p e below s _ _ _ (s₁.setTop (mkF m 52 #[.val (.ref a1), .val (.int p2), .val (.int (0 : Int32)), .val (.int (0 : Int32)), .unset] [(.int (0 : Int32)), (.int p2), (.ref a1)]))
  obtain ⟨_, T101, L101, X101, hQ101, st101⟩ := ownCallP X0 hx hZ hown ww40 ww42 (ownSel (by decide) ww1 ww42 ww41) ww41 ww2 ww43 (by decide) (rm8d0 l Z a0 hw [] a1 p2 ha ta pa sz cap f0 f1 pf h0 n0 Z0  B0 hbd) e0 E1 0 (by decide) (by decide) (by decide) (by decide) (g := (mkF m 52 #[.val (.ref a1), .val (.int p2), .val (.int (0 : Int32)), .val (.int (0 : Int32)), .unset] [(.int (0 : Int32)), (.int p2), (.ref a1)])) rfl (by rw [hml]; rfl) (argsL := [(.int p2), (.int (0 : Int32))]) (rest := []) (lenOf pd7d0_0 rfl) rfl rfl (by show 2 * 0 + _ ≤ _; exact Nat.le_of_eq rfl) (hb hby d7d0_52)
  obtain ⟨rfl, N101q, K101q, P102⟩ := hQ101
  have N101 := Fr.app N0 N101q
  have F104 := E1.keep K101q
  have K101 := K0.trans K101q (allS (Or.inl (List.mem_of_getElem? (i := 0) rfl)) (allS (Or.inl (List.mem_of_getElem? (i := 1) rfl)) (allS (Or.inl (List.mem_of_getElem? (i := 2) rfl)) (allS (Or.inl (List.mem_of_getElem? (i := 3) rfl)) all0))))
  have Y101 := Nat.le_trans Z0 K101q.1
  refine OwnEnd.go (fun _ k => st101 _ k) ?_
  show OwnEnd p e below s _ _ _ (T101.setTop (mkF m 55 #[.val (.ref a1), .val (.int p2), .val (.int (0 : Int32)), .val (.int (0 : Int32)), .unset] []))
  refine ownRetV X101 hx hlk hret (hb hby d7d0_55) (by decide) (by decide) ?_
  show Q7d0 Z a1 p2 ha ta pa sz cap f0 f1 pf h0 n0 _ T101.heap _
  skip
  exact ⟨rfl, N101, K101, P102⟩
theorem d8d1_0 : decode prog_28_method_8_code 0 = .ok (.aload_n 0, 1) := by decide +kernel
theorem d8d1_1 : decode prog_28_method_8_code 1 = .ok (.getfield 9, 3) := by decide +kernel
theorem d8d1_4 : decode prog_28_method_8_code 4 = .ok (.iload_n 2, 1) := by decide +kernel
theorem d8d1_5 : decode prog_28_method_8_code 5 = .ok (.iload_n 1, 1) := by decide +kernel
theorem d8d1_6 : decode prog_28_method_8_code 6 = .ok (.iastore, 1) := by decide +kernel
theorem d8d1_7 : decode prog_28_method_8_code 7 = .ok (.aload_n 0, 1) := by decide +kernel
theorem d8d1_8 : decode prog_28_method_8_code 8 = .ok (.getfield 21, 3) := by decide +kernel
theorem d8d1_11 : decode prog_28_method_8_code 11 = .ok (.iload_n 1, 1) := by decide +kernel
theorem d8d1_12 : decode prog_28_method_8_code 12 = .ok (.iload_n 2, 1) := by decide +kernel
theorem d8d1_13 : decode prog_28_method_8_code 13 = .ok (.iastore, 1) := by decide +kernel
theorem d8d1_14 : decode prog_28_method_8_code 14 = .ok (.return_, 1) := by decide +kernel
theorem pn_8d1 : plainName "com/example/volens/volens/core/agent/TurnQueue" = true := by first | (simp [plainName, overriddenIn]; done) | decide +kernel
theorem ef_8d1 (m : MethodId) (x0 : Addr) (x1 : Int32) (x2 : Int32) : entryFrame m #[(.ref x0), (.int x1), (.int x2)] 3 = mkF m 0 #[.val (.ref x0), .val (.int x1), .val (.int x2)] [] := by first | (simp [entryFrame, mkF, argsToLocals, Value.category]; done) | rfl
def Q8d1 (Z : State) (a1 : Addr) (p2 : Int32) (ha : Addr) (ta : Addr) (pa : Addr) (sz : Int32) (cap : Int32) (f0 : Int32) (f1 : Int32) (pf : (Nat → Int32)) (h0 : Heap) (n0 : Nat) (v : Option Value) (h : Heap) (L : List Loc) : Prop := v = none ∧ Fr n0 L ∧ Keep h0 h [a1, ha, ta, pa] ∧ ownTQ Z h n0 a1 ha ta pa sz cap f0 p2 (own_upd pf p2 (1 : Int32))
set_option maxRecDepth 65536 in
set_option maxHeartbeats 40000000 in
theorem rm8d1 (l : Launch) (Z : State) (a0 : Array Value) (hw : ∀ d ∈ tables_1, d.before a0 Z = true) (ws : List Jvm.Cond) (a1 : Addr) (p2 : Int32) (ha : Addr) (ta : Addr) (pa : Addr) (sz : Int32) (cap : Int32) (f0 : Int32) (f1 : Int32) (pf : (Nat → Int32)) (h0 : Heap) (n0 : Nat) (Z0 : n0 ≤ h0.size) (B0 : ownTQ Z h0 n0 a1 ha ta pa sz cap f0 f1 pf) (hbd : (¬ p2 < 0 ∧ p2 < cap)) :
    MetFree l (⟨"com/example/volens/volens/core/agent/TurnQueue", "put", "(II)V"⟩ : MethodName) (head1 (Jvm.Cond.code (⟨"com/example/volens/volens/core/agent/TurnQueue", "put", "(II)V"⟩ : MethodName) prog_28_method_8_code 3 none :: ws) ({ frames := 0, cells := 0, slots := 0, locals := 0 } : Room)) (fun a U => a = #[(.ref a1), (.int p2), (.int (1 : Int32))] ∧ Z.Warmed39 U.vm ∧ U.heap = h0) (fun _ _ _ _ _ => True) (fun _ U o U' => ∃ v L, o = .returned v ∧ Q8d1 Z a1 p2 ha ta pa sz cap f0 f1 pf h0 n0 v U'.heap L ∧ FrameEnd U o U' L ({ frames := 0, cells := 0, slots := 0, locals := 0 } : Room).cells ({ frames := 0, cells := 0, slots := 0, locals := 0 } : Room).slots) := by
  have ww10 := hw _ (List.mem_of_getElem? (i := 10) rfl)
  have ww22 := hw _ (List.mem_of_getElem? (i := 22) rfl)
  refine MetFree.of_bodySF (plainFor_of_name pn_8d1) hisR ?_
  intro p e s m args below meth c s₁ Bd hml0 hP hK
  obtain ⟨rfl, hZ, hh⟩ := hP
  have hx := Bd.exec
  have hby := Bd.bytes
  have hlk : meth.locks = false := Bd.notSynchronized
  have hret := Bd.returns
  have hml : c.maxLocals = 3 := hml0
  have hown : s.vm.findClass "com/example/volens/volens/core/agent/TurnQueue" = some m.cls := findClass_of_methodNamed Bd.named
  have hnm := (name_of_methodNamed Bd.named Bd.method).1
  have X0 : Stand p l e ({ frames := 0, cells := 0, slots := 0, locals := 0 } : Room) s m #[(.ref a1), (.int p2), (.int (1 : Int32))] below meth c s₁ [] 0 0 := Stand.of_body Bd
  have e0 : s₁.heap = h0 := by rw [← hh, Bd.state]; rfl
  have N0 := Fr.nil n0
  have K0 := Keep.refl h0 [a1, ha, ta, pa]
  show OwnEnd p e below s (Q8d1 Z a1 p2 ha ta pa sz cap f0 f1 pf h0 n0) ({ frames := 0, cells := 0, slots := 0, locals := 0 } : Room).cells ({ frames := 0, cells := 0, slots := 0, locals := 0 } : Room).slots _
  refine OwnEnd.go (fun _ k => castTop (ef_8d1 m a1 p2 (1 : Int32)) k) ?_
  have B_101 := B0
  obtain ⟨ga_101, gh_101, gt_101, gp_101, n1_101, n2_101, n3_101, n4_101, n5_101, n6_101, E1_101, F_h_101, F_t_101, F_p_101, F_s_101, ⟨kh_101, V_h_101⟩, V_t_101, V_p_101⟩ := B_101
  show OwnEnd p e below s _ _ _ (s₁.setTop (mkF m 0 #[.val (.ref a1), .val (.int p2), .val (.int (1 : Int32))] []))
  refine OwnEnd.go (fun _ k => XS.aloadN X0.here hx rfl (hb hby d8d1_0) rfl rfl k) ?_
  show OwnEnd p e below s _ _ _ (s₁.setTop (mkF m 1 #[.val (.ref a1), .val (.int p2), .val (.int (1 : Int32))] [(.ref a1)]))
  obtain ⟨T102, X102, e102, st102⟩ := getF X0 hx hZ hown (host := "") (Or.inl ww10) Via.refl e0 F_h_101 (g := (mkF m 1 #[.val (.ref a1), .val (.int p2), .val (.int (1 : Int32))] [(.ref a1)])) rfl rfl (hb hby d8d1_1)
  refine OwnEnd.go (fun _ k => st102 _ k) ?_
  show OwnEnd p e below s _ _ _ (T102.setTop (mkF m 4 #[.val (.ref a1), .val (.int p2), .val (.int (1 : Int32))] [(.ref ha)]))
  refine OwnEnd.go (fun _ k => XS.iloadN X102.here hx rfl (hb hby d8d1_4) rfl  k) ?_
  show OwnEnd p e below s _ _ _ (T102.setTop (mkF m 5 #[.val (.ref a1), .val (.int p2), .val (.int (1 : Int32))] [(.int (1 : Int32)), (.ref ha)]))
  refine OwnEnd.go (fun _ k => XS.iloadN X102.here hx rfl (hb hby d8d1_5) rfl  k) ?_
  show OwnEnd p e below s _ _ _ (T102.setTop (mkF m 6 #[.val (.ref a1), .val (.int p2), .val (.int (1 : Int32))] [(.int p2), (.int (1 : Int32)), (.ref ha)]))
  obtain ⟨c103, Ar103, q103, S103, G103, H103, J103⟩ := id V_h_101
  obtain ⟨T103, h103, X103, e103, W103, st103⟩ := stI X102 hx hZ e102 Ar103 (j := (1 : Int32)) (inb_of S103 ⟨by decide, by decide⟩) (g := (mkF m 6 #[.val (.ref a1), .val (.int p2), .val (.int (1 : Int32))] [(.int p2), (.int (1 : Int32)), (.ref ha)])) rfl rfl (hb hby d8d1_6)
  have V103 : Arv Z h103 ha kh_101 .int (16 : Int32) [(.int f0), (.int p2), (.int (0 : Int32)), (.int (0 : Int32)), (.int (0 : Int32)), (.int (0 : Int32)), (.int (0 : Int32)), (.int (0 : Int32)), (.int (0 : Int32)), (.int (0 : Int32)), (.int (0 : Int32)), (.int (0 : Int32)), (.int (0 : Int32)), (.int (0 : Int32)), (.int (0 : Int32)), (.int (0 : Int32))] (.int (0 : Int32)) := Arv.set Ar103 q103 S103 G103 H103 J103 rfl W103 1 rfl (Nat.le_of_ble_eq_true rfl)
  have F104 := E1_101.wr W103
  have F105 := F_h_101.other W103 (Or.inl n1_101)
  have F106 := F_t_101.other W103 (Or.inl n1_101)
  have F107 := F_p_101.other W103 (Or.inl n1_101)
  have F108 := F_s_101.other W103 (Or.inl n1_101)
  have F110 := V_t_101.other W103 (Ne.symm n4_101)
  have F111 := V_p_101.other W103 (Ne.symm n5_101)
  have N103 := Fr.snoc X103 N0 gh_101
  have K103 := K0.wr W103 (Or.inl (List.mem_of_getElem? (i := 1) rfl))
  have Y103 := Nat.le_trans Z0 (Nat.le_of_eq W103.size.symm)
  refine OwnEnd.go (fun _ k => st103 _ k) ?_
  show OwnEnd p e below s _ _ _ (T103.setTop (mkF m 7 #[.val (.ref a1), .val (.int p2), .val (.int (1 : Int32))] []))
  refine OwnEnd.go (fun _ k => XS.aloadN X103.here hx rfl (hb hby d8d1_7) rfl rfl k) ?_
  show OwnEnd p e below s _ _ _ (T103.setTop (mkF m 8 #[.val (.ref a1), .val (.int p2), .val (.int (1 : Int32))] [(.ref a1)]))
  obtain ⟨T112, X112, e112, st112⟩ := getF X103 hx hZ hown (host := "") (Or.inl ww22) Via.refl e103 F107 (g := (mkF m 8 #[.val (.ref a1), .val (.int p2), .val (.int (1 : Int32))] [(.ref a1)])) rfl rfl (hb hby d8d1_8)
  refine OwnEnd.go (fun _ k => st112 _ k) ?_
  show OwnEnd p e below s _ _ _ (T112.setTop (mkF m 11 #[.val (.ref a1), .val (.int p2), .val (.int (1 : Int32))] [(.ref pa)]))
  refine OwnEnd.go (fun _ k => XS.iloadN X112.here hx rfl (hb hby d8d1_11) rfl  k) ?_
  show OwnEnd p e below s _ _ _ (T112.setTop (mkF m 12 #[.val (.ref a1), .val (.int p2), .val (.int (1 : Int32))] [(.int p2), (.ref pa)]))
  refine OwnEnd.go (fun _ k => XS.iloadN X112.here hx rfl (hb hby d8d1_12) rfl  k) ?_
  show OwnEnd p e below s _ _ _ (T112.setTop (mkF m 13 #[.val (.ref a1), .val (.int p2), .val (.int (1 : Int32))] [(.int (1 : Int32)), (.int p2), (.ref pa)]))
  obtain ⟨T113, h113, X113, e113, W113, V113, st113⟩ := ownAstore X112 hx hZ e112 F111 (j := p2) hbd (g := (mkF m 13 #[.val (.ref a1), .val (.int p2), .val (.int (1 : Int32))] [(.int (1 : Int32)), (.int p2), (.ref pa)])) rfl rfl (hb hby d8d1_13)
  have F114 := F104.wr W113
  have F115 := F105.other W113 (Or.inl n3_101)
  have F116 := F106.other W113 (Or.inl n3_101)
  have F117 := F107.other W113 (Or.inl n3_101)
  have F118 := F108.other W113 (Or.inl n3_101)
  have F119 := F110.other W113 n6_101
  have F121 := V103.other W113 n5_101
  have N113 := Fr.snoc X113 N103 gp_101
  have K113 := K103.wr W113 (Or.inl (List.mem_of_getElem? (i := 3) rfl))
  have Y113 := Nat.le_trans Y103 (Nat.le_of_eq W113.size.symm)
  refine OwnEnd.go (fun _ k => st113 _ k) ?_
  show OwnEnd p e below s _ _ _ (T113.setTop (mkF m 14 #[.val (.ref a1), .val (.int p2), .val (.int (1 : Int32))] []))
  refine ownRetV X113 hx hlk hret (hb hby d8d1_14) (by decide) (by decide) ?_
  show Q8d1 Z a1 p2 ha ta pa sz cap f0 f1 pf h0 n0 _ T113.heap _
  rw [e113]
  exact ⟨rfl, N113, K113, ⟨ga_101, gh_101, gt_101, gp_101, n1_101, n2_101, n3_101, n4_101, n5_101, n6_101, F114, F115, F116, F117, F118, ⟨_, F121⟩, F119, V113⟩⟩
theorem d7d1_0 : decode prog_28_method_6_code 0 = .ok (.iload_n 2, 1) := by decide +kernel
theorem d7d1_1 : decode prog_28_method_6_code 1 = .ok (.istore_n 3, 1) := by decide +kernel
theorem d7d1_2 : decode prog_28_method_6_code 2 = .ok (.iload_n 3, 1) := by decide +kernel
theorem d7d1_3 : decode prog_28_method_6_code 3 = .ok (.ifCond .le 46, 3) := by decide +kernel
theorem d7d1_6 : decode prog_28_method_6_code 6 = .ok (.aload_n 0, 1) := by decide +kernel
theorem d7d1_7 : decode prog_28_method_6_code 7 = .ok (.iload_n 1, 1) := by decide +kernel
theorem d7d1_8 : decode prog_28_method_6_code 8 = .ok (.aload_n 0, 1) := by decide +kernel
theorem d7d1_9 : decode prog_28_method_6_code 9 = .ok (.getfield 9, 3) := by decide +kernel
theorem d7d1_12 : decode prog_28_method_6_code 12 = .ok (.iload_n 3, 1) := by decide +kernel
theorem d7d1_13 : decode prog_28_method_6_code 13 = .ok (.iconst 1, 1) := by decide +kernel
theorem d7d1_14 : decode prog_28_method_6_code 14 = .ok (.isub, 1) := by decide +kernel
theorem d7d1_15 : decode prog_28_method_6_code 15 = .ok (.iconst 2, 1) := by decide +kernel
theorem d7d1_16 : decode prog_28_method_6_code 16 = .ok (.idiv, 1) := by decide +kernel
theorem d7d1_17 : decode prog_28_method_6_code 17 = .ok (.iaload, 1) := by decide +kernel
theorem d7d1_18 : decode prog_28_method_6_code 18 = .ok (.invokevirtual 45, 3) := by decide +kernel
theorem d7d1_21 : decode prog_28_method_6_code 21 = .ok (.ifCond .eq 28, 3) := by decide +kernel
theorem d7d1_24 : decode prog_28_method_6_code 24 = .ok (.iload_n 3, 1) := by decide +kernel
theorem d7d1_25 : decode prog_28_method_6_code 25 = .ok (.iconst 1, 1) := by decide +kernel
theorem d7d1_26 : decode prog_28_method_6_code 26 = .ok (.isub, 1) := by decide +kernel
theorem d7d1_27 : decode prog_28_method_6_code 27 = .ok (.iconst 2, 1) := by decide +kernel
theorem d7d1_28 : decode prog_28_method_6_code 28 = .ok (.idiv, 1) := by decide +kernel
theorem d7d1_29 : decode prog_28_method_6_code 29 = .ok (.istore 4, 2) := by decide +kernel
theorem d7d1_31 : decode prog_28_method_6_code 31 = .ok (.aload_n 0, 1) := by decide +kernel
theorem d7d1_32 : decode prog_28_method_6_code 32 = .ok (.aload_n 0, 1) := by decide +kernel
theorem d7d1_33 : decode prog_28_method_6_code 33 = .ok (.getfield 9, 3) := by decide +kernel
theorem d7d1_36 : decode prog_28_method_6_code 36 = .ok (.iload 4, 2) := by decide +kernel
theorem d7d1_38 : decode prog_28_method_6_code 38 = .ok (.iaload, 1) := by decide +kernel
theorem d7d1_39 : decode prog_28_method_6_code 39 = .ok (.iload_n 3, 1) := by decide +kernel
theorem d7d1_40 : decode prog_28_method_6_code 40 = .ok (.invokevirtual 49, 3) := by decide +kernel
theorem d7d1_43 : decode prog_28_method_6_code 43 = .ok (.iload 4, 2) := by decide +kernel
theorem d7d1_45 : decode prog_28_method_6_code 45 = .ok (.istore_n 3, 1) := by decide +kernel
theorem d7d1_46 : decode prog_28_method_6_code 46 = .ok (.goto (-44), 3) := by decide +kernel
theorem d7d1_49 : decode prog_28_method_6_code 49 = .ok (.aload_n 0, 1) := by decide +kernel
theorem d7d1_50 : decode prog_28_method_6_code 50 = .ok (.iload_n 1, 1) := by decide +kernel
theorem d7d1_51 : decode prog_28_method_6_code 51 = .ok (.iload_n 3, 1) := by decide +kernel
theorem d7d1_52 : decode prog_28_method_6_code 52 = .ok (.invokevirtual 49, 3) := by decide +kernel
theorem d7d1_55 : decode prog_28_method_6_code 55 = .ok (.return_, 1) := by decide +kernel
theorem pn_7d1 : plainName "com/example/volens/volens/core/agent/TurnQueue" = true := by first | (simp [plainName, overriddenIn]; done) | decide +kernel
theorem pd7d1_0 : parseMethodDescriptor "(II)Z" = some ⟨[.int, .int], some .boolean⟩ := by decide +kernel
theorem pd7d1_1 : parseMethodDescriptor "(II)V" = some ⟨[.int, .int], none⟩ := by decide +kernel
theorem ef_7d1 (m : MethodId) (x0 : Addr) (x1 : Int32) (x2 : Int32) : entryFrame m #[(.ref x0), (.int x1), (.int x2)] 5 = mkF m 0 #[.val (.ref x0), .val (.int x1), .val (.int x2), .unset, .unset] [] := by first | (simp [entryFrame, mkF, argsToLocals, Value.category]; done) | rfl
def Q7d1 (Z : State) (a1 : Addr) (p2 : Int32) (ha : Addr) (ta : Addr) (pa : Addr) (sz : Int32) (cap : Int32) (f0 : Int32) (f1 : Int32) (pf : (Nat → Int32)) (h0 : Heap) (n0 : Nat) (v : Option Value) (h : Heap) (L : List Loc) : Prop := ∃ (y0 : Int32) (y1 : Int32) (yf : (Nat → Int32)), v = none ∧ Fr n0 L ∧ Keep h0 h [a1, ha, ta, pa] ∧ ownTQ Z h n0 a1 ha ta pa sz cap y0 y1 yf ∧ (¬ y0 < 0 ∧ y0 < cap) ∧ (¬ y1 < 0 ∧ y1 < cap)
set_option maxRecDepth 65536 in
set_option maxHeartbeats 40000000 in
theorem rm7d1 (l : Launch) (Z : State) (a0 : Array Value) (hw : ∀ d ∈ tables_1, d.before a0 Z = true) (ws : List Jvm.Cond) (a1 : Addr) (p2 : Int32) (ha : Addr) (ta : Addr) (pa : Addr) (sz : Int32) (cap : Int32) (f0 : Int32) (f1 : Int32) (pf : (Nat → Int32)) (h0 : Heap) (n0 : Nat) (Z0 : n0 ≤ h0.size) (B0 : ownTQ Z h0 n0 a1 ha ta pa sz cap f0 f1 pf) (hbd : (¬ p2 < 0 ∧ p2 < cap)) (hf : (¬ f0 < 0 ∧ f0 < cap)) :
    MetFree l (⟨"com/example/volens/volens/core/agent/TurnQueue", "rise", "(II)V"⟩ : MethodName) (head1 (Jvm.Cond.code (⟨"com/example/volens/volens/core/agent/TurnQueue", "rise", "(II)V"⟩ : MethodName) prog_28_method_6_code 5 none :: ws) ({ frames := 1, cells := 0, slots := 0, locals := 16 } : Room)) (fun a U => a = #[(.ref a1), (.int p2), (.int (1 : Int32))] ∧ Z.Warmed39 U.vm ∧ U.heap = h0) (fun _ _ _ _ _ => True) (fun _ U o U' => ∃ v L, o = .returned v ∧ Q7d1 Z a1 p2 ha ta pa sz cap f0 f1 pf h0 n0 v U'.heap L ∧ FrameEnd U o U' L ({ frames := 1, cells := 0, slots := 0, locals := 16 } : Room).cells ({ frames := 1, cells := 0, slots := 0, locals := 16 } : Room).slots) := by
  have ww1 := hw _ (List.mem_of_getElem? (i := 1) rfl)
  have ww2 := hw _ (List.mem_of_getElem? (i := 2) rfl)
  have ww10 := hw _ (List.mem_of_getElem? (i := 10) rfl)
  have ww40 := hw _ (List.mem_of_getElem? (i := 40) rfl)
  have ww41 := hw _ (List.mem_of_getElem? (i := 41) rfl)
  have ww42 := hw _ (List.mem_of_getElem? (i := 42) rfl)
  have ww43 := hw _ (List.mem_of_getElem? (i := 43) rfl)
  have ww64 := hw _ (List.mem_of_getElem? (i := 64) rfl)
  have ww65 := hw _ (List.mem_of_getElem? (i := 65) rfl)
  have ww66 := hw _ (List.mem_of_getElem? (i := 66) rfl)
  have ww67 := hw _ (List.mem_of_getElem? (i := 67) rfl)
  refine MetFree.of_bodySF (plainFor_of_name pn_7d1) hisR ?_
  intro p e s m args below meth c s₁ Bd hml0 hP hK
  obtain ⟨rfl, hZ, hh⟩ := hP
  have hx := Bd.exec
  have hby := Bd.bytes
  have hlk : meth.locks = false := Bd.notSynchronized
  have hret := Bd.returns
  have hml : c.maxLocals = 5 := hml0
  have hown : s.vm.findClass "com/example/volens/volens/core/agent/TurnQueue" = some m.cls := findClass_of_methodNamed Bd.named
  have hnm := (name_of_methodNamed Bd.named Bd.method).1
  have X0 : Stand p l e ({ frames := 1, cells := 0, slots := 0, locals := 16 } : Room) s m #[(.ref a1), (.int p2), (.int (1 : Int32))] below meth c s₁ [] 0 0 := Stand.of_body Bd
  have e0 : s₁.heap = h0 := by rw [← hh, Bd.state]; rfl
  have N0 := Fr.nil n0
  have K0 := Keep.refl h0 [a1, ha, ta, pa]
  show OwnEnd p e below s (Q7d1 Z a1 p2 ha ta pa sz cap f0 f1 pf h0 n0) ({ frames := 1, cells := 0, slots := 0, locals := 16 } : Room).cells ({ frames := 1, cells := 0, slots := 0, locals := 16 } : Room).slots _
  refine OwnEnd.go (fun _ k => castTop (ef_7d1 m a1 p2 (1 : Int32)) k) ?_
  have E1 := B0.2.2.2.2.2.2.2.2.2.2.1
  have ga := B0.1
  have gh := B0.2.1
  have gt := B0.2.2.1
  have gp := B0.2.2.2.1
  have F_h0 := B0.2.2.2.2.2.2.2.2.2.2.2.1
  obtain ⟨kh0, V_h0⟩ := B0.2.2.2.2.2.2.2.2.2.2.2.2.2.2.2.1
  show OwnEnd p e below s _ _ _ (s₁.setTop (mkF m 0 #[.val (.ref a1), .val (.int p2), .val (.int (1 : Int32)), .unset, .unset] []))
  refine OwnEnd.go (fun _ k => XS.iloadN X0.here hx rfl (hb hby d7d1_0) rfl  k) ?_
  show OwnEnd p e below s _ _ _ (s₁.setTop (mkF m 1 #[.val (.ref a1), .val (.int p2), .val (.int (1 : Int32)), .unset, .unset] [(.int (1 : Int32))]))
  refine OwnEnd.go (fun _ k => XS.istoreN X0.here hx rfl (hb hby d7d1_1) rfl  (l' := #[.val (.ref a1), .val (.int p2), .val (.int (1 : Int32)), .val (.int (1 : Int32)), .unset]) rfl k) ?_
  show OwnEnd p e below s _ _ _ (s₁.setTop (mkF m 2 #[.val (.ref a1), .val (.int p2), .val (.int (1 : Int32)), .val (.int (1 : Int32)), .unset] []))
  refine OwnEnd.go (fun _ k => XS.iloadN X0.here hx rfl (hb hby d7d1_2) rfl  k) ?_
  show OwnEnd p e below s _ _ _ (s₁.setTop (mkF m 3 #[.val (.ref a1), .val (.int p2), .val (.int (1 : Int32)), .val (.int (1 : Int32)), .unset] [(.int (1 : Int32))]))
  refine OwnEnd.go (fun _ k => XS.ifNo X0.here hx rfl (hb hby d7d1_3) rfl ((if0 _ _).trans (tlt (by decide : (0 : Int32) < (1 : Int32))).2.2.2) k) ?_
  show OwnEnd p e below s _ _ _ (s₁.setTop (mkF m 6 #[.val (.ref a1), .val (.int p2), .val (.int (1 : Int32)), .val (.int (1 : Int32)), .unset] []))
  refine OwnEnd.go (fun _ k => XS.aloadN X0.here hx rfl (hb hby d7d1_6) rfl rfl k) ?_
  show OwnEnd p e below s _ _ _ (s₁.setTop (mkF m 7 #[.val (.ref a1), .val (.int p2), .val (.int (1 : Int32)), .val (.int (1 : Int32)), .unset] [(.ref a1)]))
  refine OwnEnd.go (fun _ k => XS.iloadN X0.here hx rfl (hb hby d7d1_7) rfl  k) ?_
  show OwnEnd p e below s _ _ _ (s₁.setTop (mkF m 8 #[.val (.ref a1), .val (.int p2), .val (.int (1 : Int32)), .val (.int (1 : Int32)), .unset] [(.int p2), (.ref a1)]))
  refine OwnEnd.go (fun _ k => XS.aloadN X0.here hx rfl (hb hby d7d1_8) rfl rfl k) ?_
  show OwnEnd p e below s _ _ _ (s₁.setTop (mkF m 9 #[.val (.ref a1), .val (.int p2), .val (.int (1 : Int32)), .val (.int (1 : Int32)), .unset] [(.ref a1), (.int p2), (.ref a1)]))
  obtain ⟨T101, X101, e101, st101⟩ := getF X0 hx hZ hown (host := "") (Or.inl ww10) Via.refl e0 F_h0 (g := (mkF m 9 #[.val (.ref a1), .val (.int p2), .val (.int (1 : Int32)), .val (.int (1 : Int32)), .unset] [(.ref a1), (.int p2), (.ref a1)])) rfl rfl (hb hby d7d1_9)
  refine OwnEnd.go (fun _ k => st101 _ k) ?_
  show OwnEnd p e below s _ _ _ (T101.setTop (mkF m 12 #[.val (.ref a1), .val (.int p2), .val (.int (1 : Int32)), .val (.int (1 : Int32)), .unset] [(.ref ha), (.int p2), (.ref a1)]))
  refine OwnEnd.go (fun _ k => XS.iloadN X101.here hx rfl (hb hby d7d1_12) rfl  k) ?_
  show OwnEnd p e below s _ _ _ (T101.setTop (mkF m 13 #[.val (.ref a1), .val (.int p2), .val (.int (1 : Int32)), .val (.int (1 : Int32)), .unset] [(.int (1 : Int32)), (.ref ha), (.int p2), (.ref a1)]))
  refine OwnEnd.go (fun _ k => XS.iconst X101.here hx rfl (hb hby d7d1_13) k) ?_
  show OwnEnd p e below s _ _ _ (T101.setTop (mkF m 14 #[.val (.ref a1), .val (.int p2), .val (.int (1 : Int32)), .val (.int (1 : Int32)), .unset] [(.int (1 : Int32)), (.int (1 : Int32)), (.ref ha), (.int p2), (.ref a1)]))
  refine OwnEnd.go (fun _ k => XS.isub X101.here hx rfl (hb hby d7d1_14) rfl k) ?_
  show OwnEnd p e below s _ _ _ (T101.setTop (mkF m 15 #[.val (.ref a1), .val (.int p2), .val (.int (1 : Int32)), .val (.int (1 : Int32)), .unset] [(.int (0 : Int32)), (.ref ha), (.int p2), (.ref a1)]))
  refine OwnEnd.go (fun _ k => XS.iconst X101.here hx rfl (hb hby d7d1_15) k) ?_
  show OwnEnd p e below s _ _ _ (T101.setTop (mkF m 16 #[.val (.ref a1), .val (.int p2), .val (.int (1 : Int32)), .val (.int (1 : Int32)), .unset] [(.int (2 : Int32)), (.int (0 : Int32)), (.ref ha), (.int p2), (.ref a1)]))
  refine OwnEnd.go (fun _ k => XS.idiv X101.here hx rfl (hb hby d7d1_16) rfl (by decide) k) ?_
  show OwnEnd p e below s _ _ _ (T101.setTop (mkF m 17 #[.val (.ref a1), .val (.int p2), .val (.int (1 : Int32)), .val (.int (1 : Int32)), .unset] [(.int (0 : Int32)), (.ref ha), (.int p2), (.ref a1)]))
  obtain ⟨c102, Ar102, q102, S102, G102, H102, J102⟩ := id V_h0
  have i102 := inb_of (j := (0 : Int32)) S102 ⟨by decide, by decide⟩
  refine OwnEnd.go (fun _ k => X101.iaload hx (j := (0 : Int32)) (v := (.int f0)) (by rw [e101]; exact Ar102.1) (State.isArrayOf_alike hZ.alike Ar102.2.1) Ar102.2.2 i102 (Has.at H102 i102 rfl) (g := (mkF m 17 #[.val (.ref a1), .val (.int p2), .val (.int (1 : Int32)), .val (.int (1 : Int32)), .unset] [(.int (0 : Int32)), (.ref ha), (.int p2), (.ref a1)])) rfl rfl (hb hby d7d1_17) _ k) ?_
  show OwnEnd p e below s _ _ _ (T101.setTop (mkF m 18 #[.val (.ref a1), .val (.int p2), .val (.int (1 : Int32)), .val (.int (1 : Int32)), .unset] [(.int f0), (.int p2), (.ref a1)]))
  obtain ⟨_, T103, L103, X103, hQ103, st103⟩ := ownCallP X101 hx hZ hown ww64 ww66 (ownSel (by decide) ww1 ww66 ww65) ww65 ww2 ww67 (by decide) (rm13 l Z a0 hw [] a1 p2 f0 ha ta pa sz cap f0 f1 pf h0 n0 Z0  B0 hbd hf) e101 E1 0 (by decide) (by decide) (by decide) (by decide) (g := (mkF m 18 #[.val (.ref a1), .val (.int p2), .val (.int (1 : Int32)), .val (.int (1 : Int32)), .unset] [(.int f0), (.int p2), (.ref a1)])) rfl (by rw [hml]; rfl) (argsL := [(.int p2), (.int f0)]) (rest := []) (lenOf pd7d1_0 rfl) rfl rfl (by show 2 * 0 + _ ≤ _; exact Nat.le_of_eq rfl) (hb hby d7d1_18)
  obtain ⟨y104, hQ103⟩ := hQ103
  obtain ⟨rfl, N103q, e103⟩ := hQ103
  have N103 := Fr.app N0 N103q
  refine OwnEnd.go (fun _ k => st103 _ k) ?_
  show OwnEnd p e below s _ _ _ (T103.setTop (mkF m 21 #[.val (.ref a1), .val (.int p2), .val (.int (1 : Int32)), .val (.int (1 : Int32)), .unset] [(.int y104)]))
  by_cases hc105 : y104 = (0 : Int32)
  · refine OwnEnd.go (fun _ k => XS.ifYes X103.here hx rfl (pc0 := 21) (pc' := 49) rfl (hb hby d7d1_21) rfl ((if0 _ _).trans (teq hc105).1) (by decide) (by decide) k) ?_
    show OwnEnd p e below s _ _ _ (T103.setTop (mkF m 49 #[.val (.ref a1), .val (.int p2), .val (.int (1 : Int32)), .val (.int (1 : Int32)), .unset] []))
    refine OwnEnd.go (fun _ k => XS.aloadN X103.here hx rfl (hb hby d7d1_49) rfl rfl k) ?_
    show OwnEnd p e below s _ _ _ (T103.setTop (mkF m 50 #[.val (.ref a1), .val (.int p2), .val (.int (1 : Int32)), .val (.int (1 : Int32)), .unset] [(.ref a1)]))
    refine OwnEnd.go (fun _ k => XS.iloadN X103.here hx rfl (hb hby d7d1_50) rfl  k) ?_
    show OwnEnd p e below s _ _ _ (T103.setTop (mkF m 51 #[.val (.ref a1), .val (.int p2), .val (.int (1 : Int32)), .val (.int (1 : Int32)), .unset] [(.int p2), (.ref a1)]))
    refine OwnEnd.go (fun _ k => XS.iloadN X103.here hx rfl (hb hby d7d1_51) rfl  k) ?_
    show OwnEnd p e below s _ _ _ (T103.setTop (mkF m 52 #[.val (.ref a1), .val (.int p2), .val (.int (1 : Int32)), .val (.int (1 : Int32)), .unset] [(.int (1 : Int32)), (.int p2), (.ref a1)]))
    obtain ⟨_, T106, L106, X106, hQ106, st106⟩ := ownCallP X103 hx hZ hown ww40 ww42 (ownSel (by decide) ww1 ww42 ww41) ww41 ww2 ww43 (by decide) (rm8d1 l Z a0 hw [] a1 p2 ha ta pa sz cap f0 f1 pf h0 n0 Z0  B0 hbd) e103 E1 0 (by decide) (by decide) (by decide) (by decide) (g := (mkF m 52 #[.val (.ref a1), .val (.int p2), .val (.int (1 : Int32)), .val (.int (1 : Int32)), .unset] [(.int (1 : Int32)), (.int p2), (.ref a1)])) rfl (by rw [hml]; rfl) (argsL := [(.int p2), (.int (1 : Int32))]) (rest := []) (lenOf pd7d1_1 rfl) rfl rfl (by show 2 * 0 + _ ≤ _; exact Nat.le_of_eq rfl) (hb hby d7d1_52)
    obtain ⟨rfl, N106q, K106q, P107⟩ := hQ106
    have N106 := Fr.app N103 N106q
    have F109 := E1.keep K106q
    have K106 := K0.trans K106q (allS (Or.inl (List.mem_of_getElem? (i := 0) rfl)) (allS (Or.inl (List.mem_of_getElem? (i := 1) rfl)) (allS (Or.inl (List.mem_of_getElem? (i := 2) rfl)) (allS (Or.inl (List.mem_of_getElem? (i := 3) rfl)) all0))))
    have Y106 := Nat.le_trans Z0 K106q.1
    refine OwnEnd.go (fun _ k => st106 _ k) ?_
    show OwnEnd p e below s _ _ _ (T106.setTop (mkF m 55 #[.val (.ref a1), .val (.int p2), .val (.int (1 : Int32)), .val (.int (1 : Int32)), .unset] []))
    refine ownRetV X106 hx hlk hret (hb hby d7d1_55) (by decide) (by decide) ?_
    show Q7d1 Z a1 p2 ha ta pa sz cap f0 f1 pf h0 n0 _ T106.heap _
    skip
    exact ⟨f0, p2, _, rfl, N106, K106, P107, hf, hbd⟩
  · refine OwnEnd.go (fun _ k => XS.ifNo X103.here hx rfl (hb hby d7d1_21) rfl ((if0 _ _).trans (feq hc105).1) k) ?_
    show OwnEnd p e below s _ _ _ (T103.setTop (mkF m 24 #[.val (.ref a1), .val (.int p2), .val (.int (1 : Int32)), .val (.int (1 : Int32)), .unset] []))
    refine OwnEnd.go (fun _ k => XS.iloadN X103.here hx rfl (hb hby d7d1_24) rfl  k) ?_
    show OwnEnd p e below s _ _ _ (T103.setTop (mkF m 25 #[.val (.ref a1), .val (.int p2), .val (.int (1 : Int32)), .val (.int (1 : Int32)), .unset] [(.int (1 : Int32))]))
    refine OwnEnd.go (fun _ k => XS.iconst X103.here hx rfl (hb hby d7d1_25) k) ?_
    show OwnEnd p e below s _ _ _ (T103.setTop (mkF m 26 #[.val (.ref a1), .val (.int p2), .val (.int (1 : Int32)), .val (.int (1 : Int32)), .unset] [(.int (1 : Int32)), (.int (1 : Int32))]))
    refine OwnEnd.go (fun _ k => XS.isub X103.here hx rfl (hb hby d7d1_26) rfl k) ?_
    show OwnEnd p e below s _ _ _ (T103.setTop (mkF m 27 #[.val (.ref a1), .val (.int p2), .val (.int (1 : Int32)), .val (.int (1 : Int32)), .unset] [(.int (0 : Int32))]))
    refine OwnEnd.go (fun _ k => XS.iconst X103.here hx rfl (hb hby d7d1_27) k) ?_
    show OwnEnd p e below s _ _ _ (T103.setTop (mkF m 28 #[.val (.ref a1), .val (.int p2), .val (.int (1 : Int32)), .val (.int (1 : Int32)), .unset] [(.int (2 : Int32)), (.int (0 : Int32))]))
    refine OwnEnd.go (fun _ k => XS.idiv X103.here hx rfl (hb hby d7d1_28) rfl (by decide) k) ?_
    show OwnEnd p e below s _ _ _ (T103.setTop (mkF m 29 #[.val (.ref a1), .val (.int p2), .val (.int (1 : Int32)), .val (.int (1 : Int32)), .unset] [(.int (0 : Int32))]))
    refine OwnEnd.go (fun _ k => XS.istore X103.here hx rfl (hb hby d7d1_29) rfl  (l' := #[.val (.ref a1), .val (.int p2), .val (.int (1 : Int32)), .val (.int (1 : Int32)), .val (.int (0 : Int32))]) rfl k) ?_
    show OwnEnd p e below s _ _ _ (T103.setTop (mkF m 31 #[.val (.ref a1), .val (.int p2), .val (.int (1 : Int32)), .val (.int (1 : Int32)), .val (.int (0 : Int32))] []))
    refine OwnEnd.go (fun _ k => XS.aloadN X103.here hx rfl (hb hby d7d1_31) rfl rfl k) ?_
    show OwnEnd p e below s _ _ _ (T103.setTop (mkF m 32 #[.val (.ref a1), .val (.int p2), .val (.int (1 : Int32)), .val (.int (1 : Int32)), .val (.int (0 : Int32))] [(.ref a1)]))
    refine OwnEnd.go (fun _ k => XS.aloadN X103.here hx rfl (hb hby d7d1_32) rfl rfl k) ?_
    show OwnEnd p e below s _ _ _ (T103.setTop (mkF m 33 #[.val (.ref a1), .val (.int p2), .val (.int (1 : Int32)), .val (.int (1 : Int32)), .val (.int (0 : Int32))] [(.ref a1), (.ref a1)]))
    obtain ⟨T112, X112, e112, st112⟩ := getF X103 hx hZ hown (host := "") (Or.inl ww10) Via.refl e103 F_h0 (g := (mkF m 33 #[.val (.ref a1), .val (.int p2), .val (.int (1 : Int32)), .val (.int (1 : Int32)), .val (.int (0 : Int32))] [(.ref a1), (.ref a1)])) rfl rfl (hb hby d7d1_33)
    refine OwnEnd.go (fun _ k => st112 _ k) ?_
    show OwnEnd p e below s _ _ _ (T112.setTop (mkF m 36 #[.val (.ref a1), .val (.int p2), .val (.int (1 : Int32)), .val (.int (1 : Int32)), .val (.int (0 : Int32))] [(.ref ha), (.ref a1)]))
    refine OwnEnd.go (fun _ k => XS.iload X112.here hx rfl (hb hby d7d1_36) rfl  k) ?_
    show OwnEnd p e below s _ _ _ (T112.setTop (mkF m 38 #[.val (.ref a1), .val (.int p2), .val (.int (1 : Int32)), .val (.int (1 : Int32)), .val (.int (0 : Int32))] [(.int (0 : Int32)), (.ref ha), (.ref a1)]))
    obtain ⟨c113, Ar113, q113, S113, G113, H113, J113⟩ := id V_h0
    have i113 := inb_of (j := (0 : Int32)) S113 ⟨by decide, by decide⟩
    refine OwnEnd.go (fun _ k => X112.iaload hx (j := (0 : Int32)) (v := (.int f0)) (by rw [e112]; exact Ar113.1) (State.isArrayOf_alike hZ.alike Ar113.2.1) Ar113.2.2 i113 (Has.at H113 i113 rfl) (g := (mkF m 38 #[.val (.ref a1), .val (.int p2), .val (.int (1 : Int32)), .val (.int (1 : Int32)), .val (.int (0 : Int32))] [(.int (0 : Int32)), (.ref ha), (.ref a1)])) rfl rfl (hb hby d7d1_38) _ k) ?_
    show OwnEnd p e below s _ _ _ (T112.setTop (mkF m 39 #[.val (.ref a1), .val (.int p2), .val (.int (1 : Int32)), .val (.int (1 : Int32)), .val (.int (0 : Int32))] [(.int f0), (.ref a1)]))
    refine OwnEnd.go (fun _ k => XS.iloadN X112.here hx rfl (hb hby d7d1_39) rfl  k) ?_
    show OwnEnd p e below s _ _ _ (T112.setTop (mkF m 40 #[.val (.ref a1), .val (.int p2), .val (.int (1 : Int32)), .val (.int (1 : Int32)), .val (.int (0 : Int32))] [(.int (1 : Int32)), (.int f0), (.ref a1)]))
    obtain ⟨_, T114, L114, X114, hQ114, st114⟩ := ownCallP X112 hx hZ hown ww40 ww42 (ownSel (by decide) ww1 ww42 ww41) ww41 ww2 ww43 (by decide) (rm8d1 l Z a0 hw [] a1 f0 ha ta pa sz cap f0 f1 pf h0 n0 Z0  B0 hf) e112 E1 0 (by decide) (by decide) (by decide) (by decide) (g := (mkF m 40 #[.val (.ref a1), .val (.int p2), .val (.int (1 : Int32)), .val (.int (1 : Int32)), .val (.int (0 : Int32))] [(.int (1 : Int32)), (.int f0), (.ref a1)])) rfl (by rw [hml]; rfl) (argsL := [(.int f0), (.int (1 : Int32))]) (rest := []) (lenOf pd7d1_1 rfl) rfl rfl (by show 2 * 0 + _ ≤ _; exact Nat.le_of_eq rfl) (hb hby d7d1_40)
    obtain ⟨rfl, N114q, K114q, P115⟩ := hQ114
    have N114 := Fr.app N103 N114q
    have F117 := E1.keep K114q
    have K114 := K0.trans K114q (allS (Or.inl (List.mem_of_getElem? (i := 0) rfl)) (allS (Or.inl (List.mem_of_getElem? (i := 1) rfl)) (allS (Or.inl (List.mem_of_getElem? (i := 2) rfl)) (allS (Or.inl (List.mem_of_getElem? (i := 3) rfl)) all0))))
    have Y114 := Nat.le_trans Z0 K114q.1
    refine OwnEnd.go (fun _ k => st114 _ k) ?_
    have Fq120 := P115.2.2.2.2.2.2.2.2.2.2.2.1
    show OwnEnd p e below s _ _ _ (T114.setTop (mkF m 43 #[.val (.ref a1), .val (.int p2), .val (.int (1 : Int32)), .val (.int (1 : Int32)), .val (.int (0 : Int32))] []))
    refine OwnEnd.go (fun _ k => XS.iload X114.here hx rfl (hb hby d7d1_43) rfl  k) ?_
    show OwnEnd p e below s _ _ _ (T114.setTop (mkF m 45 #[.val (.ref a1), .val (.int p2), .val (.int (1 : Int32)), .val (.int (1 : Int32)), .val (.int (0 : Int32))] [(.int (0 : Int32))]))
    refine OwnEnd.go (fun _ k => XS.istoreN X114.here hx rfl (hb hby d7d1_45) rfl  (l' := #[.val (.ref a1), .val (.int p2), .val (.int (1 : Int32)), .val (.int (0 : Int32)), .val (.int (0 : Int32))]) rfl k) ?_
    show OwnEnd p e below s _ _ _ (T114.setTop (mkF m 46 #[.val (.ref a1), .val (.int p2), .val (.int (1 : Int32)), .val (.int (0 : Int32)), .val (.int (0 : Int32))] []))
    refine OwnEnd.go (fun _ k => XS.goto X114.here hx rfl (pc0 := 46) (pc' := 2) rfl (hb hby d7d1_46) (by decide) (by decide) k) ?_
    show OwnEnd p e below s _ _ _ (T114.setTop (mkF m 2 #[.val (.ref a1), .val (.int p2), .val (.int (1 : Int32)), .val (.int (0 : Int32)), .val (.int (0 : Int32))] []))
    refine OwnEnd.go (fun _ k => XS.iloadN X114.here hx rfl (hb hby d7d1_2) rfl  k) ?_
    show OwnEnd p e below s _ _ _ (T114.setTop (mkF m 3 #[.val (.ref a1), .val (.int p2), .val (.int (1 : Int32)), .val (.int (0 : Int32)), .val (.int (0 : Int32))] [(.int (0 : Int32))]))
    refine OwnEnd.go (fun _ k => XS.ifYes X114.here hx rfl (pc0 := 3) (pc' := 49) rfl (hb hby d7d1_3) rfl ((if0 _ _).trans (flt (by decide : ¬ (0 : Int32) < (0 : Int32))).2.2.2) (by decide) (by decide) k) ?_
    show OwnEnd p e below s _ _ _ (T114.setTop (mkF m 49 #[.val (.ref a1), .val (.int p2), .val (.int (1 : Int32)), .val (.int (0 : Int32)), .val (.int (0 : Int32))] []))
    refine OwnEnd.go (fun _ k => XS.aloadN X114.here hx rfl (hb hby d7d1_49) rfl rfl k) ?_
    show OwnEnd p e below s _ _ _ (T114.setTop (mkF m 50 #[.val (.ref a1), .val (.int p2), .val (.int (1 : Int32)), .val (.int (0 : Int32)), .val (.int (0 : Int32))] [(.ref a1)]))
    refine OwnEnd.go (fun _ k => XS.iloadN X114.here hx rfl (hb hby d7d1_50) rfl  k) ?_
    show OwnEnd p e below s _ _ _ (T114.setTop (mkF m 51 #[.val (.ref a1), .val (.int p2), .val (.int (1 : Int32)), .val (.int (0 : Int32)), .val (.int (0 : Int32))] [(.int p2), (.ref a1)]))
    refine OwnEnd.go (fun _ k => XS.iloadN X114.here hx rfl (hb hby d7d1_51) rfl  k) ?_
    show OwnEnd p e below s _ _ _ (T114.setTop (mkF m 52 #[.val (.ref a1), .val (.int p2), .val (.int (1 : Int32)), .val (.int (0 : Int32)), .val (.int (0 : Int32))] [(.int (0 : Int32)), (.int p2), (.ref a1)]))
    obtain ⟨_, T121, L121, X121, hQ121, st121⟩ := ownCallP X114 hx hZ hown ww40 ww42 (ownSel (by decide) ww1 ww42 ww41) ww41 ww2 ww43 (by decide) (rm8d0 l Z a0 hw [] a1 p2 ha ta pa sz cap f0 f0 (own_upd pf f0 (1 : Int32)) T114.heap n0 Y114  P115 hbd) (rfl : T114.heap = T114.heap) F117 0 (by decide) (by decide) (by decide) (by decide) (g := (mkF m 52 #[.val (.ref a1), .val (.int p2), .val (.int (1 : Int32)), .val (.int (0 : Int32)), .val (.int (0 : Int32))] [(.int (0 : Int32)), (.int p2), (.ref a1)])) rfl (by rw [hml]; rfl) (argsL := [(.int p2), (.int (0 : Int32))]) (rest := []) (lenOf pd7d1_1 rfl) rfl rfl (by show 2 * 0 + _ ≤ _; exact Nat.le_of_eq rfl) (hb hby d7d1_52)
    obtain ⟨rfl, N121q, K121q, P122⟩ := hQ121
    have N121 := Fr.app N114 N121q
    have F123 := F117.keep K121q
    have K121 := K114.trans K121q (allS (Or.inl (List.mem_of_getElem? (i := 0) rfl)) (allS (Or.inl (List.mem_of_getElem? (i := 1) rfl)) (allS (Or.inl (List.mem_of_getElem? (i := 2) rfl)) (allS (Or.inl (List.mem_of_getElem? (i := 3) rfl)) all0))))
    have Y121 := Nat.le_trans Y114 K121q.1
    refine OwnEnd.go (fun _ k => st121 _ k) ?_
    show OwnEnd p e below s _ _ _ (T121.setTop (mkF m 55 #[.val (.ref a1), .val (.int p2), .val (.int (1 : Int32)), .val (.int (0 : Int32)), .val (.int (0 : Int32))] []))
    refine ownRetV X121 hx hlk hret (hb hby d7d1_55) (by decide) (by decide) ?_
    show Q7d1 Z a1 p2 ha ta pa sz cap f0 f1 pf h0 n0 _ T121.heap _
    skip
    exact ⟨p2, f0, _, rfl, N121, K121, P122, hbd, hf⟩
theorem d12_0 : decode jdk_65_method_124_code 0 = .ok (.iload_n 1, 1) := by decide +kernel
theorem d12_1 : decode jdk_65_method_124_code 1 = .ok (.aload_n 0, 1) := by decide +kernel
theorem d12_2 : decode jdk_65_method_124_code 2 = .ok (.arraylength, 1) := by decide +kernel
theorem d12_3 : decode jdk_65_method_124_code 3 = .ok (.if_icmp .ne 11, 3) := by decide +kernel
theorem d12_14 : decode jdk_65_method_124_code 14 = .ok (.iload_n 1, 1) := by decide +kernel
theorem d12_15 : decode jdk_65_method_124_code 15 = .ok (.newarray .long, 2) := by decide +kernel
theorem d12_17 : decode jdk_65_method_124_code 17 = .ok (.astore_n 2, 1) := by decide +kernel
theorem d12_18 : decode jdk_65_method_124_code 18 = .ok (.aload_n 0, 1) := by decide +kernel
theorem d12_19 : decode jdk_65_method_124_code 19 = .ok (.iconst 0, 1) := by decide +kernel
theorem d12_20 : decode jdk_65_method_124_code 20 = .ok (.aload_n 2, 1) := by decide +kernel
theorem d12_21 : decode jdk_65_method_124_code 21 = .ok (.iconst 0, 1) := by decide +kernel
theorem d12_22 : decode jdk_65_method_124_code 22 = .ok (.aload_n 0, 1) := by decide +kernel
theorem d12_23 : decode jdk_65_method_124_code 23 = .ok (.arraylength, 1) := by decide +kernel
theorem d12_24 : decode jdk_65_method_124_code 24 = .ok (.iload_n 1, 1) := by decide +kernel
theorem d12_25 : decode jdk_65_method_124_code 25 = .ok (.invokestatic 304, 3) := by decide +kernel
theorem d12_28 : decode jdk_65_method_124_code 28 = .ok (.invokestatic 150, 3) := by decide +kernel
theorem d12_31 : decode jdk_65_method_124_code 31 = .ok (.aload_n 2, 1) := by decide +kernel
theorem d12_32 : decode jdk_65_method_124_code 32 = .ok (.areturn, 1) := by decide +kernel
theorem pn_12 : plainName "java/util/Arrays" = true := by first | (simp [plainName, overriddenIn]; done) | decide +kernel
theorem pd12_0 : parseMethodDescriptor "(II)I" = some ⟨[.int, .int], some .int⟩ := by decide +kernel
theorem ef_12 (m : MethodId) (x0 : Addr) (x1 : Int32) : entryFrame m #[(.ref x0), (.int x1)] 3 = mkF m 0 #[.val (.ref x0), .val (.int x1), .unset] [] := by first | (simp [entryFrame, mkF, argsToLocals, Value.category]; done) | rfl
def Q12 (Z : State) (a1 : Addr) (h0 : Heap) (n0 : Nat) (v : Option Value) (h : Heap) (L : List Loc) : Prop := ∃ (xr : Addr), v = some (.ref xr) ∧ Fr n0 L ∧ Keep h0 h [] ∧ n0 ≤ xr ∧ h0.size ≤ xr ∧ ownL Z h xr (32 : Int32)
set_option maxRecDepth 65536 in
set_option maxHeartbeats 40000000 in
theorem rm12 (l : Launch) (Z : State) (a0 : Array Value) (hw : ∀ d ∈ tables_1, d.before a0 Z = true) (ws : List Jvm.Cond) (a1 : Addr) (h0 : Heap) (n0 : Nat) (Z0 : n0 ≤ h0.size) (V0 : ownL Z h0 a1 (16 : Int32)) :
    MetFree l (⟨"java/util/Arrays", "copyOf", "([JI)[J"⟩ : MethodName) (head1 (Jvm.Cond.code (⟨"java/util/Arrays", "copyOf", "([JI)[J"⟩ : MethodName) jdk_65_method_124_code 3 (some (.array .long)) :: ws) ({ frames := 1, cells := 1, slots := 32, locals := 18 } : Room)) (fun a U => a = #[(.ref a1), (.int (32 : Int32))] ∧ Z.Warmed39 U.vm ∧ U.heap = h0) (fun _ _ _ _ _ => True) (fun _ U o U' => ∃ v L, o = .returned v ∧ Q12 Z a1 h0 n0 v U'.heap L ∧ FrameEnd U o U' L ({ frames := 1, cells := 1, slots := 32, locals := 18 } : Room).cells ({ frames := 1, cells := 1, slots := 32, locals := 18 } : Room).slots) := by
  have ww12 := hw _ (List.mem_of_getElem? (i := 12) rfl)
  have ww45 := hw _ (List.mem_of_getElem? (i := 45) rfl)
  have ww46 := hw _ (List.mem_of_getElem? (i := 46) rfl)
  have ww47 := hw _ (List.mem_of_getElem? (i := 47) rfl)
  have ww56 := hw _ (List.mem_of_getElem? (i := 56) rfl)
  have ww57 := hw _ (List.mem_of_getElem? (i := 57) rfl)
  have ww58 := hw _ (List.mem_of_getElem? (i := 58) rfl)
  have ww62 := hw _ (List.mem_of_getElem? (i := 62) rfl)
  have ww63 := hw _ (List.mem_of_getElem? (i := 63) rfl)
  refine MetFree.of_bodySF (plainFor_of_name pn_12) hisR ?_
  intro p e s m args below meth c s₁ Bd hml0 hP hK
  obtain ⟨rfl, hZ, hh⟩ := hP
  have hx := Bd.exec
  have hby := Bd.bytes
  have hlk : meth.locks = false := Bd.notSynchronized
  have hret := Bd.returns
  have hml : c.maxLocals = 3 := hml0
  have hown : s.vm.findClass "java/util/Arrays" = some m.cls := findClass_of_methodNamed Bd.named
  have hnm := (name_of_methodNamed Bd.named Bd.method).1
  have X0 : Stand p l e ({ frames := 1, cells := 1, slots := 32, locals := 18 } : Room) s m #[(.ref a1), (.int (32 : Int32))] below meth c s₁ [] 0 0 := Stand.of_body Bd
  have e0 : s₁.heap = h0 := by rw [← hh, Bd.state]; rfl
  have N0 := Fr.nil n0
  have K0 := Keep.refl h0 []
  show OwnEnd p e below s (Q12 Z a1 h0 n0) ({ frames := 1, cells := 1, slots := 32, locals := 18 } : Room).cells ({ frames := 1, cells := 1, slots := 32, locals := 18 } : Room).slots _
  refine OwnEnd.go (fun _ k => castTop (ef_12 m a1 (32 : Int32)) k) ?_
  show OwnEnd p e below s _ _ _ (s₁.setTop (mkF m 0 #[.val (.ref a1), .val (.int (32 : Int32)), .unset] []))
  refine OwnEnd.go (fun _ k => XS.iloadN X0.here hx rfl (hb hby d12_0) rfl  k) ?_
  show OwnEnd p e below s _ _ _ (s₁.setTop (mkF m 1 #[.val (.ref a1), .val (.int (32 : Int32)), .unset] [(.int (32 : Int32))]))
  refine OwnEnd.go (fun _ k => XS.aloadN X0.here hx rfl (hb hby d12_1) rfl rfl k) ?_
  show OwnEnd p e below s _ _ _ (s₁.setTop (mkF m 2 #[.val (.ref a1), .val (.int (32 : Int32)), .unset] [(.ref a1), (.int (32 : Int32))]))
  refine OwnEnd.go (fun _ k => ownLlen X0 hx hZ e0 V0 (g := (mkF m 2 #[.val (.ref a1), .val (.int (32 : Int32)), .unset] [(.ref a1), (.int (32 : Int32))])) rfl rfl (hb hby d12_2) _ k) ?_
  show OwnEnd p e below s _ _ _ (s₁.setTop (mkF m 3 #[.val (.ref a1), .val (.int (32 : Int32)), .unset] [(.int (16 : Int32)), (.int (32 : Int32))]))
  refine OwnEnd.go (fun _ k => XS.icmpYes X0.here hx rfl (pc0 := 3) (pc' := 14) rfl (hb hby d12_3) rfl (feq (by decide : ¬ (32 : Int32) = (16 : Int32))).2 (by decide) (by decide) k) ?_
  show OwnEnd p e below s _ _ _ (s₁.setTop (mkF m 14 #[.val (.ref a1), .val (.int (32 : Int32)), .unset] []))
  refine OwnEnd.go (fun _ k => XS.iloadN X0.here hx rfl (hb hby d12_14) rfl  k) ?_
  show OwnEnd p e below s _ _ _ (s₁.setTop (mkF m 15 #[.val (.ref a1), .val (.int (32 : Int32)), .unset] [(.int (32 : Int32))]))
  obtain ⟨T102, h102, k102, X102, e102, E102, A102, st102⟩ := newP (aty := .long) X0 hx hZ ww12 e0 (g := (mkF m 15 #[.val (.ref a1), .val (.int (32 : Int32)), .unset] [(.int (32 : Int32))])) rfl (hb hby d12_15) rfl (by decide) (cap := 32) (by decide) (by decide) (by decide) (by decide)
  obtain ⟨b102, g102⟩ : ∃ z, z = h0.size := ⟨_, rfl⟩
  rw [← g102] at A102 st102
  have ne103 : a1 ≠ b102 := Nat.ne_of_lt (Nat.lt_of_lt_of_le V0.lt (Nat.le_of_eq g102.symm))
  have u102 : n0 ≤ b102 := Nat.le_trans Z0 (Nat.le_of_eq g102.symm)
  have v102 : h0.size ≤ b102 := Nat.le_trans K0.1 (Nat.le_of_eq g102.symm)
  have F104 := V0.ext E102
  have K102 := K0.ext E102
  have Y102 := Nat.le_trans Z0 E102.1
  have V102 := ownL.new A102 (by decide)
  refine OwnEnd.go (fun _ k => st102 _ k) ?_
  show OwnEnd p e below s _ _ _ (T102.setTop (mkF m 17 #[.val (.ref a1), .val (.int (32 : Int32)), .unset] [(.ref b102)]))
  refine OwnEnd.go (fun _ k => XS.astoreN X102.here hx rfl (hb hby d12_17) rfl rfl (l' := #[.val (.ref a1), .val (.int (32 : Int32)), .val (.ref b102)]) rfl k) ?_
  show OwnEnd p e below s _ _ _ (T102.setTop (mkF m 18 #[.val (.ref a1), .val (.int (32 : Int32)), .val (.ref b102)] []))
  refine OwnEnd.go (fun _ k => XS.aloadN X102.here hx rfl (hb hby d12_18) rfl rfl k) ?_
  show OwnEnd p e below s _ _ _ (T102.setTop (mkF m 19 #[.val (.ref a1), .val (.int (32 : Int32)), .val (.ref b102)] [(.ref a1)]))
  refine OwnEnd.go (fun _ k => XS.iconst X102.here hx rfl (hb hby d12_19) k) ?_
  show OwnEnd p e below s _ _ _ (T102.setTop (mkF m 20 #[.val (.ref a1), .val (.int (32 : Int32)), .val (.ref b102)] [(.int (0 : Int32)), (.ref a1)]))
  refine OwnEnd.go (fun _ k => XS.aloadN X102.here hx rfl (hb hby d12_20) rfl rfl k) ?_
  show OwnEnd p e below s _ _ _ (T102.setTop (mkF m 21 #[.val (.ref a1), .val (.int (32 : Int32)), .val (.ref b102)] [(.ref b102), (.int (0 : Int32)), (.ref a1)]))
  refine OwnEnd.go (fun _ k => XS.iconst X102.here hx rfl (hb hby d12_21) k) ?_
  show OwnEnd p e below s _ _ _ (T102.setTop (mkF m 22 #[.val (.ref a1), .val (.int (32 : Int32)), .val (.ref b102)] [(.int (0 : Int32)), (.ref b102), (.int (0 : Int32)), (.ref a1)]))
  refine OwnEnd.go (fun _ k => XS.aloadN X102.here hx rfl (hb hby d12_22) rfl rfl k) ?_
  show OwnEnd p e below s _ _ _ (T102.setTop (mkF m 23 #[.val (.ref a1), .val (.int (32 : Int32)), .val (.ref b102)] [(.ref a1), (.int (0 : Int32)), (.ref b102), (.int (0 : Int32)), (.ref a1)]))
  refine OwnEnd.go (fun _ k => ownLlen X102 hx hZ e102 F104 (g := (mkF m 23 #[.val (.ref a1), .val (.int (32 : Int32)), .val (.ref b102)] [(.ref a1), (.int (0 : Int32)), (.ref b102), (.int (0 : Int32)), (.ref a1)])) rfl rfl (hb hby d12_23) _ k) ?_
  show OwnEnd p e below s _ _ _ (T102.setTop (mkF m 24 #[.val (.ref a1), .val (.int (32 : Int32)), .val (.ref b102)] [(.int (16 : Int32)), (.int (0 : Int32)), (.ref b102), (.int (0 : Int32)), (.ref a1)]))
  refine OwnEnd.go (fun _ k => XS.iloadN X102.here hx rfl (hb hby d12_24) rfl  k) ?_
  show OwnEnd p e below s _ _ _ (T102.setTop (mkF m 25 #[.val (.ref a1), .val (.int (32 : Int32)), .val (.ref b102)] [(.int (32 : Int32)), (.int (16 : Int32)), (.int (0 : Int32)), (.ref b102), (.int (0 : Int32)), (.ref a1)]))
  obtain ⟨_, T106, L106, X106, hQ106, st106⟩ := ownCallS X102 hx hZ hown ww62 ww45 ww46 ww47 (by decide) (rm9L l Z a0 hw [] (16 : Int32) (32 : Int32) h102 n0 Y102  (by decide)) e102 4 (by decide) (by decide) (by decide) (by decide) (g := (mkF m 25 #[.val (.ref a1), .val (.int (32 : Int32)), .val (.ref b102)] [(.int (32 : Int32)), (.int (16 : Int32)), (.int (0 : Int32)), (.ref b102), (.int (0 : Int32)), (.ref a1)])) rfl (by rw [hml]; rfl) (argsL := [(.int (16 : Int32)), (.int (32 : Int32))]) (rest := [(.int (0 : Int32)), (.ref b102), (.int (0 : Int32)), (.ref a1)]) (lenOf pd12_0 rfl) rfl rfl (by show 2 * 0 + _ ≤ _; exact Nat.le_of_eq rfl) (hb hby d12_25)
  obtain ⟨rfl, N106q, e106⟩ := hQ106
  have N106 := Fr.app N0 N106q
  refine OwnEnd.go (fun _ k => st106 _ k) ?_
  show OwnEnd p e below s _ _ _ (T106.setTop (mkF m 28 #[.val (.ref a1), .val (.int (32 : Int32)), .val (.ref b102)] [(.int (16 : Int32)), (.int (0 : Int32)), (.ref b102), (.int (0 : Int32)), (.ref a1)]))
  obtain ⟨T107, h107, L107, X107, e107, N107, K107q, V107, st107⟩ := ownLcopy X106 hx hZ hown ww63 ww58 ww56 ww57 e106 F104 V102 (by decide) (by decide) N106 u102 (g := (mkF m 28 #[.val (.ref a1), .val (.int (32 : Int32)), .val (.ref b102)] [(.int (16 : Int32)), (.int (0 : Int32)), (.ref b102), (.int (0 : Int32)), (.ref a1)])) rfl (by rw [hml]; rfl) (rest := []) rfl (hb hby d12_28) (by decide) 0 (by show 2 * 0 + _ ≤ _; exact Nat.le_of_eq rfl) (by decide)
  have F108 := F104.keep K107q (ninS ne103 nin0)
  have K107 := K102.trans K107q (allS (Or.inr v102) all0)
  have Y107 := Nat.le_trans Y102 K107q.1
  refine OwnEnd.go (fun _ k => st107 _ k) ?_
  show OwnEnd p e below s _ _ _ (T107.setTop (mkF m 31 #[.val (.ref a1), .val (.int (32 : Int32)), .val (.ref b102)] []))
  refine OwnEnd.go (fun _ k => XS.aloadN X107.here hx rfl (hb hby d12_31) rfl rfl k) ?_
  show OwnEnd p e below s _ _ _ (T107.setTop (mkF m 32 #[.val (.ref a1), .val (.int (32 : Int32)), .val (.ref b102)] [(.ref b102)]))
  refine ownRetA X107 hx hlk hret rfl rfl rfl (hb hby d12_32) (by decide) (by decide) ?_
  show Q12 Z a1 h0 n0 _ T107.heap _
  rw [e107]
  exact ⟨_, rfl, N107, K107, u102, v102, V107⟩
theorem d10_0 : decode prog_28_method_10_code 0 = .ok (.iload_n 1, 1) := by decide +kernel
theorem d10_1 : decode prog_28_method_10_code 1 = .ok (.iconst 1, 1) := by decide +kernel
theorem d10_2 : decode prog_28_method_10_code 2 = .ok (.iadd, 1) := by decide +kernel
theorem d10_3 : decode prog_28_method_10_code 3 = .ok (.aload_n 0, 1) := by decide +kernel
theorem d10_4 : decode prog_28_method_10_code 4 = .ok (.getfield 21, 3) := by decide +kernel
theorem d10_7 : decode prog_28_method_10_code 7 = .ok (.arraylength, 1) := by decide +kernel
theorem d10_8 : decode prog_28_method_10_code 8 = .ok (.iconst 2, 1) := by decide +kernel
theorem d10_9 : decode prog_28_method_10_code 9 = .ok (.imul, 1) := by decide +kernel
theorem d10_10 : decode prog_28_method_10_code 10 = .ok (.invokestatic 52, 3) := by decide +kernel
theorem d10_13 : decode prog_28_method_10_code 13 = .ok (.istore_n 2, 1) := by decide +kernel
theorem d10_14 : decode prog_28_method_10_code 14 = .ok (.iload_n 2, 1) := by decide +kernel
theorem d10_15 : decode prog_28_method_10_code 15 = .ok (.invokestatic 17, 3) := by decide +kernel
theorem d10_18 : decode prog_28_method_10_code 18 = .ok (.astore_n 3, 1) := by decide +kernel
theorem d10_19 : decode prog_28_method_10_code 19 = .ok (.aload_n 0, 1) := by decide +kernel
theorem d10_20 : decode prog_28_method_10_code 20 = .ok (.getfield 21, 3) := by decide +kernel
theorem d10_23 : decode prog_28_method_10_code 23 = .ok (.iconst 0, 1) := by decide +kernel
theorem d10_24 : decode prog_28_method_10_code 24 = .ok (.aload_n 3, 1) := by decide +kernel
theorem d10_25 : decode prog_28_method_10_code 25 = .ok (.iconst 0, 1) := by decide +kernel
theorem d10_26 : decode prog_28_method_10_code 26 = .ok (.aload_n 0, 1) := by decide +kernel
theorem d10_27 : decode prog_28_method_10_code 27 = .ok (.getfield 21, 3) := by decide +kernel
theorem d10_30 : decode prog_28_method_10_code 30 = .ok (.arraylength, 1) := by decide +kernel
theorem d10_31 : decode prog_28_method_10_code 31 = .ok (.invokestatic 58, 3) := by decide +kernel
theorem d10_34 : decode prog_28_method_10_code 34 = .ok (.aload_n 0, 1) := by decide +kernel
theorem d10_35 : decode prog_28_method_10_code 35 = .ok (.aload_n 3, 1) := by decide +kernel
theorem d10_36 : decode prog_28_method_10_code 36 = .ok (.putfield 21, 3) := by decide +kernel
theorem d10_39 : decode prog_28_method_10_code 39 = .ok (.aload_n 0, 1) := by decide +kernel
theorem d10_40 : decode prog_28_method_10_code 40 = .ok (.aload_n 0, 1) := by decide +kernel
theorem d10_41 : decode prog_28_method_10_code 41 = .ok (.getfield 13, 3) := by decide +kernel
theorem d10_44 : decode prog_28_method_10_code 44 = .ok (.iload_n 2, 1) := by decide +kernel
theorem d10_45 : decode prog_28_method_10_code 45 = .ok (.invokestatic 64, 3) := by decide +kernel
theorem d10_48 : decode prog_28_method_10_code 48 = .ok (.putfield 13, 3) := by decide +kernel
theorem d10_51 : decode prog_28_method_10_code 51 = .ok (.return_, 1) := by decide +kernel
theorem pn_10 : plainName "com/example/volens/volens/core/agent/TurnQueue" = true := by first | (simp [plainName, overriddenIn]; done) | decide +kernel
theorem pd10_0 : parseMethodDescriptor "(II)I" = some ⟨[.int, .int], some .int⟩ := by decide +kernel
theorem pd10_1 : parseMethodDescriptor "(I)[I" = some ⟨[.int], some (.array .int)⟩ := by decide +kernel
theorem pd10_2 : parseMethodDescriptor "([JI)[J" = some ⟨[(.array .long), .int], some (.array .long)⟩ := by decide +kernel
theorem ef_10 (m : MethodId) (x0 : Addr) (x1 : Int32) : entryFrame m #[(.ref x0), (.int x1)] 4 = mkF m 0 #[.val (.ref x0), .val (.int x1), .unset, .unset] [] := by first | (simp [entryFrame, mkF, argsToLocals, Value.category]; done) | rfl
def Q10 (Z : State) (a1 : Addr) (p2 : Int32) (ha : Addr) (ta : Addr) (pa : Addr) (sz : Int32) (f0 : Int32) (f1 : Int32) (pf : (Nat → Int32)) (h0 : Heap) (n0 : Nat) (v : Option Value) (h : Heap) (L : List Loc) : Prop := ∃ (ta2 : Addr) (pa2 : Addr), v = none ∧ Fr n0 L ∧ Keep h0 h [a1] ∧ n0 ≤ ta2 ∧ n0 ≤ pa2 ∧ h0.size ≤ ta2 ∧ h0.size ≤ pa2 ∧ ownTQ Z h n0 a1 ha ta2 pa2 sz (32 : Int32) f0 f1 (own_cp 16 pf (fun _ => (-1 : Int32)))
set_option maxRecDepth 65536 in
set_option maxHeartbeats 40000000 in
theorem rm10 (l : Launch) (Z : State) (a0 : Array Value) (hw : ∀ d ∈ tables_1, d.before a0 Z = true) (ws : List Jvm.Cond) (a1 : Addr) (p2 : Int32) (ha : Addr) (ta : Addr) (pa : Addr) (sz : Int32) (f0 : Int32) (f1 : Int32) (pf : (Nat → Int32)) (h0 : Heap) (n0 : Nat) (Z0 : n0 ≤ h0.size) (B0 : ownTQ Z h0 n0 a1 ha ta pa sz (16 : Int32) f0 f1 pf) (hm : ¬ (32 : Int32) < p2 + (1 : Int32)) :
    MetFree l (⟨"com/example/volens/volens/core/agent/TurnQueue", "grow", "(I)V"⟩ : MethodName) (head1 (Jvm.Cond.code (⟨"com/example/volens/volens/core/agent/TurnQueue", "grow", "(I)V"⟩ : MethodName) prog_28_method_10_code 4 none :: ws) ({ frames := 2, cells := 2, slots := 64, locals := 33 } : Room)) (fun a U => a = #[(.ref a1), (.int p2)] ∧ Z.Warmed39 U.vm ∧ U.heap = h0) (fun _ _ _ _ _ => True) (fun _ U o U' => ∃ v L, o = .returned v ∧ Q10 Z a1 p2 ha ta pa sz f0 f1 pf h0 n0 v U'.heap L ∧ FrameEnd U o U' L ({ frames := 2, cells := 2, slots := 64, locals := 33 } : Room).cells ({ frames := 2, cells := 2, slots := 64, locals := 33 } : Room).slots) := by
  have ww1 := hw _ (List.mem_of_getElem? (i := 1) rfl)
  have ww2 := hw _ (List.mem_of_getElem? (i := 2) rfl)
  have ww11 := hw _ (List.mem_of_getElem? (i := 11) rfl)
  have ww13 := hw _ (List.mem_of_getElem? (i := 13) rfl)
  have ww14 := hw _ (List.mem_of_getElem? (i := 14) rfl)
  have ww15 := hw _ (List.mem_of_getElem? (i := 15) rfl)
  have ww16 := hw _ (List.mem_of_getElem? (i := 16) rfl)
  have ww17 := hw _ (List.mem_of_getElem? (i := 17) rfl)
  have ww20 := hw _ (List.mem_of_getElem? (i := 20) rfl)
  have ww22 := hw _ (List.mem_of_getElem? (i := 22) rfl)
  have ww23 := hw _ (List.mem_of_getElem? (i := 23) rfl)
  have ww30 := hw _ (List.mem_of_getElem? (i := 30) rfl)
  have ww46 := hw _ (List.mem_of_getElem? (i := 46) rfl)
  have ww52 := hw _ (List.mem_of_getElem? (i := 52) rfl)
  have ww53 := hw _ (List.mem_of_getElem? (i := 53) rfl)
  have ww54 := hw _ (List.mem_of_getElem? (i := 54) rfl)
  have ww55 := hw _ (List.mem_of_getElem? (i := 55) rfl)
  have ww56 := hw _ (List.mem_of_getElem? (i := 56) rfl)
  have ww57 := hw _ (List.mem_of_getElem? (i := 57) rfl)
  have ww58 := hw _ (List.mem_of_getElem? (i := 58) rfl)
  have ww59 := hw _ (List.mem_of_getElem? (i := 59) rfl)
  have ww60 := hw _ (List.mem_of_getElem? (i := 60) rfl)
  have ww61 := hw _ (List.mem_of_getElem? (i := 61) rfl)
  refine MetFree.of_bodySF (plainFor_of_name pn_10) hisR ?_
  intro p e s m args below meth c s₁ Bd hml0 hP hK
  obtain ⟨rfl, hZ, hh⟩ := hP
  have hx := Bd.exec
  have hby := Bd.bytes
  have hlk : meth.locks = false := Bd.notSynchronized
  have hret := Bd.returns
  have hml : c.maxLocals = 4 := hml0
  have hown : s.vm.findClass "com/example/volens/volens/core/agent/TurnQueue" = some m.cls := findClass_of_methodNamed Bd.named
  have hnm := (name_of_methodNamed Bd.named Bd.method).1
  have X0 : Stand p l e ({ frames := 2, cells := 2, slots := 64, locals := 33 } : Room) s m #[(.ref a1), (.int p2)] below meth c s₁ [] 0 0 := Stand.of_body Bd
  have e0 : s₁.heap = h0 := by rw [← hh, Bd.state]; rfl
  have N0 := Fr.nil n0
  have K0 := Keep.refl h0 [a1]
  show OwnEnd p e below s (Q10 Z a1 p2 ha ta pa sz f0 f1 pf h0 n0) ({ frames := 2, cells := 2, slots := 64, locals := 33 } : Room).cells ({ frames := 2, cells := 2, slots := 64, locals := 33 } : Room).slots _
  refine OwnEnd.go (fun _ k => castTop (ef_10 m a1 p2) k) ?_
  have B_101 := B0
  obtain ⟨ga_101, gh_101, gt_101, gp_101, n1_101, n2_101, n3_101, n4_101, n5_101, n6_101, E1_101, F_h_101, F_t_101, F_p_101, F_s_101, ⟨kh_101, V_h_101⟩, V_t_101, V_p_101⟩ := B_101
  show OwnEnd p e below s _ _ _ (s₁.setTop (mkF m 0 #[.val (.ref a1), .val (.int p2), .unset, .unset] []))
  refine OwnEnd.go (fun _ k => XS.iloadN X0.here hx rfl (hb hby d10_0) rfl  k) ?_
  show OwnEnd p e below s _ _ _ (s₁.setTop (mkF m 1 #[.val (.ref a1), .val (.int p2), .unset, .unset] [(.int p2)]))
  refine OwnEnd.go (fun _ k => XS.iconst X0.here hx rfl (hb hby d10_1) k) ?_
  show OwnEnd p e below s _ _ _ (s₁.setTop (mkF m 2 #[.val (.ref a1), .val (.int p2), .unset, .unset] [(.int (1 : Int32)), (.int p2)]))
  refine OwnEnd.go (fun _ k => XS.iadd X0.here hx rfl (hb hby d10_2) rfl k) ?_
  show OwnEnd p e below s _ _ _ (s₁.setTop (mkF m 3 #[.val (.ref a1), .val (.int p2), .unset, .unset] [(.int (p2 + (1 : Int32)))]))
  refine OwnEnd.go (fun _ k => XS.aloadN X0.here hx rfl (hb hby d10_3) rfl rfl k) ?_
  show OwnEnd p e below s _ _ _ (s₁.setTop (mkF m 4 #[.val (.ref a1), .val (.int p2), .unset, .unset] [(.ref a1), (.int (p2 + (1 : Int32)))]))
  obtain ⟨T102, X102, e102, st102⟩ := getF X0 hx hZ hown (host := "") (Or.inl ww22) Via.refl e0 F_p_101 (g := (mkF m 4 #[.val (.ref a1), .val (.int p2), .unset, .unset] [(.ref a1), (.int (p2 + (1 : Int32)))])) rfl rfl (hb hby d10_4)
  refine OwnEnd.go (fun _ k => st102 _ k) ?_
  show OwnEnd p e below s _ _ _ (T102.setTop (mkF m 7 #[.val (.ref a1), .val (.int p2), .unset, .unset] [(.ref pa), (.int (p2 + (1 : Int32)))]))
  refine OwnEnd.go (fun _ k => ownAlen X102 hx hZ e102 V_p_101 (g := (mkF m 7 #[.val (.ref a1), .val (.int p2), .unset, .unset] [(.ref pa), (.int (p2 + (1 : Int32)))])) rfl rfl (hb hby d10_7) _ k) ?_
  show OwnEnd p e below s _ _ _ (T102.setTop (mkF m 8 #[.val (.ref a1), .val (.int p2), .unset, .unset] [(.int (16 : Int32)), (.int (p2 + (1 : Int32)))]))
  refine OwnEnd.go (fun _ k => XS.iconst X102.here hx rfl (hb hby d10_8) k) ?_
  show OwnEnd p e below s _ _ _ (T102.setTop (mkF m 9 #[.val (.ref a1), .val (.int p2), .unset, .unset] [(.int (2 : Int32)), (.int (16 : Int32)), (.int (p2 + (1 : Int32)))]))
  refine OwnEnd.go (fun _ k => XS.imul X102.here hx rfl (hb hby d10_9) rfl k) ?_
  show OwnEnd p e below s _ _ _ (T102.setTop (mkF m 10 #[.val (.ref a1), .val (.int p2), .unset, .unset] [(.int (32 : Int32)), (.int (p2 + (1 : Int32)))]))
  obtain ⟨_, T104, L104, X104, hQ104, st104⟩ := ownCallS X102 hx hZ hown ww52 ww53 ww46 ww54 (by decide) (rm11 l Z a0 hw [] (p2 + (1 : Int32)) (32 : Int32) h0 n0 Z0  hm) e102 0 (by decide) (by decide) (by decide) (by decide) (g := (mkF m 10 #[.val (.ref a1), .val (.int p2), .unset, .unset] [(.int (32 : Int32)), (.int (p2 + (1 : Int32)))])) rfl (by rw [hml]; rfl) (argsL := [(.int (p2 + (1 : Int32))), (.int (32 : Int32))]) (rest := []) (lenOf pd10_0 rfl) rfl rfl (by show 2 * 0 + _ ≤ _; exact Nat.le_of_eq rfl) (hb hby d10_10)
  obtain ⟨rfl, N104q, e104⟩ := hQ104
  have N104 := Fr.app N0 N104q
  refine OwnEnd.go (fun _ k => st104 _ k) ?_
  show OwnEnd p e below s _ _ _ (T104.setTop (mkF m 13 #[.val (.ref a1), .val (.int p2), .unset, .unset] [(.int (32 : Int32))]))
  refine OwnEnd.go (fun _ k => XS.istoreN X104.here hx rfl (hb hby d10_13) rfl  (l' := #[.val (.ref a1), .val (.int p2), .val (.int (32 : Int32)), .unset]) rfl k) ?_
  show OwnEnd p e below s _ _ _ (T104.setTop (mkF m 14 #[.val (.ref a1), .val (.int p2), .val (.int (32 : Int32)), .unset] []))
  refine OwnEnd.go (fun _ k => XS.iloadN X104.here hx rfl (hb hby d10_14) rfl  k) ?_
  show OwnEnd p e below s _ _ _ (T104.setTop (mkF m 15 #[.val (.ref a1), .val (.int p2), .val (.int (32 : Int32)), .unset] [(.int (32 : Int32))]))
  obtain ⟨_, T105, L105, X105, hQ105, st105⟩ := ownCallS X104 hx hZ hown ww15 ww16 ww2 ww17 (by decide) (rm3N32 l Z a0 hw []  h0 n0 Z0  ) e104 0 (by decide) (by decide) (by decide) (by decide) (g := (mkF m 15 #[.val (.ref a1), .val (.int p2), .val (.int (32 : Int32)), .unset] [(.int (32 : Int32))])) rfl (by rw [hml]; rfl) (argsL := [(.int (32 : Int32))]) (rest := []) (lenOf pd10_1 rfl) rfl rfl (by show 2 * 0 + _ ≤ _; exact Nat.le_of_eq rfl) (hb hby d10_15)
  obtain ⟨y109, hQ105⟩ := hQ105
  obtain ⟨rfl, N105q, K105q, P106, P107, P108⟩ := hQ105
  have N105 := Fr.app N104 N105q
  have F110 := E1_101.keep K105q
  have F111 := F_h_101.keep K105q nin0
  have F112 := F_t_101.keep K105q nin0
  have F113 := F_p_101.keep K105q nin0
  have F114 := F_s_101.keep K105q nin0
  have F115 := V_h_101.keep K105q nin0
  have F116 := V_t_101.keep K105q nin0
  have F117 := V_p_101.keep K105q nin0
  have K105 := K0.trans K105q all0
  have Y105 := Nat.le_trans Z0 K105q.1
  refine OwnEnd.go (fun _ k => st105 _ k) ?_
  have ne118 : a1 ≠ y109 := Nat.ne_of_lt (Nat.lt_of_lt_of_le E1_101.lt P107)
  have ne119 : ha ≠ y109 := Nat.ne_of_lt (Nat.lt_of_lt_of_le V_h_101.lt P107)
  have ne120 : ta ≠ y109 := Nat.ne_of_lt (Nat.lt_of_lt_of_le V_t_101.lt P107)
  have ne121 : pa ≠ y109 := Nat.ne_of_lt (Nat.lt_of_lt_of_le V_p_101.lt P107)
  show OwnEnd p e below s _ _ _ (T105.setTop (mkF m 18 #[.val (.ref a1), .val (.int p2), .val (.int (32 : Int32)), .unset] [(.ref y109)]))
  refine OwnEnd.go (fun _ k => XS.astoreN X105.here hx rfl (hb hby d10_18) rfl rfl (l' := #[.val (.ref a1), .val (.int p2), .val (.int (32 : Int32)), .val (.ref y109)]) rfl k) ?_
  show OwnEnd p e below s _ _ _ (T105.setTop (mkF m 19 #[.val (.ref a1), .val (.int p2), .val (.int (32 : Int32)), .val (.ref y109)] []))
  refine OwnEnd.go (fun _ k => XS.aloadN X105.here hx rfl (hb hby d10_19) rfl rfl k) ?_
  show OwnEnd p e below s _ _ _ (T105.setTop (mkF m 20 #[.val (.ref a1), .val (.int p2), .val (.int (32 : Int32)), .val (.ref y109)] [(.ref a1)]))
  obtain ⟨T122, X122, e122, st122⟩ := getF X105 hx hZ hown (host := "") (Or.inl ww22) Via.refl (rfl : T105.heap = T105.heap) F113 (g := (mkF m 20 #[.val (.ref a1), .val (.int p2), .val (.int (32 : Int32)), .val (.ref y109)] [(.ref a1)])) rfl rfl (hb hby d10_20)
  refine OwnEnd.go (fun _ k => st122 _ k) ?_
  show OwnEnd p e below s _ _ _ (T122.setTop (mkF m 23 #[.val (.ref a1), .val (.int p2), .val (.int (32 : Int32)), .val (.ref y109)] [(.ref pa)]))
  refine OwnEnd.go (fun _ k => XS.iconst X122.here hx rfl (hb hby d10_23) k) ?_
  show OwnEnd p e below s _ _ _ (T122.setTop (mkF m 24 #[.val (.ref a1), .val (.int p2), .val (.int (32 : Int32)), .val (.ref y109)] [(.int (0 : Int32)), (.ref pa)]))
  refine OwnEnd.go (fun _ k => XS.aloadN X122.here hx rfl (hb hby d10_24) rfl rfl k) ?_
  show OwnEnd p e below s _ _ _ (T122.setTop (mkF m 25 #[.val (.ref a1), .val (.int p2), .val (.int (32 : Int32)), .val (.ref y109)] [(.ref y109), (.int (0 : Int32)), (.ref pa)]))
  refine OwnEnd.go (fun _ k => XS.iconst X122.here hx rfl (hb hby d10_25) k) ?_
  show OwnEnd p e below s _ _ _ (T122.setTop (mkF m 26 #[.val (.ref a1), .val (.int p2), .val (.int (32 : Int32)), .val (.ref y109)] [(.int (0 : Int32)), (.ref y109), (.int (0 : Int32)), (.ref pa)]))
  refine OwnEnd.go (fun _ k => XS.aloadN X122.here hx rfl (hb hby d10_26) rfl rfl k) ?_
  show OwnEnd p e below s _ _ _ (T122.setTop (mkF m 27 #[.val (.ref a1), .val (.int p2), .val (.int (32 : Int32)), .val (.ref y109)] [(.ref a1), (.int (0 : Int32)), (.ref y109), (.int (0 : Int32)), (.ref pa)]))
  obtain ⟨T123, X123, e123, st123⟩ := getF X122 hx hZ hown (host := "") (Or.inl ww22) Via.refl e122 F113 (g := (mkF m 27 #[.val (.ref a1), .val (.int p2), .val (.int (32 : Int32)), .val (.ref y109)] [(.ref a1), (.int (0 : Int32)), (.ref y109), (.int (0 : Int32)), (.ref pa)])) rfl rfl (hb hby d10_27)
  refine OwnEnd.go (fun _ k => st123 _ k) ?_
  show OwnEnd p e below s _ _ _ (T123.setTop (mkF m 30 #[.val (.ref a1), .val (.int p2), .val (.int (32 : Int32)), .val (.ref y109)] [(.ref pa), (.int (0 : Int32)), (.ref y109), (.int (0 : Int32)), (.ref pa)]))
  refine OwnEnd.go (fun _ k => ownAlen X123 hx hZ e123 F117 (g := (mkF m 30 #[.val (.ref a1), .val (.int p2), .val (.int (32 : Int32)), .val (.ref y109)] [(.ref pa), (.int (0 : Int32)), (.ref y109), (.int (0 : Int32)), (.ref pa)])) rfl rfl (hb hby d10_30) _ k) ?_
  show OwnEnd p e below s _ _ _ (T123.setTop (mkF m 31 #[.val (.ref a1), .val (.int p2), .val (.int (32 : Int32)), .val (.ref y109)] [(.int (16 : Int32)), (.int (0 : Int32)), (.ref y109), (.int (0 : Int32)), (.ref pa)]))
  obtain ⟨T125, h125, L125, X125, e125, N125, K125q, V125, st125⟩ := ownAcopy X123 hx hZ hown ww55 ww58 ww56 ww57 e123 F117 P108 (by decide) (by decide) N105 P106 (g := (mkF m 31 #[.val (.ref a1), .val (.int p2), .val (.int (32 : Int32)), .val (.ref y109)] [(.int (16 : Int32)), (.int (0 : Int32)), (.ref y109), (.int (0 : Int32)), (.ref pa)])) rfl (by rw [hml]; rfl) (rest := []) rfl (hb hby d10_31) (by decide) 0 (by show 2 * 0 + _ ≤ _; exact Nat.le_of_eq rfl) (by decide)
  have F126 := F110.keep K125q
  have F127 := F111.keep K125q (ninS ne118 nin0)
  have F128 := F112.keep K125q (ninS ne118 nin0)
  have F129 := F113.keep K125q (ninS ne118 nin0)
  have F130 := F114.keep K125q (ninS ne118 nin0)
  have F131 := F115.keep K125q (ninS ne119 nin0)
  have F132 := F116.keep K125q (ninS ne120 nin0)
  have F133 := F117.keep K125q (ninS ne121 nin0)
  have K125 := K105.trans K125q (allS (Or.inr (Nat.le_trans K0.1 P107)) all0)
  have Y125 := Nat.le_trans Y105 K125q.1
  refine OwnEnd.go (fun _ k => st125 _ k) ?_
  show OwnEnd p e below s _ _ _ (T125.setTop (mkF m 34 #[.val (.ref a1), .val (.int p2), .val (.int (32 : Int32)), .val (.ref y109)] []))
  refine OwnEnd.go (fun _ k => XS.aloadN X125.here hx rfl (hb hby d10_34) rfl rfl k) ?_
  show OwnEnd p e below s _ _ _ (T125.setTop (mkF m 35 #[.val (.ref a1), .val (.int p2), .val (.int (32 : Int32)), .val (.ref y109)] [(.ref a1)]))
  refine OwnEnd.go (fun _ k => XS.aloadN X125.here hx rfl (hb hby d10_35) rfl rfl k) ?_
  show OwnEnd p e below s _ _ _ (T125.setTop (mkF m 36 #[.val (.ref a1), .val (.int p2), .val (.int (32 : Int32)), .val (.ref y109)] [(.ref y109), (.ref a1)]))
  obtain ⟨T135, h135, X135, e135, W135, st135⟩ := putF X125 hx hZ hown (host := "") (Or.inl ww22) Via.refl e125 F129 F126 (Or.inl ww23) ww1 (ty := (.array .int)) (by decide) rfl rfl (g := (mkF m 36 #[.val (.ref a1), .val (.int p2), .val (.int (32 : Int32)), .val (.ref y109)] [(.ref y109), (.ref a1)])) rfl rfl (hb hby d10_36)
  have F136 := F126.wr W135
  have F137 := F127.other W135 (Or.inr (slot_ne (Or.inl ww11) (Or.inl ww23) (by decide) (t := (.array .int)) (t' := (.array .int)) (by decide) (by decide)))
  have F138 := F128.other W135 (Or.inr (slot_ne (Or.inl ww14) (Or.inl ww23) (by decide) (t := (.array .long)) (t' := (.array .int)) (by decide) (by decide)))
  have F139 := F129.same W135
  have F140 := F130.other W135 (Or.inr (slot_ne (Or.inl ww30) (Or.inl ww23) (by decide) (t := .int) (t' := (.array .int)) (by decide) (by decide)))
  have F141 := F131.other W135 (Ne.symm n1_101)
  have F142 := F132.other W135 (Ne.symm n2_101)
  have F143 := F133.other W135 (Ne.symm n3_101)
  have F144 := V125.other W135 (Ne.symm ne118)
  have N135 := Fr.snoc X135 N125 ga_101
  have K135 := K125.wr W135 (Or.inl (List.mem_of_getElem? (i := 0) rfl))
  have Y135 := Nat.le_trans Y125 (Nat.le_of_eq W135.size.symm)
  refine OwnEnd.go (fun _ k => st135 _ k) ?_
  show OwnEnd p e below s _ _ _ (T135.setTop (mkF m 39 #[.val (.ref a1), .val (.int p2), .val (.int (32 : Int32)), .val (.ref y109)] []))
  refine OwnEnd.go (fun _ k => XS.aloadN X135.here hx rfl (hb hby d10_39) rfl rfl k) ?_
  show OwnEnd p e below s _ _ _ (T135.setTop (mkF m 40 #[.val (.ref a1), .val (.int p2), .val (.int (32 : Int32)), .val (.ref y109)] [(.ref a1)]))
  refine OwnEnd.go (fun _ k => XS.aloadN X135.here hx rfl (hb hby d10_40) rfl rfl k) ?_
  show OwnEnd p e below s _ _ _ (T135.setTop (mkF m 41 #[.val (.ref a1), .val (.int p2), .val (.int (32 : Int32)), .val (.ref y109)] [(.ref a1), (.ref a1)]))
  obtain ⟨T145, X145, e145, st145⟩ := getF X135 hx hZ hown (host := "") (Or.inl ww13) Via.refl e135 F138 (g := (mkF m 41 #[.val (.ref a1), .val (.int p2), .val (.int (32 : Int32)), .val (.ref y109)] [(.ref a1), (.ref a1)])) rfl rfl (hb hby d10_41)
  refine OwnEnd.go (fun _ k => st145 _ k) ?_
  show OwnEnd p e below s _ _ _ (T145.setTop (mkF m 44 #[.val (.ref a1), .val (.int p2), .val (.int (32 : Int32)), .val (.ref y109)] [(.ref ta), (.ref a1)]))
  refine OwnEnd.go (fun _ k => XS.iloadN X145.here hx rfl (hb hby d10_44) rfl  k) ?_
  show OwnEnd p e below s _ _ _ (T145.setTop (mkF m 45 #[.val (.ref a1), .val (.int p2), .val (.int (32 : Int32)), .val (.ref y109)] [(.int (32 : Int32)), (.ref ta), (.ref a1)]))
  obtain ⟨_, T146, L146, X146, hQ146, st146⟩ := ownCallS X145 hx hZ hown ww59 ww60 ww20 ww61 (by decide) (rm12 l Z a0 hw [] ta h135 n0 Y135  F142) e145 1 (by decide) (by decide) (by decide) (by decide) (g := (mkF m 45 #[.val (.ref a1), .val (.int p2), .val (.int (32 : Int32)), .val (.ref y109)] [(.int (32 : Int32)), (.ref ta), (.ref a1)])) rfl (by rw [hml]; rfl) (argsL := [(.ref ta), (.int (32 : Int32))]) (rest := [(.ref a1)]) (lenOf pd10_2 rfl) rfl rfl (by show 2 * 0 + _ ≤ _; exact Nat.le_of_eq rfl) (hb hby d10_45)
  obtain ⟨y150, hQ146⟩ := hQ146
  obtain ⟨rfl, N146q, K146q, P147, P148, P149⟩ := hQ146
  have N146 := Fr.app N135 N146q
  have F151 := F136.keep K146q
  have F152 := F137.keep K146q nin0
  have F153 := F138.keep K146q nin0
  have F154 := F139.keep K146q nin0
  have F155 := F140.keep K146q nin0
  have F156 := F141.keep K146q nin0
  have F157 := F142.keep K146q nin0
  have F158 := F143.keep K146q nin0
  have F159 := F144.keep K146q nin0
  have K146 := K135.trans K146q all0
  have Y146 := Nat.le_trans Y135 K146q.1
  refine OwnEnd.go (fun _ k => st146 _ k) ?_
  have ne160 : a1 ≠ y150 := Nat.ne_of_lt (Nat.lt_of_lt_of_le F136.lt P148)
  have ne161 : ha ≠ y150 := Nat.ne_of_lt (Nat.lt_of_lt_of_le F141.lt P148)
  have ne162 : ta ≠ y150 := Nat.ne_of_lt (Nat.lt_of_lt_of_le F142.lt P148)
  have ne163 : pa ≠ y150 := Nat.ne_of_lt (Nat.lt_of_lt_of_le F143.lt P148)
  have ne164 : y109 ≠ y150 := Nat.ne_of_lt (Nat.lt_of_lt_of_le F144.lt P148)
  show OwnEnd p e below s _ _ _ (T146.setTop (mkF m 48 #[.val (.ref a1), .val (.int p2), .val (.int (32 : Int32)), .val (.ref y109)] [(.ref y150), (.ref a1)]))
  obtain ⟨T165, h165, X165, e165, W165, st165⟩ := putF X146 hx hZ hown (host := "") (Or.inl ww13) Via.refl (rfl : T146.heap = T146.heap) F153 F151 (Or.inl ww14) ww1 (ty := (.array .long)) (by decide) rfl rfl (g := (mkF m 48 #[.val (.ref a1), .val (.int p2), .val (.int (32 : Int32)), .val (.ref y109)] [(.ref y150), (.ref a1)])) rfl rfl (hb hby d10_48)
  have F166 := F151.wr W165
  have F167 := F152.other W165 (Or.inr (slot_ne (Or.inl ww11) (Or.inl ww14) (by decide) (t := (.array .int)) (t' := (.array .long)) (by decide) (by decide)))
  have F168 := F153.same W165
  have F169 := F154.other W165 (Or.inr (slot_ne (Or.inl ww23) (Or.inl ww14) (by decide) (t := (.array .int)) (t' := (.array .long)) (by decide) (by decide)))
  have F170 := F155.other W165 (Or.inr (slot_ne (Or.inl ww30) (Or.inl ww14) (by decide) (t := .int) (t' := (.array .long)) (by decide) (by decide)))
  have F171 := F156.other W165 (Ne.symm n1_101)
  have F172 := F157.other W165 (Ne.symm n2_101)
  have F173 := F158.other W165 (Ne.symm n3_101)
  have F174 := F159.other W165 (Ne.symm ne118)
  have F175 := P149.other W165 (Ne.symm ne160)
  have N165 := Fr.snoc X165 N146 ga_101
  have K165 := K146.wr W165 (Or.inl (List.mem_of_getElem? (i := 0) rfl))
  have Y165 := Nat.le_trans Y146 (Nat.le_of_eq W165.size.symm)
  refine OwnEnd.go (fun _ k => st165 _ k) ?_
  show OwnEnd p e below s _ _ _ (T165.setTop (mkF m 51 #[.val (.ref a1), .val (.int p2), .val (.int (32 : Int32)), .val (.ref y109)] []))
  refine ownRetV X165 hx hlk hret (hb hby d10_51) (by decide) (by decide) ?_
  show Q10 Z a1 p2 ha ta pa sz f0 f1 pf h0 n0 _ T165.heap _
  rw [e165]
  exact ⟨y150, y109, rfl, N165, K165, P147, P106, (Nat.le_trans K135.1 P148), (Nat.le_trans K0.1 P107), ⟨ga_101, gh_101, P147, P106, n1_101, ne160, ne118, ne161, ne119, (Ne.symm ne164), F166, F167, F168, F169, F170, ⟨_, F171⟩, F175, F174⟩⟩
theorem d15_0 : decode prog_28_method_7_code 0 = .ok (.iload_n 2, 1) := by decide +kernel
theorem d15_1 : decode prog_28_method_7_code 1 = .ok (.istore_n 3, 1) := by decide +kernel
theorem d15_2 : decode prog_28_method_7_code 2 = .ok (.iconst 0, 1) := by decide +kernel
theorem d15_3 : decode prog_28_method_7_code 3 = .ok (.istore 4, 2) := by decide +kernel
theorem d15_5 : decode prog_28_method_7_code 5 = .ok (.iload 4, 2) := by decide +kernel
theorem d15_7 : decode prog_28_method_7_code 7 = .ok (.ifCond .ne 108, 3) := by decide +kernel
theorem d15_10 : decode prog_28_method_7_code 10 = .ok (.iconst 2, 1) := by decide +kernel
theorem d15_11 : decode prog_28_method_7_code 11 = .ok (.iload_n 3, 1) := by decide +kernel
theorem d15_12 : decode prog_28_method_7_code 12 = .ok (.imul, 1) := by decide +kernel
theorem d15_13 : decode prog_28_method_7_code 13 = .ok (.iconst 1, 1) := by decide +kernel
theorem d15_14 : decode prog_28_method_7_code 14 = .ok (.iadd, 1) := by decide +kernel
theorem d15_15 : decode prog_28_method_7_code 15 = .ok (.istore 5, 2) := by decide +kernel
theorem d15_17 : decode prog_28_method_7_code 17 = .ok (.iload 5, 2) := by decide +kernel
theorem d15_19 : decode prog_28_method_7_code 19 = .ok (.istore 6, 2) := by decide +kernel
theorem d15_21 : decode prog_28_method_7_code 21 = .ok (.iload 5, 2) := by decide +kernel
theorem d15_23 : decode prog_28_method_7_code 23 = .ok (.iconst 1, 1) := by decide +kernel
theorem d15_24 : decode prog_28_method_7_code 24 = .ok (.iadd, 1) := by decide +kernel
theorem d15_25 : decode prog_28_method_7_code 25 = .ok (.aload_n 0, 1) := by decide +kernel
theorem d15_26 : decode prog_28_method_7_code 26 = .ok (.getfield 24, 3) := by decide +kernel
theorem d15_29 : decode prog_28_method_7_code 29 = .ok (.if_icmp .ge 32, 3) := by decide +kernel
theorem d15_61 : decode prog_28_method_7_code 61 = .ok (.iload 5, 2) := by decide +kernel
theorem d15_63 : decode prog_28_method_7_code 63 = .ok (.aload_n 0, 1) := by decide +kernel
theorem d15_64 : decode prog_28_method_7_code 64 = .ok (.getfield 24, 3) := by decide +kernel
theorem d15_67 : decode prog_28_method_7_code 67 = .ok (.if_icmp .ge 18, 3) := by decide +kernel
theorem d15_85 : decode prog_28_method_7_code 85 = .ok (.iconst 1, 1) := by decide +kernel
theorem d15_86 : decode prog_28_method_7_code 86 = .ok (.goto 4, 3) := by decide +kernel
theorem d15_90 : decode prog_28_method_7_code 90 = .ok (.istore 4, 2) := by decide +kernel
theorem d15_92 : decode prog_28_method_7_code 92 = .ok (.iload 4, 2) := by decide +kernel
theorem d15_94 : decode prog_28_method_7_code 94 = .ok (.ifCond .ne 18, 3) := by decide +kernel
theorem d15_112 : decode prog_28_method_7_code 112 = .ok (.goto (-107), 3) := by decide +kernel
theorem d15_115 : decode prog_28_method_7_code 115 = .ok (.aload_n 0, 1) := by decide +kernel
theorem d15_116 : decode prog_28_method_7_code 116 = .ok (.iload_n 1, 1) := by decide +kernel
theorem d15_117 : decode prog_28_method_7_code 117 = .ok (.iload_n 3, 1) := by decide +kernel
theorem d15_118 : decode prog_28_method_7_code 118 = .ok (.invokevirtual 49, 3) := by decide +kernel
theorem d15_121 : decode prog_28_method_7_code 121 = .ok (.return_, 1) := by decide +kernel
theorem pn_15 : plainName "com/example/volens/volens/core/agent/TurnQueue" = true := by first | (simp [plainName, overriddenIn]; done) | decide +kernel
theorem pd15_0 : parseMethodDescriptor "(II)V" = some ⟨[.int, .int], none⟩ := by decide +kernel
theorem ef_15 (m : MethodId) (x0 : Addr) (x1 : Int32) (x2 : Int32) : entryFrame m #[(.ref x0), (.int x1), (.int x2)] 7 = mkF m 0 #[.val (.ref x0), .val (.int x1), .val (.int x2), .unset, .unset, .unset, .unset] [] := by first | (simp [entryFrame, mkF, argsToLocals, Value.category]; done) | rfl
def Q15 (Z : State) (a1 : Addr) (p2 : Int32) (ha : Addr) (ta : Addr) (pa : Addr) (cap : Int32) (f0 : Int32) (f1 : Int32) (pf : (Nat → Int32)) (h0 : Heap) (n0 : Nat) (v : Option Value) (h : Heap) (L : List Loc) : Prop := v = none ∧ Fr n0 L ∧ Keep h0 h [a1, ha, ta, pa] ∧ ownTQ Z h n0 a1 ha ta pa (1 : Int32) cap p2 f1 (own_upd pf p2 (0 : Int32))
set_option maxRecDepth 65536 in
set_option maxHeartbeats 40000000 in
theorem rm15 (l : Launch) (Z : State) (a0 : Array Value) (hw : ∀ d ∈ tables_1, d.before a0 Z = true) (ws : List Jvm.Cond) (a1 : Addr) (p2 : Int32) (ha : Addr) (ta : Addr) (pa : Addr) (cap : Int32) (f0 : Int32) (f1 : Int32) (pf : (Nat → Int32)) (h0 : Heap) (n0 : Nat) (Z0 : n0 ≤ h0.size) (B0 : ownTQ Z h0 n0 a1 ha ta pa (1 : Int32) cap f0 f1 pf) (hbd : (¬ p2 < 0 ∧ p2 < cap)) :
    MetFree l (⟨"com/example/volens/volens/core/agent/TurnQueue", "sink", "(II)V"⟩ : MethodName) (head1 (Jvm.Cond.code (⟨"com/example/volens/volens/core/agent/TurnQueue", "sink", "(II)V"⟩ : MethodName) prog_28_method_7_code 7 none :: ws) ({ frames := 1, cells := 0, slots := 0, locals := 14 } : Room)) (fun a U => a = #[(.ref a1), (.int p2), (.int (0 : Int32))] ∧ Z.Warmed39 U.vm ∧ U.heap = h0) (fun _ _ _ _ _ => True) (fun _ U o U' => ∃ v L, o = .returned v ∧ Q15 Z a1 p2 ha ta pa cap f0 f1 pf h0 n0 v U'.heap L ∧ FrameEnd U o U' L ({ frames := 1, cells := 0, slots := 0, locals := 14 } : Room).cells ({ frames := 1, cells := 0, slots := 0, locals := 14 } : Room).slots) := by
  have ww1 := hw _ (List.mem_of_getElem? (i := 1) rfl)
  have ww2 := hw _ (List.mem_of_getElem? (i := 2) rfl)
  have ww29 := hw _ (List.mem_of_getElem? (i := 29) rfl)
  have ww40 := hw _ (List.mem_of_getElem? (i := 40) rfl)
  have ww41 := hw _ (List.mem_of_getElem? (i := 41) rfl)
  have ww42 := hw _ (List.mem_of_getElem? (i := 42) rfl)
  have ww43 := hw _ (List.mem_of_getElem? (i := 43) rfl)
  refine MetFree.of_bodySF (plainFor_of_name pn_15) hisR ?_
  intro p e s m args below meth c s₁ Bd hml0 hP hK
  obtain ⟨rfl, hZ, hh⟩ := hP
  have hx := Bd.exec
  have hby := Bd.bytes
  have hlk : meth.locks = false := Bd.notSynchronized
  have hret := Bd.returns
  have hml : c.maxLocals = 7 := hml0
  have hown : s.vm.findClass "com/example/volens/volens/core/agent/TurnQueue" = some m.cls := findClass_of_methodNamed Bd.named
  have hnm := (name_of_methodNamed Bd.named Bd.method).1
  have X0 : Stand p l e ({ frames := 1, cells := 0, slots := 0, locals := 14 } : Room) s m #[(.ref a1), (.int p2), (.int (0 : Int32))] below meth c s₁ [] 0 0 := Stand.of_body Bd
  have e0 : s₁.heap = h0 := by rw [← hh, Bd.state]; rfl
  have N0 := Fr.nil n0
  have K0 := Keep.refl h0 [a1, ha, ta, pa]
  show OwnEnd p e below s (Q15 Z a1 p2 ha ta pa cap f0 f1 pf h0 n0) ({ frames := 1, cells := 0, slots := 0, locals := 14 } : Room).cells ({ frames := 1, cells := 0, slots := 0, locals := 14 } : Room).slots _
  refine OwnEnd.go (fun _ k => castTop (ef_15 m a1 p2 (0 : Int32)) k) ?_
  have E1 := B0.2.2.2.2.2.2.2.2.2.2.1
  have ga := B0.1
  have gh := B0.2.1
  have gt := B0.2.2.1
  have gp := B0.2.2.2.1
  have F_s0 := B0.2.2.2.2.2.2.2.2.2.2.2.2.2.2.1
  show OwnEnd p e below s _ _ _ (s₁.setTop (mkF m 0 #[.val (.ref a1), .val (.int p2), .val (.int (0 : Int32)), .unset, .unset, .unset, .unset] []))
  refine OwnEnd.go (fun _ k => XS.iloadN X0.here hx rfl (hb hby d15_0) rfl  k) ?_
  show OwnEnd p e below s _ _ _ (s₁.setTop (mkF m 1 #[.val (.ref a1), .val (.int p2), .val (.int (0 : Int32)), .unset, .unset, .unset, .unset] [(.int (0 : Int32))]))
  refine OwnEnd.go (fun _ k => XS.istoreN X0.here hx rfl (hb hby d15_1) rfl  (l' := #[.val (.ref a1), .val (.int p2), .val (.int (0 : Int32)), .val (.int (0 : Int32)), .unset, .unset, .unset]) rfl k) ?_
  show OwnEnd p e below s _ _ _ (s₁.setTop (mkF m 2 #[.val (.ref a1), .val (.int p2), .val (.int (0 : Int32)), .val (.int (0 : Int32)), .unset, .unset, .unset] []))
  refine OwnEnd.go (fun _ k => XS.iconst X0.here hx rfl (hb hby d15_2) k) ?_
  show OwnEnd p e below s _ _ _ (s₁.setTop (mkF m 3 #[.val (.ref a1), .val (.int p2), .val (.int (0 : Int32)), .val (.int (0 : Int32)), .unset, .unset, .unset] [(.int (0 : Int32))]))
  refine OwnEnd.go (fun _ k => XS.istore X0.here hx rfl (hb hby d15_3) rfl  (l' := #[.val (.ref a1), .val (.int p2), .val (.int (0 : Int32)), .val (.int (0 : Int32)), .val (.int (0 : Int32)), .unset, .unset]) rfl k) ?_
  show OwnEnd p e below s _ _ _ (s₁.setTop (mkF m 5 #[.val (.ref a1), .val (.int p2), .val (.int (0 : Int32)), .val (.int (0 : Int32)), .val (.int (0 : Int32)), .unset, .unset] []))
  refine OwnEnd.go (fun _ k => XS.iload X0.here hx rfl (hb hby d15_5) rfl  k) ?_
  show OwnEnd p e below s _ _ _ (s₁.setTop (mkF m 7 #[.val (.ref a1), .val (.int p2), .val (.int (0 : Int32)), .val (.int (0 : Int32)), .val (.int (0 : Int32)), .unset, .unset] [(.int (0 : Int32))]))
  refine OwnEnd.go (fun _ k => XS.ifNo X0.here hx rfl (hb hby d15_7) rfl ((if0 _ _).trans (teq (by decide : (0 : Int32) = (0 : Int32))).2) k) ?_
  show OwnEnd p e below s _ _ _ (s₁.setTop (mkF m 10 #[.val (.ref a1), .val (.int p2), .val (.int (0 : Int32)), .val (.int (0 : Int32)), .val (.int (0 : Int32)), .unset, .unset] []))
  refine OwnEnd.go (fun _ k => XS.iconst X0.here hx rfl (hb hby d15_10) k) ?_
  show OwnEnd p e below s _ _ _ (s₁.setTop (mkF m 11 #[.val (.ref a1), .val (.int p2), .val (.int (0 : Int32)), .val (.int (0 : Int32)), .val (.int (0 : Int32)), .unset, .unset] [(.int (2 : Int32))]))
  refine OwnEnd.go (fun _ k => XS.iloadN X0.here hx rfl (hb hby d15_11) rfl  k) ?_
  show OwnEnd p e below s _ _ _ (s₁.setTop (mkF m 12 #[.val (.ref a1), .val (.int p2), .val (.int (0 : Int32)), .val (.int (0 : Int32)), .val (.int (0 : Int32)), .unset, .unset] [(.int (0 : Int32)), (.int (2 : Int32))]))
  refine OwnEnd.go (fun _ k => XS.imul X0.here hx rfl (hb hby d15_12) rfl k) ?_
  show OwnEnd p e below s _ _ _ (s₁.setTop (mkF m 13 #[.val (.ref a1), .val (.int p2), .val (.int (0 : Int32)), .val (.int (0 : Int32)), .val (.int (0 : Int32)), .unset, .unset] [(.int (0 : Int32))]))
  refine OwnEnd.go (fun _ k => XS.iconst X0.here hx rfl (hb hby d15_13) k) ?_
  show OwnEnd p e below s _ _ _ (s₁.setTop (mkF m 14 #[.val (.ref a1), .val (.int p2), .val (.int (0 : Int32)), .val (.int (0 : Int32)), .val (.int (0 : Int32)), .unset, .unset] [(.int (1 : Int32)), (.int (0 : Int32))]))
  refine OwnEnd.go (fun _ k => XS.iadd X0.here hx rfl (hb hby d15_14) rfl k) ?_
  show OwnEnd p e below s _ _ _ (s₁.setTop (mkF m 15 #[.val (.ref a1), .val (.int p2), .val (.int (0 : Int32)), .val (.int (0 : Int32)), .val (.int (0 : Int32)), .unset, .unset] [(.int (1 : Int32))]))
  refine OwnEnd.go (fun _ k => XS.istore X0.here hx rfl (hb hby d15_15) rfl  (l' := #[.val (.ref a1), .val (.int p2), .val (.int (0 : Int32)), .val (.int (0 : Int32)), .val (.int (0 : Int32)), .val (.int (1 : Int32)), .unset]) rfl k) ?_
  show OwnEnd p e below s _ _ _ (s₁.setTop (mkF m 17 #[.val (.ref a1), .val (.int p2), .val (.int (0 : Int32)), .val (.int (0 : Int32)), .val (.int (0 : Int32)), .val (.int (1 : Int32)), .unset] []))
  refine OwnEnd.go (fun _ k => XS.iload X0.here hx rfl (hb hby d15_17) rfl  k) ?_
  show OwnEnd p e below s _ _ _ (s₁.setTop (mkF m 19 #[.val (.ref a1), .val (.int p2), .val (.int (0 : Int32)), .val (.int (0 : Int32)), .val (.int (0 : Int32)), .val (.int (1 : Int32)), .unset] [(.int (1 : Int32))]))
  refine OwnEnd.go (fun _ k => XS.istore X0.here hx rfl (hb hby d15_19) rfl  (l' := #[.val (.ref a1), .val (.int p2), .val (.int (0 : Int32)), .val (.int (0 : Int32)), .val (.int (0 : Int32)), .val (.int (1 : Int32)), .val (.int (1 : Int32))]) rfl k) ?_
  show OwnEnd p e below s _ _ _ (s₁.setTop (mkF m 21 #[.val (.ref a1), .val (.int p2), .val (.int (0 : Int32)), .val (.int (0 : Int32)), .val (.int (0 : Int32)), .val (.int (1 : Int32)), .val (.int (1 : Int32))] []))
  refine OwnEnd.go (fun _ k => XS.iload X0.here hx rfl (hb hby d15_21) rfl  k) ?_
  show OwnEnd p e below s _ _ _ (s₁.setTop (mkF m 23 #[.val (.ref a1), .val (.int p2), .val (.int (0 : Int32)), .val (.int (0 : Int32)), .val (.int (0 : Int32)), .val (.int (1 : Int32)), .val (.int (1 : Int32))] [(.int (1 : Int32))]))
  refine OwnEnd.go (fun _ k => XS.iconst X0.here hx rfl (hb hby d15_23) k) ?_
  show OwnEnd p e below s _ _ _ (s₁.setTop (mkF m 24 #[.val (.ref a1), .val (.int p2), .val (.int (0 : Int32)), .val (.int (0 : Int32)), .val (.int (0 : Int32)), .val (.int (1 : Int32)), .val (.int (1 : Int32))] [(.int (1 : Int32)), (.int (1 : Int32))]))
  refine OwnEnd.go (fun _ k => XS.iadd X0.here hx rfl (hb hby d15_24) rfl k) ?_
  show OwnEnd p e below s _ _ _ (s₁.setTop (mkF m 25 #[.val (.ref a1), .val (.int p2), .val (.int (0 : Int32)), .val (.int (0 : Int32)), .val (.int (0 : Int32)), .val (.int (1 : Int32)), .val (.int (1 : Int32))] [(.int (2 : Int32))]))
  refine OwnEnd.go (fun _ k => XS.aloadN X0.here hx rfl (hb hby d15_25) rfl rfl k) ?_
  show OwnEnd p e below s _ _ _ (s₁.setTop (mkF m 26 #[.val (.ref a1), .val (.int p2), .val (.int (0 : Int32)), .val (.int (0 : Int32)), .val (.int (0 : Int32)), .val (.int (1 : Int32)), .val (.int (1 : Int32))] [(.ref a1), (.int (2 : Int32))]))
  obtain ⟨T101, X101, e101, st101⟩ := getF X0 hx hZ hown (host := "") (Or.inl ww29) Via.refl e0 F_s0 (g := (mkF m 26 #[.val (.ref a1), .val (.int p2), .val (.int (0 : Int32)), .val (.int (0 : Int32)), .val (.int (0 : Int32)), .val (.int (1 : Int32)), .val (.int (1 : Int32))] [(.ref a1), (.int (2 : Int32))])) rfl rfl (hb hby d15_26)
  refine OwnEnd.go (fun _ k => st101 _ k) ?_
  show OwnEnd p e below s _ _ _ (T101.setTop (mkF m 29 #[.val (.ref a1), .val (.int p2), .val (.int (0 : Int32)), .val (.int (0 : Int32)), .val (.int (0 : Int32)), .val (.int (1 : Int32)), .val (.int (1 : Int32))] [(.int (1 : Int32)), (.int (2 : Int32))]))
  refine OwnEnd.go (fun _ k => XS.icmpYes X101.here hx rfl (pc0 := 29) (pc' := 61) rfl (hb hby d15_29) rfl (flt (by decide : ¬ (2 : Int32) < (1 : Int32))).2.1 (by decide) (by decide) k) ?_
  show OwnEnd p e below s _ _ _ (T101.setTop (mkF m 61 #[.val (.ref a1), .val (.int p2), .val (.int (0 : Int32)), .val (.int (0 : Int32)), .val (.int (0 : Int32)), .val (.int (1 : Int32)), .val (.int (1 : Int32))] []))
  refine OwnEnd.go (fun _ k => XS.iload X101.here hx rfl (hb hby d15_61) rfl  k) ?_
  show OwnEnd p e below s _ _ _ (T101.setTop (mkF m 63 #[.val (.ref a1), .val (.int p2), .val (.int (0 : Int32)), .val (.int (0 : Int32)), .val (.int (0 : Int32)), .val (.int (1 : Int32)), .val (.int (1 : Int32))] [(.int (1 : Int32))]))
  refine OwnEnd.go (fun _ k => XS.aloadN X101.here hx rfl (hb hby d15_63) rfl rfl k) ?_
  show OwnEnd p e below s _ _ _ (T101.setTop (mkF m 64 #[.val (.ref a1), .val (.int p2), .val (.int (0 : Int32)), .val (.int (0 : Int32)), .val (.int (0 : Int32)), .val (.int (1 : Int32)), .val (.int (1 : Int32))] [(.ref a1), (.int (1 : Int32))]))
  obtain ⟨T102, X102, e102, st102⟩ := getF X101 hx hZ hown (host := "") (Or.inl ww29) Via.refl e101 F_s0 (g := (mkF m 64 #[.val (.ref a1), .val (.int p2), .val (.int (0 : Int32)), .val (.int (0 : Int32)), .val (.int (0 : Int32)), .val (.int (1 : Int32)), .val (.int (1 : Int32))] [(.ref a1), (.int (1 : Int32))])) rfl rfl (hb hby d15_64)
  refine OwnEnd.go (fun _ k => st102 _ k) ?_
  show OwnEnd p e below s _ _ _ (T102.setTop (mkF m 67 #[.val (.ref a1), .val (.int p2), .val (.int (0 : Int32)), .val (.int (0 : Int32)), .val (.int (0 : Int32)), .val (.int (1 : Int32)), .val (.int (1 : Int32))] [(.int (1 : Int32)), (.int (1 : Int32))]))
  refine OwnEnd.go (fun _ k => XS.icmpYes X102.here hx rfl (pc0 := 67) (pc' := 85) rfl (hb hby d15_67) rfl (flt (by decide : ¬ (1 : Int32) < (1 : Int32))).2.1 (by decide) (by decide) k) ?_
  show OwnEnd p e below s _ _ _ (T102.setTop (mkF m 85 #[.val (.ref a1), .val (.int p2), .val (.int (0 : Int32)), .val (.int (0 : Int32)), .val (.int (0 : Int32)), .val (.int (1 : Int32)), .val (.int (1 : Int32))] []))
  refine OwnEnd.go (fun _ k => XS.iconst X102.here hx rfl (hb hby d15_85) k) ?_
  show OwnEnd p e below s _ _ _ (T102.setTop (mkF m 86 #[.val (.ref a1), .val (.int p2), .val (.int (0 : Int32)), .val (.int (0 : Int32)), .val (.int (0 : Int32)), .val (.int (1 : Int32)), .val (.int (1 : Int32))] [(.int (1 : Int32))]))
  refine OwnEnd.go (fun _ k => XS.goto X102.here hx rfl (pc0 := 86) (pc' := 90) rfl (hb hby d15_86) (by decide) (by decide) k) ?_
  show OwnEnd p e below s _ _ _ (T102.setTop (mkF m 90 #[.val (.ref a1), .val (.int p2), .val (.int (0 : Int32)), .val (.int (0 : Int32)), .val (.int (0 : Int32)), .val (.int (1 : Int32)), .val (.int (1 : Int32))] [(.int (1 : Int32))]))
  refine OwnEnd.go (fun _ k => XS.istore X102.here hx rfl (hb hby d15_90) rfl  (l' := #[.val (.ref a1), .val (.int p2), .val (.int (0 : Int32)), .val (.int (0 : Int32)), .val (.int (1 : Int32)), .val (.int (1 : Int32)), .val (.int (1 : Int32))]) rfl k) ?_
  show OwnEnd p e below s _ _ _ (T102.setTop (mkF m 92 #[.val (.ref a1), .val (.int p2), .val (.int (0 : Int32)), .val (.int (0 : Int32)), .val (.int (1 : Int32)), .val (.int (1 : Int32)), .val (.int (1 : Int32))] []))
  refine OwnEnd.go (fun _ k => XS.iload X102.here hx rfl (hb hby d15_92) rfl  k) ?_
  show OwnEnd p e below s _ _ _ (T102.setTop (mkF m 94 #[.val (.ref a1), .val (.int p2), .val (.int (0 : Int32)), .val (.int (0 : Int32)), .val (.int (1 : Int32)), .val (.int (1 : Int32)), .val (.int (1 : Int32))] [(.int (1 : Int32))]))
  refine OwnEnd.go (fun _ k => XS.ifYes X102.here hx rfl (pc0 := 94) (pc' := 112) rfl (hb hby d15_94) rfl ((if0 _ _).trans (feq (by decide : ¬ (1 : Int32) = (0 : Int32))).2) (by decide) (by decide) k) ?_
  show OwnEnd p e below s _ _ _ (T102.setTop (mkF m 112 #[.val (.ref a1), .val (.int p2), .val (.int (0 : Int32)), .val (.int (0 : Int32)), .val (.int (1 : Int32)), .val (.int (1 : Int32)), .val (.int (1 : Int32))] []))
  refine OwnEnd.go (fun _ k => XS.goto X102.here hx rfl (pc0 := 112) (pc' := 5) rfl (hb hby d15_112) (by decide) (by decide) k) ?_
  show OwnEnd p e below s _ _ _ (T102.setTop (mkF m 5 #[.val (.ref a1), .val (.int p2), .val (.int (0 : Int32)), .val (.int (0 : Int32)), .val (.int (1 : Int32)), .val (.int (1 : Int32)), .val (.int (1 : Int32))] []))
  refine OwnEnd.go (fun _ k => XS.iload X102.here hx rfl (hb hby d15_5) rfl  k) ?_
  show OwnEnd p e below s _ _ _ (T102.setTop (mkF m 7 #[.val (.ref a1), .val (.int p2), .val (.int (0 : Int32)), .val (.int (0 : Int32)), .val (.int (1 : Int32)), .val (.int (1 : Int32)), .val (.int (1 : Int32))] [(.int (1 : Int32))]))
  refine OwnEnd.go (fun _ k => XS.ifYes X102.here hx rfl (pc0 := 7) (pc' := 115) rfl (hb hby d15_7) rfl ((if0 _ _).trans (feq (by decide : ¬ (1 : Int32) = (0 : Int32))).2) (by decide) (by decide) k) ?_
  show OwnEnd p e below s _ _ _ (T102.setTop (mkF m 115 #[.val (.ref a1), .val (.int p2), .val (.int (0 : Int32)), .val (.int (0 : Int32)), .val (.int (1 : Int32)), .val (.int (1 : Int32)), .val (.int (1 : Int32))] []))
  refine OwnEnd.go (fun _ k => XS.aloadN X102.here hx rfl (hb hby d15_115) rfl rfl k) ?_
  show OwnEnd p e below s _ _ _ (T102.setTop (mkF m 116 #[.val (.ref a1), .val (.int p2), .val (.int (0 : Int32)), .val (.int (0 : Int32)), .val (.int (1 : Int32)), .val (.int (1 : Int32)), .val (.int (1 : Int32))] [(.ref a1)]))
  refine OwnEnd.go (fun _ k => XS.iloadN X102.here hx rfl (hb hby d15_116) rfl  k) ?_
  show OwnEnd p e below s _ _ _ (T102.setTop (mkF m 117 #[.val (.ref a1), .val (.int p2), .val (.int (0 : Int32)), .val (.int (0 : Int32)), .val (.int (1 : Int32)), .val (.int (1 : Int32)), .val (.int (1 : Int32))] [(.int p2), (.ref a1)]))
  refine OwnEnd.go (fun _ k => XS.iloadN X102.here hx rfl (hb hby d15_117) rfl  k) ?_
  show OwnEnd p e below s _ _ _ (T102.setTop (mkF m 118 #[.val (.ref a1), .val (.int p2), .val (.int (0 : Int32)), .val (.int (0 : Int32)), .val (.int (1 : Int32)), .val (.int (1 : Int32)), .val (.int (1 : Int32))] [(.int (0 : Int32)), (.int p2), (.ref a1)]))
  obtain ⟨_, T103, L103, X103, hQ103, st103⟩ := ownCallP X102 hx hZ hown ww40 ww42 (ownSel (by decide) ww1 ww42 ww41) ww41 ww2 ww43 (by decide) (rm8d0 l Z a0 hw [] a1 p2 ha ta pa (1 : Int32) cap f0 f1 pf h0 n0 Z0  B0 hbd) e102 E1 0 (by decide) (by decide) (by decide) (by decide) (g := (mkF m 118 #[.val (.ref a1), .val (.int p2), .val (.int (0 : Int32)), .val (.int (0 : Int32)), .val (.int (1 : Int32)), .val (.int (1 : Int32)), .val (.int (1 : Int32))] [(.int (0 : Int32)), (.int p2), (.ref a1)])) rfl (by rw [hml]; rfl) (argsL := [(.int p2), (.int (0 : Int32))]) (rest := []) (lenOf pd15_0 rfl) rfl rfl (by show 2 * 0 + _ ≤ _; exact Nat.le_of_eq rfl) (hb hby d15_118)
  obtain ⟨rfl, N103q, K103q, P104⟩ := hQ103
  have N103 := Fr.app N0 N103q
  have F106 := E1.keep K103q
  have K103 := K0.trans K103q (allS (Or.inl (List.mem_of_getElem? (i := 0) rfl)) (allS (Or.inl (List.mem_of_getElem? (i := 1) rfl)) (allS (Or.inl (List.mem_of_getElem? (i := 2) rfl)) (allS (Or.inl (List.mem_of_getElem? (i := 3) rfl)) all0))))
  have Y103 := Nat.le_trans Z0 K103q.1
  refine OwnEnd.go (fun _ k => st103 _ k) ?_
  show OwnEnd p e below s _ _ _ (T103.setTop (mkF m 121 #[.val (.ref a1), .val (.int p2), .val (.int (0 : Int32)), .val (.int (0 : Int32)), .val (.int (1 : Int32)), .val (.int (1 : Int32)), .val (.int (1 : Int32))] []))
  refine ownRetV X103 hx hlk hret (hb hby d15_121) (by decide) (by decide) ?_
  show Q15 Z a1 p2 ha ta pa cap f0 f1 pf h0 n0 _ T103.heap _
  skip
  exact ⟨rfl, N103, K103, P104⟩
theorem d5z0_0 : decode prog_28_method_2_code 0 = .ok (.aload_n 0, 1) := by decide +kernel
theorem d5z0_1 : decode prog_28_method_2_code 1 = .ok (.getfield 24, 3) := by decide +kernel
theorem d5z0_4 : decode prog_28_method_2_code 4 = .ok (.ifCond .ne 7, 3) := by decide +kernel
theorem d5z0_7 : decode prog_28_method_2_code 7 = .ok (.iconst 1, 1) := by decide +kernel
theorem d5z0_8 : decode prog_28_method_2_code 8 = .ok (.goto 4, 3) := by decide +kernel
theorem d5z0_12 : decode prog_28_method_2_code 12 = .ok (.ireturn, 1) := by decide +kernel
theorem pn_5z0 : plainName "com/example/volens/volens/core/agent/TurnQueue" = true := by first | (simp [plainName, overriddenIn]; done) | decide +kernel
theorem ef_5z0 (m : MethodId) (x0 : Addr) : entryFrame m #[(.ref x0)] 1 = mkF m 0 #[.val (.ref x0)] [] := by first | (simp [entryFrame, mkF, argsToLocals, Value.category]; done) | rfl
def Q5z0 (Z : State) (a1 : Addr) (ha : Addr) (ta : Addr) (pa : Addr) (cap : Int32) (f0 : Int32) (f1 : Int32) (pf : (Nat → Int32)) (h0 : Heap) (n0 : Nat) (v : Option Value) (h : Heap) (L : List Loc) : Prop := v = some (.int (1 : Int32)) ∧ Fr n0 L ∧ h = h0
set_option maxRecDepth 65536 in
set_option maxHeartbeats 40000000 in
theorem rm5z0 (l : Launch) (Z : State) (a0 : Array Value) (hw : ∀ d ∈ tables_1, d.before a0 Z = true) (ws : List Jvm.Cond) (a1 : Addr) (ha : Addr) (ta : Addr) (pa : Addr) (cap : Int32) (f0 : Int32) (f1 : Int32) (pf : (Nat → Int32)) (h0 : Heap) (n0 : Nat) (Z0 : n0 ≤ h0.size) (B0 : ownTQ Z h0 n0 a1 ha ta pa (0 : Int32) cap f0 f1 pf) :
    MetFree l (⟨"com/example/volens/volens/core/agent/TurnQueue", "isEmpty", "()Z"⟩ : MethodName) (head1 (Jvm.Cond.code (⟨"com/example/volens/volens/core/agent/TurnQueue", "isEmpty", "()Z"⟩ : MethodName) prog_28_method_2_code 1 (some .boolean) :: ws) ({ frames := 0, cells := 0, slots := 0, locals := 0 } : Room)) (fun a U => a = #[(.ref a1)] ∧ Z.Warmed39 U.vm ∧ U.heap = h0) (fun _ _ _ _ _ => True) (fun _ U o U' => ∃ v L, o = .returned v ∧ Q5z0 Z a1 ha ta pa cap f0 f1 pf h0 n0 v U'.heap L ∧ FrameEnd U o U' L ({ frames := 0, cells := 0, slots := 0, locals := 0 } : Room).cells ({ frames := 0, cells := 0, slots := 0, locals := 0 } : Room).slots) := by
  have ww29 := hw _ (List.mem_of_getElem? (i := 29) rfl)
  refine MetFree.of_bodySF (plainFor_of_name pn_5z0) hisR ?_
  intro p e s m args below meth c s₁ Bd hml0 hP hK
  obtain ⟨rfl, hZ, hh⟩ := hP
  have hx := Bd.exec
  have hby := Bd.bytes
  have hlk : meth.locks = false := Bd.notSynchronized
  have hret := Bd.returns
  have hml : c.maxLocals = 1 := hml0
  have hown : s.vm.findClass "com/example/volens/volens/core/agent/TurnQueue" = some m.cls := findClass_of_methodNamed Bd.named
  have hnm := (name_of_methodNamed Bd.named Bd.method).1
  have X0 : Stand p l e ({ frames := 0, cells := 0, slots := 0, locals := 0 } : Room) s m #[(.ref a1)] below meth c s₁ [] 0 0 := Stand.of_body Bd
  have e0 : s₁.heap = h0 := by rw [← hh, Bd.state]; rfl
  have N0 := Fr.nil n0
  have K0 := Keep.refl h0 []
  show OwnEnd p e below s (Q5z0 Z a1 ha ta pa cap f0 f1 pf h0 n0) ({ frames := 0, cells := 0, slots := 0, locals := 0 } : Room).cells ({ frames := 0, cells := 0, slots := 0, locals := 0 } : Room).slots _
  refine OwnEnd.go (fun _ k => castTop (ef_5z0 m a1) k) ?_
  have B_101 := B0
  obtain ⟨ga_101, gh_101, gt_101, gp_101, n1_101, n2_101, n3_101, n4_101, n5_101, n6_101, E1_101, F_h_101, F_t_101, F_p_101, F_s_101, ⟨kh_101, V_h_101⟩, V_t_101, V_p_101⟩ := B_101
  show OwnEnd p e below s _ _ _ (s₁.setTop (mkF m 0 #[.val (.ref a1)] []))
  refine OwnEnd.go (fun _ k => XS.aloadN X0.here hx rfl (hb hby d5z0_0) rfl rfl k) ?_
  show OwnEnd p e below s _ _ _ (s₁.setTop (mkF m 1 #[.val (.ref a1)] [(.ref a1)]))
  obtain ⟨T102, X102, e102, st102⟩ := getF X0 hx hZ hown (host := "") (Or.inl ww29) Via.refl e0 F_s_101 (g := (mkF m 1 #[.val (.ref a1)] [(.ref a1)])) rfl rfl (hb hby d5z0_1)
  refine OwnEnd.go (fun _ k => st102 _ k) ?_
  show OwnEnd p e below s _ _ _ (T102.setTop (mkF m 4 #[.val (.ref a1)] [(.int (0 : Int32))]))
  refine OwnEnd.go (fun _ k => XS.ifNo X102.here hx rfl (hb hby d5z0_4) rfl ((if0 _ _).trans (teq (by decide : (0 : Int32) = (0 : Int32))).2) k) ?_
  show OwnEnd p e below s _ _ _ (T102.setTop (mkF m 7 #[.val (.ref a1)] []))
  refine OwnEnd.go (fun _ k => XS.iconst X102.here hx rfl (hb hby d5z0_7) k) ?_
  show OwnEnd p e below s _ _ _ (T102.setTop (mkF m 8 #[.val (.ref a1)] [(.int (1 : Int32))]))
  refine OwnEnd.go (fun _ k => XS.goto X102.here hx rfl (pc0 := 8) (pc' := 12) rfl (hb hby d5z0_8) (by decide) (by decide) k) ?_
  show OwnEnd p e below s _ _ _ (T102.setTop (mkF m 12 #[.val (.ref a1)] [(.int (1 : Int32))]))
  refine ownRetZ X102 hx hlk hret (hb hby d5z0_12) (by decide) (by decide) (1 : Int32) (by decide) ?_
  show Q5z0 Z a1 ha ta pa cap f0 f1 pf h0 n0 _ T102.heap _
  rw [e102]
  exact ⟨rfl, N0, rfl⟩
theorem d6s0c16_0 : decode prog_28_method_4_code 0 = .ok (.iload_n 1, 1) := by decide +kernel
theorem d6s0c16_1 : decode prog_28_method_4_code 1 = .ok (.aload_n 0, 1) := by decide +kernel
theorem d6s0c16_2 : decode prog_28_method_4_code 2 = .ok (.getfield 21, 3) := by decide +kernel
theorem d6s0c16_5 : decode prog_28_method_4_code 5 = .ok (.arraylength, 1) := by decide +kernel
theorem d6s0c16_6 : decode prog_28_method_4_code 6 = .ok (.if_icmp .lt 8, 3) := by decide +kernel
theorem d6s0c16_14 : decode prog_28_method_4_code 14 = .ok (.aload_n 0, 1) := by decide +kernel
theorem d6s0c16_15 : decode prog_28_method_4_code 15 = .ok (.getfield 21, 3) := by decide +kernel
theorem d6s0c16_18 : decode prog_28_method_4_code 18 = .ok (.iload_n 1, 1) := by decide +kernel
theorem d6s0c16_19 : decode prog_28_method_4_code 19 = .ok (.iaload, 1) := by decide +kernel
theorem d6s0c16_20 : decode prog_28_method_4_code 20 = .ok (.iconst (-1), 1) := by decide +kernel
theorem d6s0c16_21 : decode prog_28_method_4_code 21 = .ok (.if_icmp .ne 63, 3) := by decide +kernel
theorem d6s0c16_24 : decode prog_28_method_4_code 24 = .ok (.aload_n 0, 1) := by decide +kernel
theorem d6s0c16_25 : decode prog_28_method_4_code 25 = .ok (.getfield 24, 3) := by decide +kernel
theorem d6s0c16_28 : decode prog_28_method_4_code 28 = .ok (.aload_n 0, 1) := by decide +kernel
theorem d6s0c16_29 : decode prog_28_method_4_code 29 = .ok (.getfield 9, 3) := by decide +kernel
theorem d6s0c16_32 : decode prog_28_method_4_code 32 = .ok (.arraylength, 1) := by decide +kernel
theorem d6s0c16_33 : decode prog_28_method_4_code 33 = .ok (.if_icmp .ne 20, 3) := by decide +kernel
theorem d6s0c16_53 : decode prog_28_method_4_code 53 = .ok (.aload_n 0, 1) := by decide +kernel
theorem d6s0c16_54 : decode prog_28_method_4_code 54 = .ok (.getfield 13, 3) := by decide +kernel
theorem d6s0c16_57 : decode prog_28_method_4_code 57 = .ok (.iload_n 1, 1) := by decide +kernel
theorem d6s0c16_58 : decode prog_28_method_4_code 58 = .ok (.lload_n 2, 1) := by decide +kernel
theorem d6s0c16_59 : decode prog_28_method_4_code 59 = .ok (.lastore, 1) := by decide +kernel
theorem d6s0c16_60 : decode prog_28_method_4_code 60 = .ok (.aload_n 0, 1) := by decide +kernel
theorem d6s0c16_61 : decode prog_28_method_4_code 61 = .ok (.dup, 1) := by decide +kernel
theorem d6s0c16_62 : decode prog_28_method_4_code 62 = .ok (.getfield 24, 3) := by decide +kernel
theorem d6s0c16_65 : decode prog_28_method_4_code 65 = .ok (.iconst 1, 1) := by decide +kernel
theorem d6s0c16_66 : decode prog_28_method_4_code 66 = .ok (.iadd, 1) := by decide +kernel
theorem d6s0c16_67 : decode prog_28_method_4_code 67 = .ok (.putfield 24, 3) := by decide +kernel
theorem d6s0c16_70 : decode prog_28_method_4_code 70 = .ok (.aload_n 0, 1) := by decide +kernel
theorem d6s0c16_71 : decode prog_28_method_4_code 71 = .ok (.iload_n 1, 1) := by decide +kernel
theorem d6s0c16_72 : decode prog_28_method_4_code 72 = .ok (.aload_n 0, 1) := by decide +kernel
theorem d6s0c16_73 : decode prog_28_method_4_code 73 = .ok (.getfield 24, 3) := by decide +kernel
theorem d6s0c16_76 : decode prog_28_method_4_code 76 = .ok (.iconst 1, 1) := by decide +kernel
theorem d6s0c16_77 : decode prog_28_method_4_code 77 = .ok (.isub, 1) := by decide +kernel
theorem d6s0c16_78 : decode prog_28_method_4_code 78 = .ok (.invokevirtual 38, 3) := by decide +kernel
theorem d6s0c16_81 : decode prog_28_method_4_code 81 = .ok (.goto 32, 3) := by decide +kernel
theorem d6s0c16_113 : decode prog_28_method_4_code 113 = .ok (.return_, 1) := by decide +kernel
theorem pn_6s0c16 : plainName "com/example/volens/volens/core/agent/TurnQueue" = true := by first | (simp [plainName, overriddenIn]; done) | decide +kernel
theorem pd6s0c16_0 : parseMethodDescriptor "(II)V" = some ⟨[.int, .int], none⟩ := by decide +kernel
theorem ef_6s0c16 (m : MethodId) (x0 : Addr) (x1 : Int32) (x2 : Int64) : entryFrame m #[(.ref x0), (.int x1), (.long x2)] 4 = mkF m 0 #[.val (.ref x0), .val (.int x1), .val (.long x2), .second] [] := by first | (simp [entryFrame, mkF, argsToLocals, Value.category]; done) | rfl
def Q6s0c16 (Z : State) (a1 : Addr) (p2 : Int32) (q3 : Int64) (ha : Addr) (ta : Addr) (pa : Addr) (f0 : Int32) (f1 : Int32) (pf : (Nat → Int32)) (h0 : Heap) (n0 : Nat) (v : Option Value) (h : Heap) (L : List Loc) : Prop := v = none ∧ Fr n0 L ∧ Keep h0 h [a1, ha, ta, pa] ∧ ownTQ Z h n0 a1 ha ta pa (1 : Int32) (16 : Int32) p2 f1 (own_upd pf p2 (0 : Int32))
set_option maxRecDepth 65536 in
set_option maxHeartbeats 40000000 in
theorem rm6s0c16 (l : Launch) (Z : State) (a0 : Array Value) (hw : ∀ d ∈ tables_1, d.before a0 Z = true) (ws : List Jvm.Cond) (a1 : Addr) (p2 : Int32) (q3 : Int64) (ha : Addr) (ta : Addr) (pa : Addr) (f0 : Int32) (f1 : Int32) (pf : (Nat → Int32)) (h0 : Heap) (n0 : Nat) (Z0 : n0 ≤ h0.size) (B0 : ownTQ Z h0 n0 a1 ha ta pa (0 : Int32) (16 : Int32) f0 f1 pf) (hbd : (¬ p2 < 0 ∧ p2 < (16 : Int32))) (hq : pf (p2).toNatClampNeg = (-1 : Int32)) :
    MetFree l (⟨"com/example/volens/volens/core/agent/TurnQueue", "set", "(IJ)V"⟩ : MethodName) (head1 (Jvm.Cond.code (⟨"com/example/volens/volens/core/agent/TurnQueue", "set", "(IJ)V"⟩ : MethodName) prog_28_method_4_code 4 none :: ws) ({ frames := 3, cells := 0, slots := 0, locals := 48 } : Room)) (fun a U => a = #[(.ref a1), (.int p2), (.long q3)] ∧ Z.Warmed39 U.vm ∧ U.heap = h0) (fun _ _ _ _ _ => True) (fun _ U o U' => ∃ v L, o = .returned v ∧ Q6s0c16 Z a1 p2 q3 ha ta pa f0 f1 pf h0 n0 v U'.heap L ∧ FrameEnd U o U' L ({ frames := 3, cells := 0, slots := 0, locals := 48 } : Room).cells ({ frames := 3, cells := 0, slots := 0, locals := 48 } : Room).slots) := by
  have ww1 := hw _ (List.mem_of_getElem? (i := 1) rfl)
  have ww2 := hw _ (List.mem_of_getElem? (i := 2) rfl)
  have ww10 := hw _ (List.mem_of_getElem? (i := 10) rfl)
  have ww11 := hw _ (List.mem_of_getElem? (i := 11) rfl)
  have ww13 := hw _ (List.mem_of_getElem? (i := 13) rfl)
  have ww14 := hw _ (List.mem_of_getElem? (i := 14) rfl)
  have ww22 := hw _ (List.mem_of_getElem? (i := 22) rfl)
  have ww23 := hw _ (List.mem_of_getElem? (i := 23) rfl)
  have ww29 := hw _ (List.mem_of_getElem? (i := 29) rfl)
  have ww30 := hw _ (List.mem_of_getElem? (i := 30) rfl)
  have ww36 := hw _ (List.mem_of_getElem? (i := 36) rfl)
  have ww37 := hw _ (List.mem_of_getElem? (i := 37) rfl)
  have ww38 := hw _ (List.mem_of_getElem? (i := 38) rfl)
  have ww39 := hw _ (List.mem_of_getElem? (i := 39) rfl)
  refine MetFree.of_bodySF (plainFor_of_name pn_6s0c16) hisR ?_
  intro p e s m args below meth c s₁ Bd hml0 hP hK
  obtain ⟨rfl, hZ, hh⟩ := hP
  have hx := Bd.exec
  have hby := Bd.bytes
  have hlk : meth.locks = false := Bd.notSynchronized
  have hret := Bd.returns
  have hml : c.maxLocals = 4 := hml0
  have hown : s.vm.findClass "com/example/volens/volens/core/agent/TurnQueue" = some m.cls := findClass_of_methodNamed Bd.named
  have hnm := (name_of_methodNamed Bd.named Bd.method).1
  have X0 : Stand p l e ({ frames := 3, cells := 0, slots := 0, locals := 48 } : Room) s m #[(.ref a1), (.int p2), (.long q3)] below meth c s₁ [] 0 0 := Stand.of_body Bd
  have e0 : s₁.heap = h0 := by rw [← hh, Bd.state]; rfl
  have N0 := Fr.nil n0
  have K0 := Keep.refl h0 [a1, ha, ta, pa]
  show OwnEnd p e below s (Q6s0c16 Z a1 p2 q3 ha ta pa f0 f1 pf h0 n0) ({ frames := 3, cells := 0, slots := 0, locals := 48 } : Room).cells ({ frames := 3, cells := 0, slots := 0, locals := 48 } : Room).slots _
  refine OwnEnd.go (fun _ k => castTop (ef_6s0c16 m a1 p2 q3) k) ?_
  have B_101 := B0
  obtain ⟨ga_101, gh_101, gt_101, gp_101, n1_101, n2_101, n3_101, n4_101, n5_101, n6_101, E1_101, F_h_101, F_t_101, F_p_101, F_s_101, ⟨kh_101, V_h_101⟩, V_t_101, V_p_101⟩ := B_101
  show OwnEnd p e below s _ _ _ (s₁.setTop (mkF m 0 #[.val (.ref a1), .val (.int p2), .val (.long q3), .second] []))
  refine OwnEnd.go (fun _ k => XS.iloadN X0.here hx rfl (hb hby d6s0c16_0) rfl  k) ?_
  show OwnEnd p e below s _ _ _ (s₁.setTop (mkF m 1 #[.val (.ref a1), .val (.int p2), .val (.long q3), .second] [(.int p2)]))
  refine OwnEnd.go (fun _ k => XS.aloadN X0.here hx rfl (hb hby d6s0c16_1) rfl rfl k) ?_
  show OwnEnd p e below s _ _ _ (s₁.setTop (mkF m 2 #[.val (.ref a1), .val (.int p2), .val (.long q3), .second] [(.ref a1), (.int p2)]))
  obtain ⟨T102, X102, e102, st102⟩ := getF X0 hx hZ hown (host := "") (Or.inl ww22) Via.refl e0 F_p_101 (g := (mkF m 2 #[.val (.ref a1), .val (.int p2), .val (.long q3), .second] [(.ref a1), (.int p2)])) rfl rfl (hb hby d6s0c16_2)
  refine OwnEnd.go (fun _ k => st102 _ k) ?_
  show OwnEnd p e below s _ _ _ (T102.setTop (mkF m 5 #[.val (.ref a1), .val (.int p2), .val (.long q3), .second] [(.ref pa), (.int p2)]))
  refine OwnEnd.go (fun _ k => ownAlen X102 hx hZ e102 V_p_101 (g := (mkF m 5 #[.val (.ref a1), .val (.int p2), .val (.long q3), .second] [(.ref pa), (.int p2)])) rfl rfl (hb hby d6s0c16_5) _ k) ?_
  show OwnEnd p e below s _ _ _ (T102.setTop (mkF m 6 #[.val (.ref a1), .val (.int p2), .val (.long q3), .second] [(.int (16 : Int32)), (.int p2)]))
  refine OwnEnd.go (fun _ k => XS.icmpYes X102.here hx rfl (pc0 := 6) (pc' := 14) rfl (hb hby d6s0c16_6) rfl (tlt hbd.2).1 (by decide) (by decide) k) ?_
  show OwnEnd p e below s _ _ _ (T102.setTop (mkF m 14 #[.val (.ref a1), .val (.int p2), .val (.long q3), .second] []))
  refine OwnEnd.go (fun _ k => XS.aloadN X102.here hx rfl (hb hby d6s0c16_14) rfl rfl k) ?_
  show OwnEnd p e below s _ _ _ (T102.setTop (mkF m 15 #[.val (.ref a1), .val (.int p2), .val (.long q3), .second] [(.ref a1)]))
  obtain ⟨T104, X104, e104, st104⟩ := getF X102 hx hZ hown (host := "") (Or.inl ww22) Via.refl e102 F_p_101 (g := (mkF m 15 #[.val (.ref a1), .val (.int p2), .val (.long q3), .second] [(.ref a1)])) rfl rfl (hb hby d6s0c16_15)
  refine OwnEnd.go (fun _ k => st104 _ k) ?_
  show OwnEnd p e below s _ _ _ (T104.setTop (mkF m 18 #[.val (.ref a1), .val (.int p2), .val (.long q3), .second] [(.ref pa)]))
  refine OwnEnd.go (fun _ k => XS.iloadN X104.here hx rfl (hb hby d6s0c16_18) rfl  k) ?_
  show OwnEnd p e below s _ _ _ (T104.setTop (mkF m 19 #[.val (.ref a1), .val (.int p2), .val (.long q3), .second] [(.int p2), (.ref pa)]))
  refine OwnEnd.go (fun _ k => ownAload X104 hx hZ e104 V_p_101 (j := p2) hbd (g := (mkF m 19 #[.val (.ref a1), .val (.int p2), .val (.long q3), .second] [(.int p2), (.ref pa)])) rfl rfl (hb hby d6s0c16_19) _ k) ?_
  show OwnEnd p e below s _ _ _ (T104.setTop (mkF m 20 #[.val (.ref a1), .val (.int p2), .val (.long q3), .second] [(.int (pf (p2).toNatClampNeg))]))
  refine OwnEnd.go (fun _ k => XS.iconst X104.here hx rfl (hb hby d6s0c16_20) k) ?_
  show OwnEnd p e below s _ _ _ (T104.setTop (mkF m 21 #[.val (.ref a1), .val (.int p2), .val (.long q3), .second] [(.int (-1 : Int32)), (.int (pf (p2).toNatClampNeg))]))
  refine OwnEnd.go (fun _ k => XS.icmpNo X104.here hx rfl (hb hby d6s0c16_21) rfl (teq hq).2 k) ?_
  show OwnEnd p e below s _ _ _ (T104.setTop (mkF m 24 #[.val (.ref a1), .val (.int p2), .val (.long q3), .second] []))
  refine OwnEnd.go (fun _ k => XS.aloadN X104.here hx rfl (hb hby d6s0c16_24) rfl rfl k) ?_
  show OwnEnd p e below s _ _ _ (T104.setTop (mkF m 25 #[.val (.ref a1), .val (.int p2), .val (.long q3), .second] [(.ref a1)]))
  obtain ⟨T106, X106, e106, st106⟩ := getF X104 hx hZ hown (host := "") (Or.inl ww29) Via.refl e104 F_s_101 (g := (mkF m 25 #[.val (.ref a1), .val (.int p2), .val (.long q3), .second] [(.ref a1)])) rfl rfl (hb hby d6s0c16_25)
  refine OwnEnd.go (fun _ k => st106 _ k) ?_
  show OwnEnd p e below s _ _ _ (T106.setTop (mkF m 28 #[.val (.ref a1), .val (.int p2), .val (.long q3), .second] [(.int (0 : Int32))]))
  refine OwnEnd.go (fun _ k => XS.aloadN X106.here hx rfl (hb hby d6s0c16_28) rfl rfl k) ?_
  show OwnEnd p e below s _ _ _ (T106.setTop (mkF m 29 #[.val (.ref a1), .val (.int p2), .val (.long q3), .second] [(.ref a1), (.int (0 : Int32))]))
  obtain ⟨T107, X107, e107, st107⟩ := getF X106 hx hZ hown (host := "") (Or.inl ww10) Via.refl e106 F_h_101 (g := (mkF m 29 #[.val (.ref a1), .val (.int p2), .val (.long q3), .second] [(.ref a1), (.int (0 : Int32))])) rfl rfl (hb hby d6s0c16_29)
  refine OwnEnd.go (fun _ k => st107 _ k) ?_
  show OwnEnd p e below s _ _ _ (T107.setTop (mkF m 32 #[.val (.ref a1), .val (.int p2), .val (.long q3), .second] [(.ref ha), (.int (0 : Int32))]))
  obtain ⟨c108, Ar108, q108, S108, G108, H108, J108⟩ := id V_h_101
  refine OwnEnd.go (fun _ k => ownLen X107 hx hZ e107 Ar108 S108 G108 (g := (mkF m 32 #[.val (.ref a1), .val (.int p2), .val (.long q3), .second] [(.ref ha), (.int (0 : Int32))])) rfl rfl (hb hby d6s0c16_32) _ k) ?_
  show OwnEnd p e below s _ _ _ (T107.setTop (mkF m 33 #[.val (.ref a1), .val (.int p2), .val (.long q3), .second] [(.int (16 : Int32)), (.int (0 : Int32))]))
  refine OwnEnd.go (fun _ k => XS.icmpYes X107.here hx rfl (pc0 := 33) (pc' := 53) rfl (hb hby d6s0c16_33) rfl (feq (by decide : ¬ (0 : Int32) = (16 : Int32))).2 (by decide) (by decide) k) ?_
  show OwnEnd p e below s _ _ _ (T107.setTop (mkF m 53 #[.val (.ref a1), .val (.int p2), .val (.long q3), .second] []))
  refine OwnEnd.go (fun _ k => XS.aloadN X107.here hx rfl (hb hby d6s0c16_53) rfl rfl k) ?_
  show OwnEnd p e below s _ _ _ (T107.setTop (mkF m 54 #[.val (.ref a1), .val (.int p2), .val (.long q3), .second] [(.ref a1)]))
  obtain ⟨T109, X109, e109, st109⟩ := getF X107 hx hZ hown (host := "") (Or.inl ww13) Via.refl e107 F_t_101 (g := (mkF m 54 #[.val (.ref a1), .val (.int p2), .val (.long q3), .second] [(.ref a1)])) rfl rfl (hb hby d6s0c16_54)
  refine OwnEnd.go (fun _ k => st109 _ k) ?_
  show OwnEnd p e below s _ _ _ (T109.setTop (mkF m 57 #[.val (.ref a1), .val (.int p2), .val (.long q3), .second] [(.ref ta)]))
  refine OwnEnd.go (fun _ k => XS.iloadN X109.here hx rfl (hb hby d6s0c16_57) rfl  k) ?_
  show OwnEnd p e below s _ _ _ (T109.setTop (mkF m 58 #[.val (.ref a1), .val (.int p2), .val (.long q3), .second] [(.int p2), (.ref ta)]))
  refine OwnEnd.go (fun _ k => XS.lloadN X109.here hx rfl (hb hby d6s0c16_58) rfl  k) ?_
  show OwnEnd p e below s _ _ _ (T109.setTop (mkF m 59 #[.val (.ref a1), .val (.int p2), .val (.long q3), .second] [(.long q3), (.int p2), (.ref ta)]))
  obtain ⟨T110, h110, X110, e110, W110, V110, st110⟩ := ownLstore X109 hx hZ e109 V_t_101 (j := p2) hbd (g := (mkF m 59 #[.val (.ref a1), .val (.int p2), .val (.long q3), .second] [(.long q3), (.int p2), (.ref ta)])) rfl rfl (hb hby d6s0c16_59)
  have F111 := E1_101.wr W110
  have F112 := F_h_101.other W110 (Or.inl n2_101)
  have F113 := F_t_101.other W110 (Or.inl n2_101)
  have F114 := F_p_101.other W110 (Or.inl n2_101)
  have F115 := F_s_101.other W110 (Or.inl n2_101)
  have F116 := V_h_101.other W110 n4_101
  have F118 := V_p_101.other W110 (Ne.symm n6_101)
  have N110 := Fr.snoc X110 N0 gt_101
  have K110 := K0.wr W110 (Or.inl (List.mem_of_getElem? (i := 2) rfl))
  have Y110 := Nat.le_trans Z0 (Nat.le_of_eq W110.size.symm)
  refine OwnEnd.go (fun _ k => st110 _ k) ?_
  show OwnEnd p e below s _ _ _ (T110.setTop (mkF m 60 #[.val (.ref a1), .val (.int p2), .val (.long q3), .second] []))
  refine OwnEnd.go (fun _ k => XS.aloadN X110.here hx rfl (hb hby d6s0c16_60) rfl rfl k) ?_
  show OwnEnd p e below s _ _ _ (T110.setTop (mkF m 61 #[.val (.ref a1), .val (.int p2), .val (.long q3), .second] [(.ref a1)]))
  refine OwnEnd.go (fun _ k => XS.dup X110.here hx rfl (hb hby d6s0c16_61) rfl rfl k) ?_
  show OwnEnd p e below s _ _ _ (T110.setTop (mkF m 62 #[.val (.ref a1), .val (.int p2), .val (.long q3), .second] [(.ref a1), (.ref a1)]))
  obtain ⟨T119, X119, e119, st119⟩ := getF X110 hx hZ hown (host := "") (Or.inl ww29) Via.refl e110 F115 (g := (mkF m 62 #[.val (.ref a1), .val (.int p2), .val (.long q3), .second] [(.ref a1), (.ref a1)])) rfl rfl (hb hby d6s0c16_62)
  refine OwnEnd.go (fun _ k => st119 _ k) ?_
  show OwnEnd p e below s _ _ _ (T119.setTop (mkF m 65 #[.val (.ref a1), .val (.int p2), .val (.long q3), .second] [(.int (0 : Int32)), (.ref a1)]))
  refine OwnEnd.go (fun _ k => XS.iconst X119.here hx rfl (hb hby d6s0c16_65) k) ?_
  show OwnEnd p e below s _ _ _ (T119.setTop (mkF m 66 #[.val (.ref a1), .val (.int p2), .val (.long q3), .second] [(.int (1 : Int32)), (.int (0 : Int32)), (.ref a1)]))
  refine OwnEnd.go (fun _ k => XS.iadd X119.here hx rfl (hb hby d6s0c16_66) rfl k) ?_
  show OwnEnd p e below s _ _ _ (T119.setTop (mkF m 67 #[.val (.ref a1), .val (.int p2), .val (.long q3), .second] [(.int (1 : Int32)), (.ref a1)]))
  obtain ⟨T120, h120, X120, e120, W120, st120⟩ := putF X119 hx hZ hown (host := "") (Or.inl ww29) Via.refl e119 F115 F111 (Or.inl ww30) ww1 (ty := .int) (by decide) rfl rfl (g := (mkF m 67 #[.val (.ref a1), .val (.int p2), .val (.long q3), .second] [(.int (1 : Int32)), (.ref a1)])) rfl rfl (hb hby d6s0c16_67)
  have F121 := F111.wr W120
  have F122 := F112.other W120 (Or.inr (slot_ne (Or.inl ww11) (Or.inl ww30) (by decide) (t := (.array .int)) (t' := .int) (by decide) (by decide)))
  have F123 := F113.other W120 (Or.inr (slot_ne (Or.inl ww14) (Or.inl ww30) (by decide) (t := (.array .long)) (t' := .int) (by decide) (by decide)))
  have F124 := F114.other W120 (Or.inr (slot_ne (Or.inl ww23) (Or.inl ww30) (by decide) (t := (.array .int)) (t' := .int) (by decide) (by decide)))
  have F125 := F115.same W120
  have F126 := F116.other W120 (Ne.symm n1_101)
  have F127 := F118.other W120 (Ne.symm n3_101)
  have F128 := V110.other W120 (Ne.symm n2_101)
  have N120 := Fr.snoc X120 N110 ga_101
  have K120 := K110.wr W120 (Or.inl (List.mem_of_getElem? (i := 0) rfl))
  have Y120 := Nat.le_trans Y110 (Nat.le_of_eq W120.size.symm)
  refine OwnEnd.go (fun _ k => st120 _ k) ?_
  show OwnEnd p e below s _ _ _ (T120.setTop (mkF m 70 #[.val (.ref a1), .val (.int p2), .val (.long q3), .second] []))
  refine OwnEnd.go (fun _ k => XS.aloadN X120.here hx rfl (hb hby d6s0c16_70) rfl rfl k) ?_
  show OwnEnd p e below s _ _ _ (T120.setTop (mkF m 71 #[.val (.ref a1), .val (.int p2), .val (.long q3), .second] [(.ref a1)]))
  refine OwnEnd.go (fun _ k => XS.iloadN X120.here hx rfl (hb hby d6s0c16_71) rfl  k) ?_
  show OwnEnd p e below s _ _ _ (T120.setTop (mkF m 72 #[.val (.ref a1), .val (.int p2), .val (.long q3), .second] [(.int p2), (.ref a1)]))
  refine OwnEnd.go (fun _ k => XS.aloadN X120.here hx rfl (hb hby d6s0c16_72) rfl rfl k) ?_
  show OwnEnd p e below s _ _ _ (T120.setTop (mkF m 73 #[.val (.ref a1), .val (.int p2), .val (.long q3), .second] [(.ref a1), (.int p2), (.ref a1)]))
  obtain ⟨T129, X129, e129, st129⟩ := getF X120 hx hZ hown (host := "") (Or.inl ww29) Via.refl e120 F125 (g := (mkF m 73 #[.val (.ref a1), .val (.int p2), .val (.long q3), .second] [(.ref a1), (.int p2), (.ref a1)])) rfl rfl (hb hby d6s0c16_73)
  refine OwnEnd.go (fun _ k => st129 _ k) ?_
  show OwnEnd p e below s _ _ _ (T129.setTop (mkF m 76 #[.val (.ref a1), .val (.int p2), .val (.long q3), .second] [(.int (1 : Int32)), (.int p2), (.ref a1)]))
  refine OwnEnd.go (fun _ k => XS.iconst X129.here hx rfl (hb hby d6s0c16_76) k) ?_
  show OwnEnd p e below s _ _ _ (T129.setTop (mkF m 77 #[.val (.ref a1), .val (.int p2), .val (.long q3), .second] [(.int (1 : Int32)), (.int (1 : Int32)), (.int p2), (.ref a1)]))
  refine OwnEnd.go (fun _ k => XS.isub X129.here hx rfl (hb hby d6s0c16_77) rfl k) ?_
  show OwnEnd p e below s _ _ _ (T129.setTop (mkF m 78 #[.val (.ref a1), .val (.int p2), .val (.long q3), .second] [(.int (0 : Int32)), (.int p2), (.ref a1)]))
  have Bn130 : ownTQ Z h120 n0 a1 ha ta pa (1 : Int32) (16 : Int32) f0 f1 pf := ⟨ga_101, gh_101, gt_101, gp_101, n1_101, n2_101, n3_101, n4_101, n5_101, n6_101, F121, F122, F123, F124, F125, ⟨_, F126⟩, F128, F127⟩
  obtain ⟨_, T131, L131, X131, hQ131, st131⟩ := ownCallP X129 hx hZ hown ww36 ww38 (ownSel (by decide) ww1 ww38 ww37) ww37 ww2 ww39 (by decide) (rm7d0 l Z a0 hw [] a1 p2 ha ta pa (1 : Int32) (16 : Int32) f0 f1 pf h120 n0 Y120  Bn130 hbd) e129 F121 0 (by decide) (by decide) (by decide) (by decide) (g := (mkF m 78 #[.val (.ref a1), .val (.int p2), .val (.long q3), .second] [(.int (0 : Int32)), (.int p2), (.ref a1)])) rfl (by rw [hml]; rfl) (argsL := [(.int p2), (.int (0 : Int32))]) (rest := []) (lenOf pd6s0c16_0 rfl) rfl rfl (by show 2 * 0 + _ ≤ _; exact Nat.le_of_eq rfl) (hb hby d6s0c16_78)
  obtain ⟨rfl, N131q, K131q, P132⟩ := hQ131
  have N131 := Fr.app N120 N131q
  have F133 := F121.keep K131q
  have K131 := K120.trans K131q (allS (Or.inl (List.mem_of_getElem? (i := 0) rfl)) (allS (Or.inl (List.mem_of_getElem? (i := 1) rfl)) (allS (Or.inl (List.mem_of_getElem? (i := 2) rfl)) (allS (Or.inl (List.mem_of_getElem? (i := 3) rfl)) all0))))
  have Y131 := Nat.le_trans Y120 K131q.1
  refine OwnEnd.go (fun _ k => st131 _ k) ?_
  show OwnEnd p e below s _ _ _ (T131.setTop (mkF m 81 #[.val (.ref a1), .val (.int p2), .val (.long q3), .second] []))
  refine OwnEnd.go (fun _ k => XS.goto X131.here hx rfl (pc0 := 81) (pc' := 113) rfl (hb hby d6s0c16_81) (by decide) (by decide) k) ?_
  show OwnEnd p e below s _ _ _ (T131.setTop (mkF m 113 #[.val (.ref a1), .val (.int p2), .val (.long q3), .second] []))
  refine ownRetV X131 hx hlk hret (hb hby d6s0c16_113) (by decide) (by decide) ?_
  show Q6s0c16 Z a1 p2 q3 ha ta pa f0 f1 pf h0 n0 _ T131.heap _
  exact ⟨rfl, N131, K131, P132⟩
theorem d5z1_0 : decode prog_28_method_2_code 0 = .ok (.aload_n 0, 1) := by decide +kernel
theorem d5z1_1 : decode prog_28_method_2_code 1 = .ok (.getfield 24, 3) := by decide +kernel
theorem d5z1_4 : decode prog_28_method_2_code 4 = .ok (.ifCond .ne 7, 3) := by decide +kernel
theorem d5z1_11 : decode prog_28_method_2_code 11 = .ok (.iconst 0, 1) := by decide +kernel
theorem d5z1_12 : decode prog_28_method_2_code 12 = .ok (.ireturn, 1) := by decide +kernel
theorem pn_5z1 : plainName "com/example/volens/volens/core/agent/TurnQueue" = true := by first | (simp [plainName, overriddenIn]; done) | decide +kernel
theorem ef_5z1 (m : MethodId) (x0 : Addr) : entryFrame m #[(.ref x0)] 1 = mkF m 0 #[.val (.ref x0)] [] := by first | (simp [entryFrame, mkF, argsToLocals, Value.category]; done) | rfl
def Q5z1 (Z : State) (a1 : Addr) (ha : Addr) (ta : Addr) (pa : Addr) (cap : Int32) (f0 : Int32) (f1 : Int32) (pf : (Nat → Int32)) (h0 : Heap) (n0 : Nat) (v : Option Value) (h : Heap) (L : List Loc) : Prop := v = some (.int (0 : Int32)) ∧ Fr n0 L ∧ h = h0
set_option maxRecDepth 65536 in
set_option maxHeartbeats 40000000 in
theorem rm5z1 (l : Launch) (Z : State) (a0 : Array Value) (hw : ∀ d ∈ tables_1, d.before a0 Z = true) (ws : List Jvm.Cond) (a1 : Addr) (ha : Addr) (ta : Addr) (pa : Addr) (cap : Int32) (f0 : Int32) (f1 : Int32) (pf : (Nat → Int32)) (h0 : Heap) (n0 : Nat) (Z0 : n0 ≤ h0.size) (B0 : ownTQ Z h0 n0 a1 ha ta pa (1 : Int32) cap f0 f1 pf) :
    MetFree l (⟨"com/example/volens/volens/core/agent/TurnQueue", "isEmpty", "()Z"⟩ : MethodName) (head1 (Jvm.Cond.code (⟨"com/example/volens/volens/core/agent/TurnQueue", "isEmpty", "()Z"⟩ : MethodName) prog_28_method_2_code 1 (some .boolean) :: ws) ({ frames := 0, cells := 0, slots := 0, locals := 0 } : Room)) (fun a U => a = #[(.ref a1)] ∧ Z.Warmed39 U.vm ∧ U.heap = h0) (fun _ _ _ _ _ => True) (fun _ U o U' => ∃ v L, o = .returned v ∧ Q5z1 Z a1 ha ta pa cap f0 f1 pf h0 n0 v U'.heap L ∧ FrameEnd U o U' L ({ frames := 0, cells := 0, slots := 0, locals := 0 } : Room).cells ({ frames := 0, cells := 0, slots := 0, locals := 0 } : Room).slots) := by
  have ww29 := hw _ (List.mem_of_getElem? (i := 29) rfl)
  refine MetFree.of_bodySF (plainFor_of_name pn_5z1) hisR ?_
  intro p e s m args below meth c s₁ Bd hml0 hP hK
  obtain ⟨rfl, hZ, hh⟩ := hP
  have hx := Bd.exec
  have hby := Bd.bytes
  have hlk : meth.locks = false := Bd.notSynchronized
  have hret := Bd.returns
  have hml : c.maxLocals = 1 := hml0
  have hown : s.vm.findClass "com/example/volens/volens/core/agent/TurnQueue" = some m.cls := findClass_of_methodNamed Bd.named
  have hnm := (name_of_methodNamed Bd.named Bd.method).1
  have X0 : Stand p l e ({ frames := 0, cells := 0, slots := 0, locals := 0 } : Room) s m #[(.ref a1)] below meth c s₁ [] 0 0 := Stand.of_body Bd
  have e0 : s₁.heap = h0 := by rw [← hh, Bd.state]; rfl
  have N0 := Fr.nil n0
  have K0 := Keep.refl h0 []
  show OwnEnd p e below s (Q5z1 Z a1 ha ta pa cap f0 f1 pf h0 n0) ({ frames := 0, cells := 0, slots := 0, locals := 0 } : Room).cells ({ frames := 0, cells := 0, slots := 0, locals := 0 } : Room).slots _
  refine OwnEnd.go (fun _ k => castTop (ef_5z1 m a1) k) ?_
  have B_101 := B0
  obtain ⟨ga_101, gh_101, gt_101, gp_101, n1_101, n2_101, n3_101, n4_101, n5_101, n6_101, E1_101, F_h_101, F_t_101, F_p_101, F_s_101, ⟨kh_101, V_h_101⟩, V_t_101, V_p_101⟩ := B_101
  show OwnEnd p e below s _ _ _ (s₁.setTop (mkF m 0 #[.val (.ref a1)] []))
  refine OwnEnd.go (fun _ k => XS.aloadN X0.here hx rfl (hb hby d5z1_0) rfl rfl k) ?_
  show OwnEnd p e below s _ _ _ (s₁.setTop (mkF m 1 #[.val (.ref a1)] [(.ref a1)]))
  obtain ⟨T102, X102, e102, st102⟩ := getF X0 hx hZ hown (host := "") (Or.inl ww29) Via.refl e0 F_s_101 (g := (mkF m 1 #[.val (.ref a1)] [(.ref a1)])) rfl rfl (hb hby d5z1_1)
  refine OwnEnd.go (fun _ k => st102 _ k) ?_
  show OwnEnd p e below s _ _ _ (T102.setTop (mkF m 4 #[.val (.ref a1)] [(.int (1 : Int32))]))
  refine OwnEnd.go (fun _ k => XS.ifYes X102.here hx rfl (pc0 := 4) (pc' := 11) rfl (hb hby d5z1_4) rfl ((if0 _ _).trans (feq (by decide : ¬ (1 : Int32) = (0 : Int32))).2) (by decide) (by decide) k) ?_
  show OwnEnd p e below s _ _ _ (T102.setTop (mkF m 11 #[.val (.ref a1)] []))
  refine OwnEnd.go (fun _ k => XS.iconst X102.here hx rfl (hb hby d5z1_11) k) ?_
  show OwnEnd p e below s _ _ _ (T102.setTop (mkF m 12 #[.val (.ref a1)] [(.int (0 : Int32))]))
  refine ownRetZ X102 hx hlk hret (hb hby d5z1_12) (by decide) (by decide) (0 : Int32) (by decide) ?_
  show Q5z1 Z a1 ha ta pa cap f0 f1 pf h0 n0 _ T102.heap _
  rw [e102]
  exact ⟨rfl, N0, rfl⟩
theorem d14z1_0 : decode prog_28_method_5_code 0 = .ok (.aload_n 0, 1) := by decide +kernel
theorem d14z1_1 : decode prog_28_method_5_code 1 = .ok (.getfield 9, 3) := by decide +kernel
theorem d14z1_4 : decode prog_28_method_5_code 4 = .ok (.iconst 0, 1) := by decide +kernel
theorem d14z1_5 : decode prog_28_method_5_code 5 = .ok (.iaload, 1) := by decide +kernel
theorem d14z1_6 : decode prog_28_method_5_code 6 = .ok (.istore_n 1, 1) := by decide +kernel
theorem d14z1_7 : decode prog_28_method_5_code 7 = .ok (.aload_n 0, 1) := by decide +kernel
theorem d14z1_8 : decode prog_28_method_5_code 8 = .ok (.getfield 21, 3) := by decide +kernel
theorem d14z1_11 : decode prog_28_method_5_code 11 = .ok (.iload_n 1, 1) := by decide +kernel
theorem d14z1_12 : decode prog_28_method_5_code 12 = .ok (.iconst (-1), 1) := by decide +kernel
theorem d14z1_13 : decode prog_28_method_5_code 13 = .ok (.iastore, 1) := by decide +kernel
theorem d14z1_14 : decode prog_28_method_5_code 14 = .ok (.aload_n 0, 1) := by decide +kernel
theorem d14z1_15 : decode prog_28_method_5_code 15 = .ok (.dup, 1) := by decide +kernel
theorem d14z1_16 : decode prog_28_method_5_code 16 = .ok (.getfield 24, 3) := by decide +kernel
theorem d14z1_19 : decode prog_28_method_5_code 19 = .ok (.iconst 1, 1) := by decide +kernel
theorem d14z1_20 : decode prog_28_method_5_code 20 = .ok (.isub, 1) := by decide +kernel
theorem d14z1_21 : decode prog_28_method_5_code 21 = .ok (.putfield 24, 3) := by decide +kernel
theorem d14z1_24 : decode prog_28_method_5_code 24 = .ok (.aload_n 0, 1) := by decide +kernel
theorem d14z1_25 : decode prog_28_method_5_code 25 = .ok (.getfield 24, 3) := by decide +kernel
theorem d14z1_28 : decode prog_28_method_5_code 28 = .ok (.ifCond .le 17, 3) := by decide +kernel
theorem d14z1_45 : decode prog_28_method_5_code 45 = .ok (.iload_n 1, 1) := by decide +kernel
theorem d14z1_46 : decode prog_28_method_5_code 46 = .ok (.ireturn, 1) := by decide +kernel
theorem pn_14z1 : plainName "com/example/volens/volens/core/agent/TurnQueue" = true := by first | (simp [plainName, overriddenIn]; done) | decide +kernel
theorem ef_14z1 (m : MethodId) (x0 : Addr) : entryFrame m #[(.ref x0)] 2 = mkF m 0 #[.val (.ref x0), .unset] [] := by first | (simp [entryFrame, mkF, argsToLocals, Value.category]; done) | rfl
def Q14z1 (Z : State) (a1 : Addr) (ha : Addr) (ta : Addr) (pa : Addr) (cap : Int32) (f0 : Int32) (f1 : Int32) (pf : (Nat → Int32)) (h0 : Heap) (n0 : Nat) (v : Option Value) (h : Heap) (L : List Loc) : Prop := v = some (.int f0) ∧ Fr n0 L ∧ Keep h0 h [a1, ha, ta, pa] ∧ ownTQ Z h n0 a1 ha ta pa (0 : Int32) cap f0 f1 (own_upd pf f0 (-1 : Int32))
set_option maxRecDepth 65536 in
set_option maxHeartbeats 40000000 in
theorem rm14z1 (l : Launch) (Z : State) (a0 : Array Value) (hw : ∀ d ∈ tables_1, d.before a0 Z = true) (ws : List Jvm.Cond) (a1 : Addr) (ha : Addr) (ta : Addr) (pa : Addr) (cap : Int32) (f0 : Int32) (f1 : Int32) (pf : (Nat → Int32)) (h0 : Heap) (n0 : Nat) (Z0 : n0 ≤ h0.size) (B0 : ownTQ Z h0 n0 a1 ha ta pa (1 : Int32) cap f0 f1 pf) (hf : (¬ f0 < 0 ∧ f0 < cap)) :
    MetFree l (⟨"com/example/volens/volens/core/agent/TurnQueue", "takeFirst", "()I"⟩ : MethodName) (head1 (Jvm.Cond.code (⟨"com/example/volens/volens/core/agent/TurnQueue", "takeFirst", "()I"⟩ : MethodName) prog_28_method_5_code 2 (some .int) :: ws) ({ frames := 2, cells := 0, slots := 0, locals := 33 } : Room)) (fun a U => a = #[(.ref a1)] ∧ Z.Warmed39 U.vm ∧ U.heap = h0) (fun _ _ _ _ _ => True) (fun _ U o U' => ∃ v L, o = .returned v ∧ Q14z1 Z a1 ha ta pa cap f0 f1 pf h0 n0 v U'.heap L ∧ FrameEnd U o U' L ({ frames := 2, cells := 0, slots := 0, locals := 33 } : Room).cells ({ frames := 2, cells := 0, slots := 0, locals := 33 } : Room).slots) := by
  have ww1 := hw _ (List.mem_of_getElem? (i := 1) rfl)
  have ww10 := hw _ (List.mem_of_getElem? (i := 10) rfl)
  have ww11 := hw _ (List.mem_of_getElem? (i := 11) rfl)
  have ww14 := hw _ (List.mem_of_getElem? (i := 14) rfl)
  have ww22 := hw _ (List.mem_of_getElem? (i := 22) rfl)
  have ww23 := hw _ (List.mem_of_getElem? (i := 23) rfl)
  have ww29 := hw _ (List.mem_of_getElem? (i := 29) rfl)
  have ww30 := hw _ (List.mem_of_getElem? (i := 30) rfl)
  refine MetFree.of_bodySF (plainFor_of_name pn_14z1) hisR ?_
  intro p e s m args below meth c s₁ Bd hml0 hP hK
  obtain ⟨rfl, hZ, hh⟩ := hP
  have hx := Bd.exec
  have hby := Bd.bytes
  have hlk : meth.locks = false := Bd.notSynchronized
  have hret := Bd.returns
  have hml : c.maxLocals = 2 := hml0
  have hown : s.vm.findClass "com/example/volens/volens/core/agent/TurnQueue" = some m.cls := findClass_of_methodNamed Bd.named
  have hnm := (name_of_methodNamed Bd.named Bd.method).1
  have X0 : Stand p l e ({ frames := 2, cells := 0, slots := 0, locals := 33 } : Room) s m #[(.ref a1)] below meth c s₁ [] 0 0 := Stand.of_body Bd
  have e0 : s₁.heap = h0 := by rw [← hh, Bd.state]; rfl
  have N0 := Fr.nil n0
  have K0 := Keep.refl h0 [a1, ha, ta, pa]
  show OwnEnd p e below s (Q14z1 Z a1 ha ta pa cap f0 f1 pf h0 n0) ({ frames := 2, cells := 0, slots := 0, locals := 33 } : Room).cells ({ frames := 2, cells := 0, slots := 0, locals := 33 } : Room).slots _
  refine OwnEnd.go (fun _ k => castTop (ef_14z1 m a1) k) ?_
  have B_101 := B0
  obtain ⟨ga_101, gh_101, gt_101, gp_101, n1_101, n2_101, n3_101, n4_101, n5_101, n6_101, E1_101, F_h_101, F_t_101, F_p_101, F_s_101, ⟨kh_101, V_h_101⟩, V_t_101, V_p_101⟩ := B_101
  show OwnEnd p e below s _ _ _ (s₁.setTop (mkF m 0 #[.val (.ref a1), .unset] []))
  refine OwnEnd.go (fun _ k => XS.aloadN X0.here hx rfl (hb hby d14z1_0) rfl rfl k) ?_
  show OwnEnd p e below s _ _ _ (s₁.setTop (mkF m 1 #[.val (.ref a1), .unset] [(.ref a1)]))
  obtain ⟨T102, X102, e102, st102⟩ := getF X0 hx hZ hown (host := "") (Or.inl ww10) Via.refl e0 F_h_101 (g := (mkF m 1 #[.val (.ref a1), .unset] [(.ref a1)])) rfl rfl (hb hby d14z1_1)
  refine OwnEnd.go (fun _ k => st102 _ k) ?_
  show OwnEnd p e below s _ _ _ (T102.setTop (mkF m 4 #[.val (.ref a1), .unset] [(.ref ha)]))
  refine OwnEnd.go (fun _ k => XS.iconst X102.here hx rfl (hb hby d14z1_4) k) ?_
  show OwnEnd p e below s _ _ _ (T102.setTop (mkF m 5 #[.val (.ref a1), .unset] [(.int (0 : Int32)), (.ref ha)]))
  obtain ⟨c103, Ar103, q103, S103, G103, H103, J103⟩ := id V_h_101
  have i103 := inb_of (j := (0 : Int32)) S103 ⟨by decide, by decide⟩
  refine OwnEnd.go (fun _ k => X102.iaload hx (j := (0 : Int32)) (v := (.int f0)) (by rw [e102]; exact Ar103.1) (State.isArrayOf_alike hZ.alike Ar103.2.1) Ar103.2.2 i103 (Has.at H103 i103 rfl) (g := (mkF m 5 #[.val (.ref a1), .unset] [(.int (0 : Int32)), (.ref ha)])) rfl rfl (hb hby d14z1_5) _ k) ?_
  show OwnEnd p e below s _ _ _ (T102.setTop (mkF m 6 #[.val (.ref a1), .unset] [(.int f0)]))
  refine OwnEnd.go (fun _ k => XS.istoreN X102.here hx rfl (hb hby d14z1_6) rfl  (l' := #[.val (.ref a1), .val (.int f0)]) rfl k) ?_
  show OwnEnd p e below s _ _ _ (T102.setTop (mkF m 7 #[.val (.ref a1), .val (.int f0)] []))
  refine OwnEnd.go (fun _ k => XS.aloadN X102.here hx rfl (hb hby d14z1_7) rfl rfl k) ?_
  show OwnEnd p e below s _ _ _ (T102.setTop (mkF m 8 #[.val (.ref a1), .val (.int f0)] [(.ref a1)]))
  obtain ⟨T104, X104, e104, st104⟩ := getF X102 hx hZ hown (host := "") (Or.inl ww22) Via.refl e102 F_p_101 (g := (mkF m 8 #[.val (.ref a1), .val (.int f0)] [(.ref a1)])) rfl rfl (hb hby d14z1_8)
  refine OwnEnd.go (fun _ k => st104 _ k) ?_
  show OwnEnd p e below s _ _ _ (T104.setTop (mkF m 11 #[.val (.ref a1), .val (.int f0)] [(.ref pa)]))
  refine OwnEnd.go (fun _ k => XS.iloadN X104.here hx rfl (hb hby d14z1_11) rfl  k) ?_
  show OwnEnd p e below s _ _ _ (T104.setTop (mkF m 12 #[.val (.ref a1), .val (.int f0)] [(.int f0), (.ref pa)]))
  refine OwnEnd.go (fun _ k => XS.iconst X104.here hx rfl (hb hby d14z1_12) k) ?_
  show OwnEnd p e below s _ _ _ (T104.setTop (mkF m 13 #[.val (.ref a1), .val (.int f0)] [(.int (-1 : Int32)), (.int f0), (.ref pa)]))
  obtain ⟨T105, h105, X105, e105, W105, V105, st105⟩ := ownAstore X104 hx hZ e104 V_p_101 (j := f0) hf (g := (mkF m 13 #[.val (.ref a1), .val (.int f0)] [(.int (-1 : Int32)), (.int f0), (.ref pa)])) rfl rfl (hb hby d14z1_13)
  have F106 := E1_101.wr W105
  have F107 := F_h_101.other W105 (Or.inl n3_101)
  have F108 := F_t_101.other W105 (Or.inl n3_101)
  have F109 := F_p_101.other W105 (Or.inl n3_101)
  have F110 := F_s_101.other W105 (Or.inl n3_101)
  have F111 := V_h_101.other W105 n5_101
  have F112 := V_t_101.other W105 n6_101
  have N105 := Fr.snoc X105 N0 gp_101
  have K105 := K0.wr W105 (Or.inl (List.mem_of_getElem? (i := 3) rfl))
  have Y105 := Nat.le_trans Z0 (Nat.le_of_eq W105.size.symm)
  refine OwnEnd.go (fun _ k => st105 _ k) ?_
  show OwnEnd p e below s _ _ _ (T105.setTop (mkF m 14 #[.val (.ref a1), .val (.int f0)] []))
  refine OwnEnd.go (fun _ k => XS.aloadN X105.here hx rfl (hb hby d14z1_14) rfl rfl k) ?_
  show OwnEnd p e below s _ _ _ (T105.setTop (mkF m 15 #[.val (.ref a1), .val (.int f0)] [(.ref a1)]))
  refine OwnEnd.go (fun _ k => XS.dup X105.here hx rfl (hb hby d14z1_15) rfl rfl k) ?_
  show OwnEnd p e below s _ _ _ (T105.setTop (mkF m 16 #[.val (.ref a1), .val (.int f0)] [(.ref a1), (.ref a1)]))
  obtain ⟨T114, X114, e114, st114⟩ := getF X105 hx hZ hown (host := "") (Or.inl ww29) Via.refl e105 F110 (g := (mkF m 16 #[.val (.ref a1), .val (.int f0)] [(.ref a1), (.ref a1)])) rfl rfl (hb hby d14z1_16)
  refine OwnEnd.go (fun _ k => st114 _ k) ?_
  show OwnEnd p e below s _ _ _ (T114.setTop (mkF m 19 #[.val (.ref a1), .val (.int f0)] [(.int (1 : Int32)), (.ref a1)]))
  refine OwnEnd.go (fun _ k => XS.iconst X114.here hx rfl (hb hby d14z1_19) k) ?_
  show OwnEnd p e below s _ _ _ (T114.setTop (mkF m 20 #[.val (.ref a1), .val (.int f0)] [(.int (1 : Int32)), (.int (1 : Int32)), (.ref a1)]))
  refine OwnEnd.go (fun _ k => XS.isub X114.here hx rfl (hb hby d14z1_20) rfl k) ?_
  show OwnEnd p e below s _ _ _ (T114.setTop (mkF m 21 #[.val (.ref a1), .val (.int f0)] [(.int (0 : Int32)), (.ref a1)]))
  obtain ⟨T115, h115, X115, e115, W115, st115⟩ := putF X114 hx hZ hown (host := "") (Or.inl ww29) Via.refl e114 F110 F106 (Or.inl ww30) ww1 (ty := .int) (by decide) rfl rfl (g := (mkF m 21 #[.val (.ref a1), .val (.int f0)] [(.int (0 : Int32)), (.ref a1)])) rfl rfl (hb hby d14z1_21)
  have F116 := F106.wr W115
  have F117 := F107.other W115 (Or.inr (slot_ne (Or.inl ww11) (Or.inl ww30) (by decide) (t := (.array .int)) (t' := .int) (by decide) (by decide)))
  have F118 := F108.other W115 (Or.inr (slot_ne (Or.inl ww14) (Or.inl ww30) (by decide) (t := (.array .long)) (t' := .int) (by decide) (by decide)))
  have F119 := F109.other W115 (Or.inr (slot_ne (Or.inl ww23) (Or.inl ww30) (by decide) (t := (.array .int)) (t' := .int) (by decide) (by decide)))
  have F120 := F110.same W115
  have F121 := F111.other W115 (Ne.symm n1_101)
  have F122 := F112.other W115 (Ne.symm n2_101)
  have F123 := V105.other W115 (Ne.symm n3_101)
  have N115 := Fr.snoc X115 N105 ga_101
  have K115 := K105.wr W115 (Or.inl (List.mem_of_getElem? (i := 0) rfl))
  have Y115 := Nat.le_trans Y105 (Nat.le_of_eq W115.size.symm)
  refine OwnEnd.go (fun _ k => st115 _ k) ?_
  show OwnEnd p e below s _ _ _ (T115.setTop (mkF m 24 #[.val (.ref a1), .val (.int f0)] []))
  refine OwnEnd.go (fun _ k => XS.aloadN X115.here hx rfl (hb hby d14z1_24) rfl rfl k) ?_
  show OwnEnd p e below s _ _ _ (T115.setTop (mkF m 25 #[.val (.ref a1), .val (.int f0)] [(.ref a1)]))
  obtain ⟨T124, X124, e124, st124⟩ := getF X115 hx hZ hown (host := "") (Or.inl ww29) Via.refl e115 F120 (g := (mkF m 25 #[.val (.ref a1), .val (.int f0)] [(.ref a1)])) rfl rfl (hb hby d14z1_25)
  refine OwnEnd.go (fun _ k => st124 _ k) ?_
  show OwnEnd p e below s _ _ _ (T124.setTop (mkF m 28 #[.val (.ref a1), .val (.int f0)] [(.int (0 : Int32))]))
  refine OwnEnd.go (fun _ k => XS.ifYes X124.here hx rfl (pc0 := 28) (pc' := 45) rfl (hb hby d14z1_28) rfl ((if0 _ _).trans (flt (by decide : ¬ (0 : Int32) < (0 : Int32))).2.2.2) (by decide) (by decide) k) ?_
  show OwnEnd p e below s _ _ _ (T124.setTop (mkF m 45 #[.val (.ref a1), .val (.int f0)] []))
  refine OwnEnd.go (fun _ k => XS.iloadN X124.here hx rfl (hb hby d14z1_45) rfl  k) ?_
  show OwnEnd p e below s _ _ _ (T124.setTop (mkF m 46 #[.val (.ref a1), .val (.int f0)] [(.int f0)]))
  refine ownRetI X124 hx hlk hret (hb hby d14z1_46) (by decide) (by decide) ?_
  have Bn125 : ownTQ Z h115 n0 a1 ha ta pa (0 : Int32) cap f0 f1 (own_upd pf f0 (-1 : Int32)) := ⟨ga_101, gh_101, gt_101, gp_101, n1_101, n2_101, n3_101, n4_101, n5_101, n6_101, F116, F117, F118, F119, F120, ⟨_, F121⟩, F122, F123⟩
  show Q14z1 Z a1 ha ta pa cap f0 f1 pf h0 n0 _ T124.heap _
  rw [e124]
  exact ⟨rfl, N115, K115, Bn125⟩
theorem d6s0c16g_0 : decode prog_28_method_4_code 0 = .ok (.iload_n 1, 1) := by decide +kernel
theorem d6s0c16g_1 : decode prog_28_method_4_code 1 = .ok (.aload_n 0, 1) := by decide +kernel
theorem d6s0c16g_2 : decode prog_28_method_4_code 2 = .ok (.getfield 21, 3) := by decide +kernel
theorem d6s0c16g_5 : decode prog_28_method_4_code 5 = .ok (.arraylength, 1) := by decide +kernel
theorem d6s0c16g_6 : decode prog_28_method_4_code 6 = .ok (.if_icmp .lt 8, 3) := by decide +kernel
theorem d6s0c16g_9 : decode prog_28_method_4_code 9 = .ok (.aload_n 0, 1) := by decide +kernel
theorem d6s0c16g_10 : decode prog_28_method_4_code 10 = .ok (.iload_n 1, 1) := by decide +kernel
theorem d6s0c16g_11 : decode prog_28_method_4_code 11 = .ok (.invokevirtual 28, 3) := by decide +kernel
theorem d6s0c16g_14 : decode prog_28_method_4_code 14 = .ok (.aload_n 0, 1) := by decide +kernel
theorem d6s0c16g_15 : decode prog_28_method_4_code 15 = .ok (.getfield 21, 3) := by decide +kernel
theorem d6s0c16g_18 : decode prog_28_method_4_code 18 = .ok (.iload_n 1, 1) := by decide +kernel
theorem d6s0c16g_19 : decode prog_28_method_4_code 19 = .ok (.iaload, 1) := by decide +kernel
theorem d6s0c16g_20 : decode prog_28_method_4_code 20 = .ok (.iconst (-1), 1) := by decide +kernel
theorem d6s0c16g_21 : decode prog_28_method_4_code 21 = .ok (.if_icmp .ne 63, 3) := by decide +kernel
theorem d6s0c16g_24 : decode prog_28_method_4_code 24 = .ok (.aload_n 0, 1) := by decide +kernel
theorem d6s0c16g_25 : decode prog_28_method_4_code 25 = .ok (.getfield 24, 3) := by decide +kernel
theorem d6s0c16g_28 : decode prog_28_method_4_code 28 = .ok (.aload_n 0, 1) := by decide +kernel
theorem d6s0c16g_29 : decode prog_28_method_4_code 29 = .ok (.getfield 9, 3) := by decide +kernel
theorem d6s0c16g_32 : decode prog_28_method_4_code 32 = .ok (.arraylength, 1) := by decide +kernel
theorem d6s0c16g_33 : decode prog_28_method_4_code 33 = .ok (.if_icmp .ne 20, 3) := by decide +kernel
theorem d6s0c16g_53 : decode prog_28_method_4_code 53 = .ok (.aload_n 0, 1) := by decide +kernel
theorem d6s0c16g_54 : decode prog_28_method_4_code 54 = .ok (.getfield 13, 3) := by decide +kernel
theorem d6s0c16g_57 : decode prog_28_method_4_code 57 = .ok (.iload_n 1, 1) := by decide +kernel
theorem d6s0c16g_58 : decode prog_28_method_4_code 58 = .ok (.lload_n 2, 1) := by decide +kernel
theorem d6s0c16g_59 : decode prog_28_method_4_code 59 = .ok (.lastore, 1) := by decide +kernel
theorem d6s0c16g_60 : decode prog_28_method_4_code 60 = .ok (.aload_n 0, 1) := by decide +kernel
theorem d6s0c16g_61 : decode prog_28_method_4_code 61 = .ok (.dup, 1) := by decide +kernel
theorem d6s0c16g_62 : decode prog_28_method_4_code 62 = .ok (.getfield 24, 3) := by decide +kernel
theorem d6s0c16g_65 : decode prog_28_method_4_code 65 = .ok (.iconst 1, 1) := by decide +kernel
theorem d6s0c16g_66 : decode prog_28_method_4_code 66 = .ok (.iadd, 1) := by decide +kernel
theorem d6s0c16g_67 : decode prog_28_method_4_code 67 = .ok (.putfield 24, 3) := by decide +kernel
theorem d6s0c16g_70 : decode prog_28_method_4_code 70 = .ok (.aload_n 0, 1) := by decide +kernel
theorem d6s0c16g_71 : decode prog_28_method_4_code 71 = .ok (.iload_n 1, 1) := by decide +kernel
theorem d6s0c16g_72 : decode prog_28_method_4_code 72 = .ok (.aload_n 0, 1) := by decide +kernel
theorem d6s0c16g_73 : decode prog_28_method_4_code 73 = .ok (.getfield 24, 3) := by decide +kernel
theorem d6s0c16g_76 : decode prog_28_method_4_code 76 = .ok (.iconst 1, 1) := by decide +kernel
theorem d6s0c16g_77 : decode prog_28_method_4_code 77 = .ok (.isub, 1) := by decide +kernel
theorem d6s0c16g_78 : decode prog_28_method_4_code 78 = .ok (.invokevirtual 38, 3) := by decide +kernel
theorem d6s0c16g_81 : decode prog_28_method_4_code 81 = .ok (.goto 32, 3) := by decide +kernel
theorem d6s0c16g_113 : decode prog_28_method_4_code 113 = .ok (.return_, 1) := by decide +kernel
theorem pn_6s0c16g : plainName "com/example/volens/volens/core/agent/TurnQueue" = true := by first | (simp [plainName, overriddenIn]; done) | decide +kernel
theorem pd6s0c16g_0 : parseMethodDescriptor "(I)V" = some ⟨[.int], none⟩ := by decide +kernel
theorem pd6s0c16g_1 : parseMethodDescriptor "(II)V" = some ⟨[.int, .int], none⟩ := by decide +kernel
theorem ef_6s0c16g (m : MethodId) (x0 : Addr) (x1 : Int32) (x2 : Int64) : entryFrame m #[(.ref x0), (.int x1), (.long x2)] 4 = mkF m 0 #[.val (.ref x0), .val (.int x1), .val (.long x2), .second] [] := by first | (simp [entryFrame, mkF, argsToLocals, Value.category]; done) | rfl
def Q6s0c16g (Z : State) (a1 : Addr) (p2 : Int32) (q3 : Int64) (ha : Addr) (ta : Addr) (pa : Addr) (f0 : Int32) (f1 : Int32) (pf : (Nat → Int32)) (h0 : Heap) (n0 : Nat) (v : Option Value) (h : Heap) (L : List Loc) : Prop := ∃ (ta2 : Addr) (pa2 : Addr), v = none ∧ Fr n0 L ∧ Keep h0 h [a1, ha, ta, pa] ∧ n0 ≤ ta2 ∧ n0 ≤ pa2 ∧ h0.size ≤ ta2 ∧ h0.size ≤ pa2 ∧ ownTQ Z h n0 a1 ha ta2 pa2 (1 : Int32) (32 : Int32) p2 f1 (own_upd (own_cp 16 pf (fun _ => (-1 : Int32))) p2 (0 : Int32))
set_option maxRecDepth 65536 in
set_option maxHeartbeats 40000000 in
theorem rm6s0c16g (l : Launch) (Z : State) (a0 : Array Value) (hw : ∀ d ∈ tables_1, d.before a0 Z = true) (ws : List Jvm.Cond) (a1 : Addr) (p2 : Int32) (q3 : Int64) (ha : Addr) (ta : Addr) (pa : Addr) (f0 : Int32) (f1 : Int32) (pf : (Nat → Int32)) (h0 : Heap) (n0 : Nat) (Z0 : n0 ≤ h0.size) (B0 : ownTQ Z h0 n0 a1 ha ta pa (0 : Int32) (16 : Int32) f0 f1 pf) (hbd : (¬ p2 < 0 ∧ p2 < (32 : Int32))) (hg : ¬ p2 < (16 : Int32)) :
    MetFree l (⟨"com/example/volens/volens/core/agent/TurnQueue", "set", "(IJ)V"⟩ : MethodName) (head1 (Jvm.Cond.code (⟨"com/example/volens/volens/core/agent/TurnQueue", "set", "(IJ)V"⟩ : MethodName) prog_28_method_4_code 4 none :: ws) ({ frames := 3, cells := 2, slots := 64, locals := 48 } : Room)) (fun a U => a = #[(.ref a1), (.int p2), (.long q3)] ∧ Z.Warmed39 U.vm ∧ U.heap = h0) (fun _ _ _ _ _ => True) (fun _ U o U' => ∃ v L, o = .returned v ∧ Q6s0c16g Z a1 p2 q3 ha ta pa f0 f1 pf h0 n0 v U'.heap L ∧ FrameEnd U o U' L ({ frames := 3, cells := 2, slots := 64, locals := 48 } : Room).cells ({ frames := 3, cells := 2, slots := 64, locals := 48 } : Room).slots) := by
  have ww1 := hw _ (List.mem_of_getElem? (i := 1) rfl)
  have ww2 := hw _ (List.mem_of_getElem? (i := 2) rfl)
  have ww10 := hw _ (List.mem_of_getElem? (i := 10) rfl)
  have ww11 := hw _ (List.mem_of_getElem? (i := 11) rfl)
  have ww13 := hw _ (List.mem_of_getElem? (i := 13) rfl)
  have ww14 := hw _ (List.mem_of_getElem? (i := 14) rfl)
  have ww22 := hw _ (List.mem_of_getElem? (i := 22) rfl)
  have ww23 := hw _ (List.mem_of_getElem? (i := 23) rfl)
  have ww29 := hw _ (List.mem_of_getElem? (i := 29) rfl)
  have ww30 := hw _ (List.mem_of_getElem? (i := 30) rfl)
  have ww36 := hw _ (List.mem_of_getElem? (i := 36) rfl)
  have ww37 := hw _ (List.mem_of_getElem? (i := 37) rfl)
  have ww38 := hw _ (List.mem_of_getElem? (i := 38) rfl)
  have ww39 := hw _ (List.mem_of_getElem? (i := 39) rfl)
  have ww48 := hw _ (List.mem_of_getElem? (i := 48) rfl)
  have ww49 := hw _ (List.mem_of_getElem? (i := 49) rfl)
  have ww50 := hw _ (List.mem_of_getElem? (i := 50) rfl)
  have ww51 := hw _ (List.mem_of_getElem? (i := 51) rfl)
  refine MetFree.of_bodySF (plainFor_of_name pn_6s0c16g) hisR ?_
  intro p e s m args below meth c s₁ Bd hml0 hP hK
  obtain ⟨rfl, hZ, hh⟩ := hP
  have hx := Bd.exec
  have hby := Bd.bytes
  have hlk : meth.locks = false := Bd.notSynchronized
  have hret := Bd.returns
  have hml : c.maxLocals = 4 := hml0
  have hown : s.vm.findClass "com/example/volens/volens/core/agent/TurnQueue" = some m.cls := findClass_of_methodNamed Bd.named
  have hnm := (name_of_methodNamed Bd.named Bd.method).1
  have X0 : Stand p l e ({ frames := 3, cells := 2, slots := 64, locals := 48 } : Room) s m #[(.ref a1), (.int p2), (.long q3)] below meth c s₁ [] 0 0 := Stand.of_body Bd
  have e0 : s₁.heap = h0 := by rw [← hh, Bd.state]; rfl
  have N0 := Fr.nil n0
  have K0 := Keep.refl h0 [a1, ha, ta, pa]
  show OwnEnd p e below s (Q6s0c16g Z a1 p2 q3 ha ta pa f0 f1 pf h0 n0) ({ frames := 3, cells := 2, slots := 64, locals := 48 } : Room).cells ({ frames := 3, cells := 2, slots := 64, locals := 48 } : Room).slots _
  refine OwnEnd.go (fun _ k => castTop (ef_6s0c16g m a1 p2 q3) k) ?_
  have B_101 := B0
  obtain ⟨ga_101, gh_101, gt_101, gp_101, n1_101, n2_101, n3_101, n4_101, n5_101, n6_101, E1_101, F_h_101, F_t_101, F_p_101, F_s_101, ⟨kh_101, V_h_101⟩, V_t_101, V_p_101⟩ := B_101
  show OwnEnd p e below s _ _ _ (s₁.setTop (mkF m 0 #[.val (.ref a1), .val (.int p2), .val (.long q3), .second] []))
  refine OwnEnd.go (fun _ k => XS.iloadN X0.here hx rfl (hb hby d6s0c16g_0) rfl  k) ?_
  show OwnEnd p e below s _ _ _ (s₁.setTop (mkF m 1 #[.val (.ref a1), .val (.int p2), .val (.long q3), .second] [(.int p2)]))
  refine OwnEnd.go (fun _ k => XS.aloadN X0.here hx rfl (hb hby d6s0c16g_1) rfl rfl k) ?_
  show OwnEnd p e below s _ _ _ (s₁.setTop (mkF m 2 #[.val (.ref a1), .val (.int p2), .val (.long q3), .second] [(.ref a1), (.int p2)]))
  obtain ⟨T102, X102, e102, st102⟩ := getF X0 hx hZ hown (host := "") (Or.inl ww22) Via.refl e0 F_p_101 (g := (mkF m 2 #[.val (.ref a1), .val (.int p2), .val (.long q3), .second] [(.ref a1), (.int p2)])) rfl rfl (hb hby d6s0c16g_2)
  refine OwnEnd.go (fun _ k => st102 _ k) ?_
  show OwnEnd p e below s _ _ _ (T102.setTop (mkF m 5 #[.val (.ref a1), .val (.int p2), .val (.long q3), .second] [(.ref pa), (.int p2)]))
  refine OwnEnd.go (fun _ k => ownAlen X102 hx hZ e102 V_p_101 (g := (mkF m 5 #[.val (.ref a1), .val (.int p2), .val (.long q3), .second] [(.ref pa), (.int p2)])) rfl rfl (hb hby d6s0c16g_5) _ k) ?_
  show OwnEnd p e below s _ _ _ (T102.setTop (mkF m 6 #[.val (.ref a1), .val (.int p2), .val (.long q3), .second] [(.int (16 : Int32)), (.int p2)]))
  refine OwnEnd.go (fun _ k => XS.icmpNo X102.here hx rfl (hb hby d6s0c16g_6) rfl (flt hg).1 k) ?_
  show OwnEnd p e below s _ _ _ (T102.setTop (mkF m 9 #[.val (.ref a1), .val (.int p2), .val (.long q3), .second] []))
  refine OwnEnd.go (fun _ k => XS.aloadN X102.here hx rfl (hb hby d6s0c16g_9) rfl rfl k) ?_
  show OwnEnd p e below s _ _ _ (T102.setTop (mkF m 10 #[.val (.ref a1), .val (.int p2), .val (.long q3), .second] [(.ref a1)]))
  refine OwnEnd.go (fun _ k => XS.iloadN X102.here hx rfl (hb hby d6s0c16g_10) rfl  k) ?_
  show OwnEnd p e below s _ _ _ (T102.setTop (mkF m 11 #[.val (.ref a1), .val (.int p2), .val (.long q3), .second] [(.int p2), (.ref a1)]))
  obtain ⟨_, T104, L104, X104, hQ104, st104⟩ := ownCallP X102 hx hZ hown ww48 ww50 (ownSel (by decide) ww1 ww50 ww49) ww49 ww2 ww51 (by decide) (rm10 l Z a0 hw [] a1 p2 ha ta pa (0 : Int32) f0 f1 pf h0 n0 Z0  B0 (own_next hbd.2 hbd.1)) e102 E1_101 0 (by decide) (by decide) (by decide) (by decide) (g := (mkF m 11 #[.val (.ref a1), .val (.int p2), .val (.long q3), .second] [(.int p2), (.ref a1)])) rfl (by rw [hml]; rfl) (argsL := [(.int p2)]) (rest := []) (lenOf pd6s0c16g_0 rfl) rfl rfl (by show 2 * 0 + _ ≤ _; exact Nat.le_of_eq rfl) (hb hby d6s0c16g_11)
  obtain ⟨y110, y111, hQ104⟩ := hQ104
  obtain ⟨rfl, N104q, K104q, P105, P106, P107, P108, P109⟩ := hQ104
  have N104 := Fr.app N0 N104q
  have F113 := E1_101.keep K104q
  have F118 := V_h_101.keep K104q (ninS (Ne.symm n1_101) nin0)
  have F119 := V_t_101.keep K104q (ninS (Ne.symm n2_101) nin0)
  have F120 := V_p_101.keep K104q (ninS (Ne.symm n3_101) nin0)
  have K104 := K0.trans K104q (allS (Or.inl (List.mem_of_getElem? (i := 0) rfl)) all0)
  have Y104 := Nat.le_trans Z0 K104q.1
  refine OwnEnd.go (fun _ k => st104 _ k) ?_
  have B_121 := P109
  obtain ⟨ga_121, gh_121, gt_121, gp_121, n1_121, n2_121, n3_121, n4_121, n5_121, n6_121, E1_121, F_h_121, F_t_121, F_p_121, F_s_121, ⟨kh_121, V_h_121⟩, V_t_121, V_p_121⟩ := B_121
  show OwnEnd p e below s _ _ _ (T104.setTop (mkF m 14 #[.val (.ref a1), .val (.int p2), .val (.long q3), .second] []))
  refine OwnEnd.go (fun _ k => XS.aloadN X104.here hx rfl (hb hby d6s0c16g_14) rfl rfl k) ?_
  show OwnEnd p e below s _ _ _ (T104.setTop (mkF m 15 #[.val (.ref a1), .val (.int p2), .val (.long q3), .second] [(.ref a1)]))
  obtain ⟨T122, X122, e122, st122⟩ := getF X104 hx hZ hown (host := "") (Or.inl ww22) Via.refl (rfl : T104.heap = T104.heap) F_p_121 (g := (mkF m 15 #[.val (.ref a1), .val (.int p2), .val (.long q3), .second] [(.ref a1)])) rfl rfl (hb hby d6s0c16g_15)
  refine OwnEnd.go (fun _ k => st122 _ k) ?_
  show OwnEnd p e below s _ _ _ (T122.setTop (mkF m 18 #[.val (.ref a1), .val (.int p2), .val (.long q3), .second] [(.ref y111)]))
  refine OwnEnd.go (fun _ k => XS.iloadN X122.here hx rfl (hb hby d6s0c16g_18) rfl  k) ?_
  show OwnEnd p e below s _ _ _ (T122.setTop (mkF m 19 #[.val (.ref a1), .val (.int p2), .val (.long q3), .second] [(.int p2), (.ref y111)]))
  refine OwnEnd.go (fun _ k => ownAload X122 hx hZ e122 V_p_121 (j := p2) hbd (g := (mkF m 19 #[.val (.ref a1), .val (.int p2), .val (.long q3), .second] [(.int p2), (.ref y111)])) rfl rfl (hb hby d6s0c16g_19) _ k) ?_
  show OwnEnd p e below s _ _ _ (T122.setTop (mkF m 20 #[.val (.ref a1), .val (.int p2), .val (.long q3), .second] [(.int ((own_cp 16 pf (fun _ => (-1 : Int32))) (p2).toNatClampNeg))]))
  refine OwnEnd.go (fun _ k => XS.iconst X122.here hx rfl (hb hby d6s0c16g_20) k) ?_
  show OwnEnd p e below s _ _ _ (T122.setTop (mkF m 21 #[.val (.ref a1), .val (.int p2), .val (.long q3), .second] [(.int (-1 : Int32)), (.int ((own_cp 16 pf (fun _ => (-1 : Int32))) (p2).toNatClampNeg))]))
  refine OwnEnd.go (fun _ k => XS.icmpNo X122.here hx rfl (hb hby d6s0c16g_21) rfl (teq (own_cp_hi (own_nat16 hg))).2 k) ?_
  show OwnEnd p e below s _ _ _ (T122.setTop (mkF m 24 #[.val (.ref a1), .val (.int p2), .val (.long q3), .second] []))
  refine OwnEnd.go (fun _ k => XS.aloadN X122.here hx rfl (hb hby d6s0c16g_24) rfl rfl k) ?_
  show OwnEnd p e below s _ _ _ (T122.setTop (mkF m 25 #[.val (.ref a1), .val (.int p2), .val (.long q3), .second] [(.ref a1)]))
  obtain ⟨T124, X124, e124, st124⟩ := getF X122 hx hZ hown (host := "") (Or.inl ww29) Via.refl e122 F_s_121 (g := (mkF m 25 #[.val (.ref a1), .val (.int p2), .val (.long q3), .second] [(.ref a1)])) rfl rfl (hb hby d6s0c16g_25)
  refine OwnEnd.go (fun _ k => st124 _ k) ?_
  show OwnEnd p e below s _ _ _ (T124.setTop (mkF m 28 #[.val (.ref a1), .val (.int p2), .val (.long q3), .second] [(.int (0 : Int32))]))
  refine OwnEnd.go (fun _ k => XS.aloadN X124.here hx rfl (hb hby d6s0c16g_28) rfl rfl k) ?_
  show OwnEnd p e below s _ _ _ (T124.setTop (mkF m 29 #[.val (.ref a1), .val (.int p2), .val (.long q3), .second] [(.ref a1), (.int (0 : Int32))]))
  obtain ⟨T125, X125, e125, st125⟩ := getF X124 hx hZ hown (host := "") (Or.inl ww10) Via.refl e124 F_h_121 (g := (mkF m 29 #[.val (.ref a1), .val (.int p2), .val (.long q3), .second] [(.ref a1), (.int (0 : Int32))])) rfl rfl (hb hby d6s0c16g_29)
  refine OwnEnd.go (fun _ k => st125 _ k) ?_
  show OwnEnd p e below s _ _ _ (T125.setTop (mkF m 32 #[.val (.ref a1), .val (.int p2), .val (.long q3), .second] [(.ref ha), (.int (0 : Int32))]))
  obtain ⟨c126, Ar126, q126, S126, G126, H126, J126⟩ := id V_h_121
  refine OwnEnd.go (fun _ k => ownLen X125 hx hZ e125 Ar126 S126 G126 (g := (mkF m 32 #[.val (.ref a1), .val (.int p2), .val (.long q3), .second] [(.ref ha), (.int (0 : Int32))])) rfl rfl (hb hby d6s0c16g_32) _ k) ?_
  show OwnEnd p e below s _ _ _ (T125.setTop (mkF m 33 #[.val (.ref a1), .val (.int p2), .val (.long q3), .second] [(.int (16 : Int32)), (.int (0 : Int32))]))
  refine OwnEnd.go (fun _ k => XS.icmpYes X125.here hx rfl (pc0 := 33) (pc' := 53) rfl (hb hby d6s0c16g_33) rfl (feq (by decide : ¬ (0 : Int32) = (16 : Int32))).2 (by decide) (by decide) k) ?_
  show OwnEnd p e below s _ _ _ (T125.setTop (mkF m 53 #[.val (.ref a1), .val (.int p2), .val (.long q3), .second] []))
  refine OwnEnd.go (fun _ k => XS.aloadN X125.here hx rfl (hb hby d6s0c16g_53) rfl rfl k) ?_
  show OwnEnd p e below s _ _ _ (T125.setTop (mkF m 54 #[.val (.ref a1), .val (.int p2), .val (.long q3), .second] [(.ref a1)]))
  obtain ⟨T127, X127, e127, st127⟩ := getF X125 hx hZ hown (host := "") (Or.inl ww13) Via.refl e125 F_t_121 (g := (mkF m 54 #[.val (.ref a1), .val (.int p2), .val (.long q3), .second] [(.ref a1)])) rfl rfl (hb hby d6s0c16g_54)
  refine OwnEnd.go (fun _ k => st127 _ k) ?_
  show OwnEnd p e below s _ _ _ (T127.setTop (mkF m 57 #[.val (.ref a1), .val (.int p2), .val (.long q3), .second] [(.ref y110)]))
  refine OwnEnd.go (fun _ k => XS.iloadN X127.here hx rfl (hb hby d6s0c16g_57) rfl  k) ?_
  show OwnEnd p e below s _ _ _ (T127.setTop (mkF m 58 #[.val (.ref a1), .val (.int p2), .val (.long q3), .second] [(.int p2), (.ref y110)]))
  refine OwnEnd.go (fun _ k => XS.lloadN X127.here hx rfl (hb hby d6s0c16g_58) rfl  k) ?_
  show OwnEnd p e below s _ _ _ (T127.setTop (mkF m 59 #[.val (.ref a1), .val (.int p2), .val (.long q3), .second] [(.long q3), (.int p2), (.ref y110)]))
  obtain ⟨T128, h128, X128, e128, W128, V128, st128⟩ := ownLstore X127 hx hZ e127 V_t_121 (j := p2) hbd (g := (mkF m 59 #[.val (.ref a1), .val (.int p2), .val (.long q3), .second] [(.long q3), (.int p2), (.ref y110)])) rfl rfl (hb hby d6s0c16g_59)
  have F129 := E1_121.wr W128
  have F130 := F_h_121.other W128 (Or.inl n2_121)
  have F131 := F_t_121.other W128 (Or.inl n2_121)
  have F132 := F_p_121.other W128 (Or.inl n2_121)
  have F133 := F_s_121.other W128 (Or.inl n2_121)
  have F134 := V_h_121.other W128 n4_121
  have F136 := V_p_121.other W128 (Ne.symm n6_121)
  have N128 := Fr.snoc X128 N104 gt_121
  have K128 := K104.wr W128 (Or.inr (Nat.le_trans K0.1 P107))
  have Y128 := Nat.le_trans Y104 (Nat.le_of_eq W128.size.symm)
  refine OwnEnd.go (fun _ k => st128 _ k) ?_
  show OwnEnd p e below s _ _ _ (T128.setTop (mkF m 60 #[.val (.ref a1), .val (.int p2), .val (.long q3), .second] []))
  refine OwnEnd.go (fun _ k => XS.aloadN X128.here hx rfl (hb hby d6s0c16g_60) rfl rfl k) ?_
  show OwnEnd p e below s _ _ _ (T128.setTop (mkF m 61 #[.val (.ref a1), .val (.int p2), .val (.long q3), .second] [(.ref a1)]))
  refine OwnEnd.go (fun _ k => XS.dup X128.here hx rfl (hb hby d6s0c16g_61) rfl rfl k) ?_
  show OwnEnd p e below s _ _ _ (T128.setTop (mkF m 62 #[.val (.ref a1), .val (.int p2), .val (.long q3), .second] [(.ref a1), (.ref a1)]))
  obtain ⟨T137, X137, e137, st137⟩ := getF X128 hx hZ hown (host := "") (Or.inl ww29) Via.refl e128 F133 (g := (mkF m 62 #[.val (.ref a1), .val (.int p2), .val (.long q3), .second] [(.ref a1), (.ref a1)])) rfl rfl (hb hby d6s0c16g_62)
  refine OwnEnd.go (fun _ k => st137 _ k) ?_
  show OwnEnd p e below s _ _ _ (T137.setTop (mkF m 65 #[.val (.ref a1), .val (.int p2), .val (.long q3), .second] [(.int (0 : Int32)), (.ref a1)]))
  refine OwnEnd.go (fun _ k => XS.iconst X137.here hx rfl (hb hby d6s0c16g_65) k) ?_
  show OwnEnd p e below s _ _ _ (T137.setTop (mkF m 66 #[.val (.ref a1), .val (.int p2), .val (.long q3), .second] [(.int (1 : Int32)), (.int (0 : Int32)), (.ref a1)]))
  refine OwnEnd.go (fun _ k => XS.iadd X137.here hx rfl (hb hby d6s0c16g_66) rfl k) ?_
  show OwnEnd p e below s _ _ _ (T137.setTop (mkF m 67 #[.val (.ref a1), .val (.int p2), .val (.long q3), .second] [(.int (1 : Int32)), (.ref a1)]))
  obtain ⟨T138, h138, X138, e138, W138, st138⟩ := putF X137 hx hZ hown (host := "") (Or.inl ww29) Via.refl e137 F133 F129 (Or.inl ww30) ww1 (ty := .int) (by decide) rfl rfl (g := (mkF m 67 #[.val (.ref a1), .val (.int p2), .val (.long q3), .second] [(.int (1 : Int32)), (.ref a1)])) rfl rfl (hb hby d6s0c16g_67)
  have F139 := F129.wr W138
  have F140 := F130.other W138 (Or.inr (slot_ne (Or.inl ww11) (Or.inl ww30) (by decide) (t := (.array .int)) (t' := .int) (by decide) (by decide)))
  have F141 := F131.other W138 (Or.inr (slot_ne (Or.inl ww14) (Or.inl ww30) (by decide) (t := (.array .long)) (t' := .int) (by decide) (by decide)))
  have F142 := F132.other W138 (Or.inr (slot_ne (Or.inl ww23) (Or.inl ww30) (by decide) (t := (.array .int)) (t' := .int) (by decide) (by decide)))
  have F143 := F133.same W138
  have F144 := F134.other W138 (Ne.symm n1_121)
  have F145 := F136.other W138 (Ne.symm n3_121)
  have F146 := V128.other W138 (Ne.symm n2_121)
  have N138 := Fr.snoc X138 N128 ga_121
  have K138 := K128.wr W138 (Or.inl (List.mem_of_getElem? (i := 0) rfl))
  have Y138 := Nat.le_trans Y128 (Nat.le_of_eq W138.size.symm)
  refine OwnEnd.go (fun _ k => st138 _ k) ?_
  show OwnEnd p e below s _ _ _ (T138.setTop (mkF m 70 #[.val (.ref a1), .val (.int p2), .val (.long q3), .second] []))
  refine OwnEnd.go (fun _ k => XS.aloadN X138.here hx rfl (hb hby d6s0c16g_70) rfl rfl k) ?_
  show OwnEnd p e below s _ _ _ (T138.setTop (mkF m 71 #[.val (.ref a1), .val (.int p2), .val (.long q3), .second] [(.ref a1)]))
  refine OwnEnd.go (fun _ k => XS.iloadN X138.here hx rfl (hb hby d6s0c16g_71) rfl  k) ?_
  show OwnEnd p e below s _ _ _ (T138.setTop (mkF m 72 #[.val (.ref a1), .val (.int p2), .val (.long q3), .second] [(.int p2), (.ref a1)]))
  refine OwnEnd.go (fun _ k => XS.aloadN X138.here hx rfl (hb hby d6s0c16g_72) rfl rfl k) ?_
  show OwnEnd p e below s _ _ _ (T138.setTop (mkF m 73 #[.val (.ref a1), .val (.int p2), .val (.long q3), .second] [(.ref a1), (.int p2), (.ref a1)]))
  obtain ⟨T147, X147, e147, st147⟩ := getF X138 hx hZ hown (host := "") (Or.inl ww29) Via.refl e138 F143 (g := (mkF m 73 #[.val (.ref a1), .val (.int p2), .val (.long q3), .second] [(.ref a1), (.int p2), (.ref a1)])) rfl rfl (hb hby d6s0c16g_73)
  refine OwnEnd.go (fun _ k => st147 _ k) ?_
  show OwnEnd p e below s _ _ _ (T147.setTop (mkF m 76 #[.val (.ref a1), .val (.int p2), .val (.long q3), .second] [(.int (1 : Int32)), (.int p2), (.ref a1)]))
  refine OwnEnd.go (fun _ k => XS.iconst X147.here hx rfl (hb hby d6s0c16g_76) k) ?_
  show OwnEnd p e below s _ _ _ (T147.setTop (mkF m 77 #[.val (.ref a1), .val (.int p2), .val (.long q3), .second] [(.int (1 : Int32)), (.int (1 : Int32)), (.int p2), (.ref a1)]))
  refine OwnEnd.go (fun _ k => XS.isub X147.here hx rfl (hb hby d6s0c16g_77) rfl k) ?_
  show OwnEnd p e below s _ _ _ (T147.setTop (mkF m 78 #[.val (.ref a1), .val (.int p2), .val (.long q3), .second] [(.int (0 : Int32)), (.int p2), (.ref a1)]))
  have Bn148 : ownTQ Z h138 n0 a1 ha y110 y111 (1 : Int32) (32 : Int32) f0 f1 (own_cp 16 pf (fun _ => (-1 : Int32))) := ⟨ga_121, gh_121, gt_121, gp_121, n1_121, n2_121, n3_121, n4_121, n5_121, n6_121, F139, F140, F141, F142, F143, ⟨_, F144⟩, F146, F145⟩
  obtain ⟨_, T149, L149, X149, hQ149, st149⟩ := ownCallP X147 hx hZ hown ww36 ww38 (ownSel (by decide) ww1 ww38 ww37) ww37 ww2 ww39 (by decide) (rm7d0 l Z a0 hw [] a1 p2 ha y110 y111 (1 : Int32) (32 : Int32) f0 f1 (own_cp 16 pf (fun _ => (-1 : Int32))) h138 n0 Y138  Bn148 hbd) e147 F139 0 (by decide) (by decide) (by decide) (by decide) (g := (mkF m 78 #[.val (.ref a1), .val (.int p2), .val (.long q3), .second] [(.int (0 : Int32)), (.int p2), (.ref a1)])) rfl (by rw [hml]; rfl) (argsL := [(.int p2), (.int (0 : Int32))]) (rest := []) (lenOf pd6s0c16g_1 rfl) rfl rfl (by show 2 * 0 + _ ≤ _; exact Nat.le_of_eq rfl) (hb hby d6s0c16g_78)
  obtain ⟨rfl, N149q, K149q, P150⟩ := hQ149
  have N149 := Fr.app N138 N149q
  have F151 := F139.keep K149q
  have K149 := K138.trans K149q (allS (Or.inl (List.mem_of_getElem? (i := 0) rfl)) (allS (Or.inl (List.mem_of_getElem? (i := 1) rfl)) (allS (Or.inr (Nat.le_trans K0.1 P107)) (allS (Or.inr (Nat.le_trans K0.1 P108)) all0))))
  have Y149 := Nat.le_trans Y138 K149q.1
  refine OwnEnd.go (fun _ k => st149 _ k) ?_
  show OwnEnd p e below s _ _ _ (T149.setTop (mkF m 81 #[.val (.ref a1), .val (.int p2), .val (.long q3), .second] []))
  refine OwnEnd.go (fun _ k => XS.goto X149.here hx rfl (pc0 := 81) (pc' := 113) rfl (hb hby d6s0c16g_81) (by decide) (by decide) k) ?_
  show OwnEnd p e below s _ _ _ (T149.setTop (mkF m 113 #[.val (.ref a1), .val (.int p2), .val (.long q3), .second] []))
  refine ownRetV X149 hx hlk hret (hb hby d6s0c16g_113) (by decide) (by decide) ?_
  show Q6s0c16g Z a1 p2 q3 ha ta pa f0 f1 pf h0 n0 _ T149.heap _
  exact ⟨y110, y111, rfl, N149, K149, gt_121, gp_121, (Nat.le_trans K0.1 P107), (Nat.le_trans K0.1 P108), P150⟩
theorem d6s1c16s_0 : decode prog_28_method_4_code 0 = .ok (.iload_n 1, 1) := by decide +kernel
theorem d6s1c16s_1 : decode prog_28_method_4_code 1 = .ok (.aload_n 0, 1) := by decide +kernel
theorem d6s1c16s_2 : decode prog_28_method_4_code 2 = .ok (.getfield 21, 3) := by decide +kernel
theorem d6s1c16s_5 : decode prog_28_method_4_code 5 = .ok (.arraylength, 1) := by decide +kernel
theorem d6s1c16s_6 : decode prog_28_method_4_code 6 = .ok (.if_icmp .lt 8, 3) := by decide +kernel
theorem d6s1c16s_14 : decode prog_28_method_4_code 14 = .ok (.aload_n 0, 1) := by decide +kernel
theorem d6s1c16s_15 : decode prog_28_method_4_code 15 = .ok (.getfield 21, 3) := by decide +kernel
theorem d6s1c16s_18 : decode prog_28_method_4_code 18 = .ok (.iload_n 1, 1) := by decide +kernel
theorem d6s1c16s_19 : decode prog_28_method_4_code 19 = .ok (.iaload, 1) := by decide +kernel
theorem d6s1c16s_20 : decode prog_28_method_4_code 20 = .ok (.iconst (-1), 1) := by decide +kernel
theorem d6s1c16s_21 : decode prog_28_method_4_code 21 = .ok (.if_icmp .ne 63, 3) := by decide +kernel
theorem d6s1c16s_84 : decode prog_28_method_4_code 84 = .ok (.lload_n 2, 1) := by decide +kernel
theorem d6s1c16s_85 : decode prog_28_method_4_code 85 = .ok (.aload_n 0, 1) := by decide +kernel
theorem d6s1c16s_86 : decode prog_28_method_4_code 86 = .ok (.getfield 13, 3) := by decide +kernel
theorem d6s1c16s_89 : decode prog_28_method_4_code 89 = .ok (.iload_n 1, 1) := by decide +kernel
theorem d6s1c16s_90 : decode prog_28_method_4_code 90 = .ok (.laload, 1) := by decide +kernel
theorem d6s1c16s_91 : decode prog_28_method_4_code 91 = .ok (.lcmp, 1) := by decide +kernel
theorem d6s1c16s_92 : decode prog_28_method_4_code 92 = .ok (.ifCond .ge 21, 3) := by decide +kernel
theorem d6s1c16s_95 : decode prog_28_method_4_code 95 = .ok (.aload_n 0, 1) := by decide +kernel
theorem d6s1c16s_96 : decode prog_28_method_4_code 96 = .ok (.getfield 13, 3) := by decide +kernel
theorem d6s1c16s_99 : decode prog_28_method_4_code 99 = .ok (.iload_n 1, 1) := by decide +kernel
theorem d6s1c16s_100 : decode prog_28_method_4_code 100 = .ok (.lload_n 2, 1) := by decide +kernel
theorem d6s1c16s_101 : decode prog_28_method_4_code 101 = .ok (.lastore, 1) := by decide +kernel
theorem d6s1c16s_102 : decode prog_28_method_4_code 102 = .ok (.aload_n 0, 1) := by decide +kernel
theorem d6s1c16s_103 : decode prog_28_method_4_code 103 = .ok (.iload_n 1, 1) := by decide +kernel
theorem d6s1c16s_104 : decode prog_28_method_4_code 104 = .ok (.aload_n 0, 1) := by decide +kernel
theorem d6s1c16s_105 : decode prog_28_method_4_code 105 = .ok (.getfield 21, 3) := by decide +kernel
theorem d6s1c16s_108 : decode prog_28_method_4_code 108 = .ok (.iload_n 1, 1) := by decide +kernel
theorem d6s1c16s_109 : decode prog_28_method_4_code 109 = .ok (.iaload, 1) := by decide +kernel
theorem d6s1c16s_110 : decode prog_28_method_4_code 110 = .ok (.invokevirtual 38, 3) := by decide +kernel
theorem d6s1c16s_113 : decode prog_28_method_4_code 113 = .ok (.return_, 1) := by decide +kernel
theorem pn_6s1c16s : plainName "com/example/volens/volens/core/agent/TurnQueue" = true := by first | (simp [plainName, overriddenIn]; done) | decide +kernel
theorem pd6s1c16s_0 : parseMethodDescriptor "(II)V" = some ⟨[.int, .int], none⟩ := by decide +kernel
theorem ef_6s1c16s (m : MethodId) (x0 : Addr) (x1 : Int32) (x2 : Int64) : entryFrame m #[(.ref x0), (.int x1), (.long x2)] 4 = mkF m 0 #[.val (.ref x0), .val (.int x1), .val (.long x2), .second] [] := by first | (simp [entryFrame, mkF, argsToLocals, Value.category]; done) | rfl
def Q6s1c16s (Z : State) (a1 : Addr) (p2 : Int32) (q3 : Int64) (ha : Addr) (ta : Addr) (pa : Addr) (f0 : Int32) (f1 : Int32) (pf : (Nat → Int32)) (h0 : Heap) (n0 : Nat) (v : Option Value) (h : Heap) (L : List Loc) : Prop := ∃ (y0 : Int32) (yf : (Nat → Int32)), v = none ∧ Fr n0 L ∧ Keep h0 h [a1, ha, ta, pa] ∧ ownTQ Z h n0 a1 ha ta pa (1 : Int32) (16 : Int32) y0 f1 yf ∧ (¬ y0 < 0 ∧ y0 < (16 : Int32))
set_option maxRecDepth 65536 in
set_option maxHeartbeats 40000000 in
theorem rm6s1c16s (l : Launch) (Z : State) (a0 : Array Value) (hw : ∀ d ∈ tables_1, d.before a0 Z = true) (ws : List Jvm.Cond) (a1 : Addr) (p2 : Int32) (q3 : Int64) (ha : Addr) (ta : Addr) (pa : Addr) (f0 : Int32) (f1 : Int32) (pf : (Nat → Int32)) (h0 : Heap) (n0 : Nat) (Z0 : n0 ≤ h0.size) (B0 : ownTQ Z h0 n0 a1 ha ta pa (1 : Int32) (16 : Int32) f0 f1 pf) (hbd : (¬ p2 < 0 ∧ p2 < (16 : Int32))) (hq : pf (p2).toNatClampNeg = (0 : Int32)) (hf : (¬ f0 < 0 ∧ f0 < (16 : Int32))) :
    MetFree l (⟨"com/example/volens/volens/core/agent/TurnQueue", "set", "(IJ)V"⟩ : MethodName) (head1 (Jvm.Cond.code (⟨"com/example/volens/volens/core/agent/TurnQueue", "set", "(IJ)V"⟩ : MethodName) prog_28_method_4_code 4 none :: ws) ({ frames := 3, cells := 0, slots := 0, locals := 48 } : Room)) (fun a U => a = #[(.ref a1), (.int p2), (.long q3)] ∧ Z.Warmed39 U.vm ∧ U.heap = h0) (fun _ _ _ _ _ => True) (fun _ U o U' => ∃ v L, o = .returned v ∧ Q6s1c16s Z a1 p2 q3 ha ta pa f0 f1 pf h0 n0 v U'.heap L ∧ FrameEnd U o U' L ({ frames := 3, cells := 0, slots := 0, locals := 48 } : Room).cells ({ frames := 3, cells := 0, slots := 0, locals := 48 } : Room).slots) := by
  have ww1 := hw _ (List.mem_of_getElem? (i := 1) rfl)
  have ww2 := hw _ (List.mem_of_getElem? (i := 2) rfl)
  have ww13 := hw _ (List.mem_of_getElem? (i := 13) rfl)
  have ww22 := hw _ (List.mem_of_getElem? (i := 22) rfl)
  have ww36 := hw _ (List.mem_of_getElem? (i := 36) rfl)
  have ww37 := hw _ (List.mem_of_getElem? (i := 37) rfl)
  have ww38 := hw _ (List.mem_of_getElem? (i := 38) rfl)
  have ww39 := hw _ (List.mem_of_getElem? (i := 39) rfl)
  refine MetFree.of_bodySF (plainFor_of_name pn_6s1c16s) hisR ?_
  intro p e s m args below meth c s₁ Bd hml0 hP hK
  obtain ⟨rfl, hZ, hh⟩ := hP
  have hx := Bd.exec
  have hby := Bd.bytes
  have hlk : meth.locks = false := Bd.notSynchronized
  have hret := Bd.returns
  have hml : c.maxLocals = 4 := hml0
  have hown : s.vm.findClass "com/example/volens/volens/core/agent/TurnQueue" = some m.cls := findClass_of_methodNamed Bd.named
  have hnm := (name_of_methodNamed Bd.named Bd.method).1
  have X0 : Stand p l e ({ frames := 3, cells := 0, slots := 0, locals := 48 } : Room) s m #[(.ref a1), (.int p2), (.long q3)] below meth c s₁ [] 0 0 := Stand.of_body Bd
  have e0 : s₁.heap = h0 := by rw [← hh, Bd.state]; rfl
  have N0 := Fr.nil n0
  have K0 := Keep.refl h0 [a1, ha, ta, pa]
  show OwnEnd p e below s (Q6s1c16s Z a1 p2 q3 ha ta pa f0 f1 pf h0 n0) ({ frames := 3, cells := 0, slots := 0, locals := 48 } : Room).cells ({ frames := 3, cells := 0, slots := 0, locals := 48 } : Room).slots _
  refine OwnEnd.go (fun _ k => castTop (ef_6s1c16s m a1 p2 q3) k) ?_
  have B_101 := B0
  obtain ⟨ga_101, gh_101, gt_101, gp_101, n1_101, n2_101, n3_101, n4_101, n5_101, n6_101, E1_101, F_h_101, F_t_101, F_p_101, F_s_101, ⟨kh_101, V_h_101⟩, V_t_101, V_p_101⟩ := B_101
  show OwnEnd p e below s _ _ _ (s₁.setTop (mkF m 0 #[.val (.ref a1), .val (.int p2), .val (.long q3), .second] []))
  refine OwnEnd.go (fun _ k => XS.iloadN X0.here hx rfl (hb hby d6s1c16s_0) rfl  k) ?_
  show OwnEnd p e below s _ _ _ (s₁.setTop (mkF m 1 #[.val (.ref a1), .val (.int p2), .val (.long q3), .second] [(.int p2)]))
  refine OwnEnd.go (fun _ k => XS.aloadN X0.here hx rfl (hb hby d6s1c16s_1) rfl rfl k) ?_
  show OwnEnd p e below s _ _ _ (s₁.setTop (mkF m 2 #[.val (.ref a1), .val (.int p2), .val (.long q3), .second] [(.ref a1), (.int p2)]))
  obtain ⟨T102, X102, e102, st102⟩ := getF X0 hx hZ hown (host := "") (Or.inl ww22) Via.refl e0 F_p_101 (g := (mkF m 2 #[.val (.ref a1), .val (.int p2), .val (.long q3), .second] [(.ref a1), (.int p2)])) rfl rfl (hb hby d6s1c16s_2)
  refine OwnEnd.go (fun _ k => st102 _ k) ?_
  show OwnEnd p e below s _ _ _ (T102.setTop (mkF m 5 #[.val (.ref a1), .val (.int p2), .val (.long q3), .second] [(.ref pa), (.int p2)]))
  refine OwnEnd.go (fun _ k => ownAlen X102 hx hZ e102 V_p_101 (g := (mkF m 5 #[.val (.ref a1), .val (.int p2), .val (.long q3), .second] [(.ref pa), (.int p2)])) rfl rfl (hb hby d6s1c16s_5) _ k) ?_
  show OwnEnd p e below s _ _ _ (T102.setTop (mkF m 6 #[.val (.ref a1), .val (.int p2), .val (.long q3), .second] [(.int (16 : Int32)), (.int p2)]))
  refine OwnEnd.go (fun _ k => XS.icmpYes X102.here hx rfl (pc0 := 6) (pc' := 14) rfl (hb hby d6s1c16s_6) rfl (tlt hbd.2).1 (by decide) (by decide) k) ?_
  show OwnEnd p e below s _ _ _ (T102.setTop (mkF m 14 #[.val (.ref a1), .val (.int p2), .val (.long q3), .second] []))
  refine OwnEnd.go (fun _ k => XS.aloadN X102.here hx rfl (hb hby d6s1c16s_14) rfl rfl k) ?_
  show OwnEnd p e below s _ _ _ (T102.setTop (mkF m 15 #[.val (.ref a1), .val (.int p2), .val (.long q3), .second] [(.ref a1)]))
  obtain ⟨T104, X104, e104, st104⟩ := getF X102 hx hZ hown (host := "") (Or.inl ww22) Via.refl e102 F_p_101 (g := (mkF m 15 #[.val (.ref a1), .val (.int p2), .val (.long q3), .second] [(.ref a1)])) rfl rfl (hb hby d6s1c16s_15)
  refine OwnEnd.go (fun _ k => st104 _ k) ?_
  show OwnEnd p e below s _ _ _ (T104.setTop (mkF m 18 #[.val (.ref a1), .val (.int p2), .val (.long q3), .second] [(.ref pa)]))
  refine OwnEnd.go (fun _ k => XS.iloadN X104.here hx rfl (hb hby d6s1c16s_18) rfl  k) ?_
  show OwnEnd p e below s _ _ _ (T104.setTop (mkF m 19 #[.val (.ref a1), .val (.int p2), .val (.long q3), .second] [(.int p2), (.ref pa)]))
  refine OwnEnd.go (fun _ k => ownAload X104 hx hZ e104 V_p_101 (j := p2) hbd (g := (mkF m 19 #[.val (.ref a1), .val (.int p2), .val (.long q3), .second] [(.int p2), (.ref pa)])) rfl rfl (hb hby d6s1c16s_19) _ k) ?_
  show OwnEnd p e below s _ _ _ (T104.setTop (mkF m 20 #[.val (.ref a1), .val (.int p2), .val (.long q3), .second] [(.int (pf (p2).toNatClampNeg))]))
  refine OwnEnd.go (fun _ k => XS.iconst X104.here hx rfl (hb hby d6s1c16s_20) k) ?_
  show OwnEnd p e below s _ _ _ (T104.setTop (mkF m 21 #[.val (.ref a1), .val (.int p2), .val (.long q3), .second] [(.int (-1 : Int32)), (.int (pf (p2).toNatClampNeg))]))
  refine OwnEnd.go (fun _ k => XS.icmpYes X104.here hx rfl (pc0 := 21) (pc' := 84) rfl (hb hby d6s1c16s_21) rfl (feq (by rw [hq]; decide : ¬ (pf (p2).toNatClampNeg) = (-1 : Int32))).2 (by decide) (by decide) k) ?_
  show OwnEnd p e below s _ _ _ (T104.setTop (mkF m 84 #[.val (.ref a1), .val (.int p2), .val (.long q3), .second] []))
  refine OwnEnd.go (fun _ k => XS.lloadN X104.here hx rfl (hb hby d6s1c16s_84) rfl  k) ?_
  show OwnEnd p e below s _ _ _ (T104.setTop (mkF m 85 #[.val (.ref a1), .val (.int p2), .val (.long q3), .second] [(.long q3)]))
  refine OwnEnd.go (fun _ k => XS.aloadN X104.here hx rfl (hb hby d6s1c16s_85) rfl rfl k) ?_
  show OwnEnd p e below s _ _ _ (T104.setTop (mkF m 86 #[.val (.ref a1), .val (.int p2), .val (.long q3), .second] [(.ref a1), (.long q3)]))
  obtain ⟨T106, X106, e106, st106⟩ := getF X104 hx hZ hown (host := "") (Or.inl ww13) Via.refl e104 F_t_101 (g := (mkF m 86 #[.val (.ref a1), .val (.int p2), .val (.long q3), .second] [(.ref a1), (.long q3)])) rfl rfl (hb hby d6s1c16s_86)
  refine OwnEnd.go (fun _ k => st106 _ k) ?_
  show OwnEnd p e below s _ _ _ (T106.setTop (mkF m 89 #[.val (.ref a1), .val (.int p2), .val (.long q3), .second] [(.ref ta), (.long q3)]))
  refine OwnEnd.go (fun _ k => XS.iloadN X106.here hx rfl (hb hby d6s1c16s_89) rfl  k) ?_
  show OwnEnd p e below s _ _ _ (T106.setTop (mkF m 90 #[.val (.ref a1), .val (.int p2), .val (.long q3), .second] [(.int p2), (.ref ta), (.long q3)]))
  obtain ⟨x107, st107⟩ := ownLload X106 hx hZ e106 V_t_101 (j := p2) hbd (g := (mkF m 90 #[.val (.ref a1), .val (.int p2), .val (.long q3), .second] [(.int p2), (.ref ta), (.long q3)])) rfl rfl (hb hby d6s1c16s_90)
  refine OwnEnd.go (fun _ k => st107 _ k) ?_
  show OwnEnd p e below s _ _ _ (T106.setTop (mkF m 91 #[.val (.ref a1), .val (.int p2), .val (.long q3), .second] [(.long x107), (.long q3)]))
  refine OwnEnd.go (fun _ k => XS.lcmp X106.here hx rfl (hb hby d6s1c16s_91) rfl k) ?_
  show OwnEnd p e below s _ _ _ (T106.setTop (mkF m 92 #[.val (.ref a1), .val (.int p2), .val (.long q3), .second] [(.int (lcmpW q3 x107))]))
  by_cases hc108 : q3 < x107
  · refine OwnEnd.go (fun _ k => XS.ifNo X106.here hx rfl (hb hby d6s1c16s_92) rfl (ownLt hc108).2.1 k) ?_
    show OwnEnd p e below s _ _ _ (T106.setTop (mkF m 95 #[.val (.ref a1), .val (.int p2), .val (.long q3), .second] []))
    refine OwnEnd.go (fun _ k => XS.aloadN X106.here hx rfl (hb hby d6s1c16s_95) rfl rfl k) ?_
    show OwnEnd p e below s _ _ _ (T106.setTop (mkF m 96 #[.val (.ref a1), .val (.int p2), .val (.long q3), .second] [(.ref a1)]))
    obtain ⟨T109, X109, e109, st109⟩ := getF X106 hx hZ hown (host := "") (Or.inl ww13) Via.refl e106 F_t_101 (g := (mkF m 96 #[.val (.ref a1), .val (.int p2), .val (.long q3), .second] [(.ref a1)])) rfl rfl (hb hby d6s1c16s_96)
    refine OwnEnd.go (fun _ k => st109 _ k) ?_
    show OwnEnd p e below s _ _ _ (T109.setTop (mkF m 99 #[.val (.ref a1), .val (.int p2), .val (.long q3), .second] [(.ref ta)]))
    refine OwnEnd.go (fun _ k => XS.iloadN X109.here hx rfl (hb hby d6s1c16s_99) rfl  k) ?_
    show OwnEnd p e below s _ _ _ (T109.setTop (mkF m 100 #[.val (.ref a1), .val (.int p2), .val (.long q3), .second] [(.int p2), (.ref ta)]))
    refine OwnEnd.go (fun _ k => XS.lloadN X109.here hx rfl (hb hby d6s1c16s_100) rfl  k) ?_
    show OwnEnd p e below s _ _ _ (T109.setTop (mkF m 101 #[.val (.ref a1), .val (.int p2), .val (.long q3), .second] [(.long q3), (.int p2), (.ref ta)]))
    obtain ⟨T110, h110, X110, e110, W110, V110, st110⟩ := ownLstore X109 hx hZ e109 V_t_101 (j := p2) hbd (g := (mkF m 101 #[.val (.ref a1), .val (.int p2), .val (.long q3), .second] [(.long q3), (.int p2), (.ref ta)])) rfl rfl (hb hby d6s1c16s_101)
    have F111 := E1_101.wr W110
    have F112 := F_h_101.other W110 (Or.inl n2_101)
    have F113 := F_t_101.other W110 (Or.inl n2_101)
    have F114 := F_p_101.other W110 (Or.inl n2_101)
    have F115 := F_s_101.other W110 (Or.inl n2_101)
    have F116 := V_h_101.other W110 n4_101
    have F118 := V_p_101.other W110 (Ne.symm n6_101)
    have N110 := Fr.snoc X110 N0 gt_101
    have K110 := K0.wr W110 (Or.inl (List.mem_of_getElem? (i := 2) rfl))
    have Y110 := Nat.le_trans Z0 (Nat.le_of_eq W110.size.symm)
    refine OwnEnd.go (fun _ k => st110 _ k) ?_
    show OwnEnd p e below s _ _ _ (T110.setTop (mkF m 102 #[.val (.ref a1), .val (.int p2), .val (.long q3), .second] []))
    refine OwnEnd.go (fun _ k => XS.aloadN X110.here hx rfl (hb hby d6s1c16s_102) rfl rfl k) ?_
    show OwnEnd p e below s _ _ _ (T110.setTop (mkF m 103 #[.val (.ref a1), .val (.int p2), .val (.long q3), .second] [(.ref a1)]))
    refine OwnEnd.go (fun _ k => XS.iloadN X110.here hx rfl (hb hby d6s1c16s_103) rfl  k) ?_
    show OwnEnd p e below s _ _ _ (T110.setTop (mkF m 104 #[.val (.ref a1), .val (.int p2), .val (.long q3), .second] [(.int p2), (.ref a1)]))
    refine OwnEnd.go (fun _ k => XS.aloadN X110.here hx rfl (hb hby d6s1c16s_104) rfl rfl k) ?_
    show OwnEnd p e below s _ _ _ (T110.setTop (mkF m 105 #[.val (.ref a1), .val (.int p2), .val (.long q3), .second] [(.ref a1), (.int p2), (.ref a1)]))
    obtain ⟨T119, X119, e119, st119⟩ := getF X110 hx hZ hown (host := "") (Or.inl ww22) Via.refl e110 F114 (g := (mkF m 105 #[.val (.ref a1), .val (.int p2), .val (.long q3), .second] [(.ref a1), (.int p2), (.ref a1)])) rfl rfl (hb hby d6s1c16s_105)
    refine OwnEnd.go (fun _ k => st119 _ k) ?_
    show OwnEnd p e below s _ _ _ (T119.setTop (mkF m 108 #[.val (.ref a1), .val (.int p2), .val (.long q3), .second] [(.ref pa), (.int p2), (.ref a1)]))
    refine OwnEnd.go (fun _ k => XS.iloadN X119.here hx rfl (hb hby d6s1c16s_108) rfl  k) ?_
    show OwnEnd p e below s _ _ _ (T119.setTop (mkF m 109 #[.val (.ref a1), .val (.int p2), .val (.long q3), .second] [(.int p2), (.ref pa), (.int p2), (.ref a1)]))
    refine OwnEnd.go (fun _ k => ownAload X119 hx hZ e119 F118 (j := p2) hbd (g := (mkF m 109 #[.val (.ref a1), .val (.int p2), .val (.long q3), .second] [(.int p2), (.ref pa), (.int p2), (.ref a1)])) rfl rfl (hb hby d6s1c16s_109) _ k) ?_
    show OwnEnd p e below s _ _ _ (T119.setTop (mkF m 110 #[.val (.ref a1), .val (.int p2), .val (.long q3), .second] [(.int (pf (p2).toNatClampNeg)), (.int p2), (.ref a1)]))
    rw [hq]
    show OwnEnd p e below s _ _ _ (T119.setTop (mkF m 110 #[.val (.ref a1), .val (.int p2), .val (.long q3), .second] [(.int (0 : Int32)), (.int p2), (.ref a1)]))
    have Bn121 : ownTQ Z h110 n0 a1 ha ta pa (1 : Int32) (16 : Int32) f0 f1 pf := ⟨ga_101, gh_101, gt_101, gp_101, n1_101, n2_101, n3_101, n4_101, n5_101, n6_101, F111, F112, F113, F114, F115, ⟨_, F116⟩, V110, F118⟩
    obtain ⟨_, T122, L122, X122, hQ122, st122⟩ := ownCallP X119 hx hZ hown ww36 ww38 (ownSel (by decide) ww1 ww38 ww37) ww37 ww2 ww39 (by decide) (rm7d0 l Z a0 hw [] a1 p2 ha ta pa (1 : Int32) (16 : Int32) f0 f1 pf h110 n0 Y110  Bn121 hbd) e119 F111 0 (by decide) (by decide) (by decide) (by decide) (g := (mkF m 110 #[.val (.ref a1), .val (.int p2), .val (.long q3), .second] [(.int (0 : Int32)), (.int p2), (.ref a1)])) rfl (by rw [hml]; rfl) (argsL := [(.int p2), (.int (0 : Int32))]) (rest := []) (lenOf pd6s1c16s_0 rfl) rfl rfl (by show 2 * 0 + _ ≤ _; exact Nat.le_of_eq rfl) (hb hby d6s1c16s_110)
    obtain ⟨rfl, N122q, K122q, P123⟩ := hQ122
    have N122 := Fr.app N110 N122q
    have F124 := F111.keep K122q
    have K122 := K110.trans K122q (allS (Or.inl (List.mem_of_getElem? (i := 0) rfl)) (allS (Or.inl (List.mem_of_getElem? (i := 1) rfl)) (allS (Or.inl (List.mem_of_getElem? (i := 2) rfl)) (allS (Or.inl (List.mem_of_getElem? (i := 3) rfl)) all0))))
    have Y122 := Nat.le_trans Y110 K122q.1
    refine OwnEnd.go (fun _ k => st122 _ k) ?_
    show OwnEnd p e below s _ _ _ (T122.setTop (mkF m 113 #[.val (.ref a1), .val (.int p2), .val (.long q3), .second] []))
    refine ownRetV X122 hx hlk hret (hb hby d6s1c16s_113) (by decide) (by decide) ?_
    show Q6s1c16s Z a1 p2 q3 ha ta pa f0 f1 pf h0 n0 _ T122.heap _
    exact ⟨p2, _, rfl, N122, K122, P123, hbd⟩
  · refine OwnEnd.go (fun _ k => XS.ifYes X106.here hx rfl (pc0 := 92) (pc' := 113) rfl (hb hby d6s1c16s_92) rfl (ownNlt hc108).2.1 (by decide) (by decide) k) ?_
    show OwnEnd p e below s _ _ _ (T106.setTop (mkF m 113 #[.val (.ref a1), .val (.int p2), .val (.long q3), .second] []))
    refine ownRetV X106 hx hlk hret (hb hby d6s1c16s_113) (by decide) (by decide) ?_
    have Bn126 : ownTQ Z h0 n0 a1 ha ta pa (1 : Int32) (16 : Int32) f0 f1 pf := ⟨ga_101, gh_101, gt_101, gp_101, n1_101, n2_101, n3_101, n4_101, n5_101, n6_101, E1_101, F_h_101, F_t_101, F_p_101, F_s_101, ⟨_, V_h_101⟩, V_t_101, V_p_101⟩
    show Q6s1c16s Z a1 p2 q3 ha ta pa f0 f1 pf h0 n0 _ T106.heap _
    rw [e106]
    exact ⟨f0, _, rfl, N0, K0, Bn126, hf⟩
theorem d6s1c16_0 : decode prog_28_method_4_code 0 = .ok (.iload_n 1, 1) := by decide +kernel
theorem d6s1c16_1 : decode prog_28_method_4_code 1 = .ok (.aload_n 0, 1) := by decide +kernel
theorem d6s1c16_2 : decode prog_28_method_4_code 2 = .ok (.getfield 21, 3) := by decide +kernel
theorem d6s1c16_5 : decode prog_28_method_4_code 5 = .ok (.arraylength, 1) := by decide +kernel
theorem d6s1c16_6 : decode prog_28_method_4_code 6 = .ok (.if_icmp .lt 8, 3) := by decide +kernel
theorem d6s1c16_14 : decode prog_28_method_4_code 14 = .ok (.aload_n 0, 1) := by decide +kernel
theorem d6s1c16_15 : decode prog_28_method_4_code 15 = .ok (.getfield 21, 3) := by decide +kernel
theorem d6s1c16_18 : decode prog_28_method_4_code 18 = .ok (.iload_n 1, 1) := by decide +kernel
theorem d6s1c16_19 : decode prog_28_method_4_code 19 = .ok (.iaload, 1) := by decide +kernel
theorem d6s1c16_20 : decode prog_28_method_4_code 20 = .ok (.iconst (-1), 1) := by decide +kernel
theorem d6s1c16_21 : decode prog_28_method_4_code 21 = .ok (.if_icmp .ne 63, 3) := by decide +kernel
theorem d6s1c16_24 : decode prog_28_method_4_code 24 = .ok (.aload_n 0, 1) := by decide +kernel
theorem d6s1c16_25 : decode prog_28_method_4_code 25 = .ok (.getfield 24, 3) := by decide +kernel
theorem d6s1c16_28 : decode prog_28_method_4_code 28 = .ok (.aload_n 0, 1) := by decide +kernel
theorem d6s1c16_29 : decode prog_28_method_4_code 29 = .ok (.getfield 9, 3) := by decide +kernel
theorem d6s1c16_32 : decode prog_28_method_4_code 32 = .ok (.arraylength, 1) := by decide +kernel
theorem d6s1c16_33 : decode prog_28_method_4_code 33 = .ok (.if_icmp .ne 20, 3) := by decide +kernel
theorem d6s1c16_53 : decode prog_28_method_4_code 53 = .ok (.aload_n 0, 1) := by decide +kernel
theorem d6s1c16_54 : decode prog_28_method_4_code 54 = .ok (.getfield 13, 3) := by decide +kernel
theorem d6s1c16_57 : decode prog_28_method_4_code 57 = .ok (.iload_n 1, 1) := by decide +kernel
theorem d6s1c16_58 : decode prog_28_method_4_code 58 = .ok (.lload_n 2, 1) := by decide +kernel
theorem d6s1c16_59 : decode prog_28_method_4_code 59 = .ok (.lastore, 1) := by decide +kernel
theorem d6s1c16_60 : decode prog_28_method_4_code 60 = .ok (.aload_n 0, 1) := by decide +kernel
theorem d6s1c16_61 : decode prog_28_method_4_code 61 = .ok (.dup, 1) := by decide +kernel
theorem d6s1c16_62 : decode prog_28_method_4_code 62 = .ok (.getfield 24, 3) := by decide +kernel
theorem d6s1c16_65 : decode prog_28_method_4_code 65 = .ok (.iconst 1, 1) := by decide +kernel
theorem d6s1c16_66 : decode prog_28_method_4_code 66 = .ok (.iadd, 1) := by decide +kernel
theorem d6s1c16_67 : decode prog_28_method_4_code 67 = .ok (.putfield 24, 3) := by decide +kernel
theorem d6s1c16_70 : decode prog_28_method_4_code 70 = .ok (.aload_n 0, 1) := by decide +kernel
theorem d6s1c16_71 : decode prog_28_method_4_code 71 = .ok (.iload_n 1, 1) := by decide +kernel
theorem d6s1c16_72 : decode prog_28_method_4_code 72 = .ok (.aload_n 0, 1) := by decide +kernel
theorem d6s1c16_73 : decode prog_28_method_4_code 73 = .ok (.getfield 24, 3) := by decide +kernel
theorem d6s1c16_76 : decode prog_28_method_4_code 76 = .ok (.iconst 1, 1) := by decide +kernel
theorem d6s1c16_77 : decode prog_28_method_4_code 77 = .ok (.isub, 1) := by decide +kernel
theorem d6s1c16_78 : decode prog_28_method_4_code 78 = .ok (.invokevirtual 38, 3) := by decide +kernel
theorem d6s1c16_81 : decode prog_28_method_4_code 81 = .ok (.goto 32, 3) := by decide +kernel
theorem d6s1c16_113 : decode prog_28_method_4_code 113 = .ok (.return_, 1) := by decide +kernel
theorem pn_6s1c16 : plainName "com/example/volens/volens/core/agent/TurnQueue" = true := by first | (simp [plainName, overriddenIn]; done) | decide +kernel
theorem pd6s1c16_0 : parseMethodDescriptor "(II)V" = some ⟨[.int, .int], none⟩ := by decide +kernel
theorem ef_6s1c16 (m : MethodId) (x0 : Addr) (x1 : Int32) (x2 : Int64) : entryFrame m #[(.ref x0), (.int x1), (.long x2)] 4 = mkF m 0 #[.val (.ref x0), .val (.int x1), .val (.long x2), .second] [] := by first | (simp [entryFrame, mkF, argsToLocals, Value.category]; done) | rfl
def Q6s1c16 (Z : State) (a1 : Addr) (p2 : Int32) (q3 : Int64) (ha : Addr) (ta : Addr) (pa : Addr) (f0 : Int32) (f1 : Int32) (pf : (Nat → Int32)) (h0 : Heap) (n0 : Nat) (v : Option Value) (h : Heap) (L : List Loc) : Prop := ∃ (y0 : Int32) (y1 : Int32) (yf : (Nat → Int32)), v = none ∧ Fr n0 L ∧ Keep h0 h [a1, ha, ta, pa] ∧ ownTQ Z h n0 a1 ha ta pa (2 : Int32) (16 : Int32) y0 y1 yf ∧ (¬ y0 < 0 ∧ y0 < (16 : Int32)) ∧ (¬ y1 < 0 ∧ y1 < (16 : Int32))
set_option maxRecDepth 65536 in
set_option maxHeartbeats 40000000 in
theorem rm6s1c16 (l : Launch) (Z : State) (a0 : Array Value) (hw : ∀ d ∈ tables_1, d.before a0 Z = true) (ws : List Jvm.Cond) (a1 : Addr) (p2 : Int32) (q3 : Int64) (ha : Addr) (ta : Addr) (pa : Addr) (f0 : Int32) (f1 : Int32) (pf : (Nat → Int32)) (h0 : Heap) (n0 : Nat) (Z0 : n0 ≤ h0.size) (B0 : ownTQ Z h0 n0 a1 ha ta pa (1 : Int32) (16 : Int32) f0 f1 pf) (hbd : (¬ p2 < 0 ∧ p2 < (16 : Int32))) (hq : pf (p2).toNatClampNeg = (-1 : Int32)) (hf : (¬ f0 < 0 ∧ f0 < (16 : Int32))) :
    MetFree l (⟨"com/example/volens/volens/core/agent/TurnQueue", "set", "(IJ)V"⟩ : MethodName) (head1 (Jvm.Cond.code (⟨"com/example/volens/volens/core/agent/TurnQueue", "set", "(IJ)V"⟩ : MethodName) prog_28_method_4_code 4 none :: ws) ({ frames := 3, cells := 0, slots := 0, locals := 48 } : Room)) (fun a U => a = #[(.ref a1), (.int p2), (.long q3)] ∧ Z.Warmed39 U.vm ∧ U.heap = h0) (fun _ _ _ _ _ => True) (fun _ U o U' => ∃ v L, o = .returned v ∧ Q6s1c16 Z a1 p2 q3 ha ta pa f0 f1 pf h0 n0 v U'.heap L ∧ FrameEnd U o U' L ({ frames := 3, cells := 0, slots := 0, locals := 48 } : Room).cells ({ frames := 3, cells := 0, slots := 0, locals := 48 } : Room).slots) := by
  have ww1 := hw _ (List.mem_of_getElem? (i := 1) rfl)
  have ww2 := hw _ (List.mem_of_getElem? (i := 2) rfl)
  have ww10 := hw _ (List.mem_of_getElem? (i := 10) rfl)
  have ww11 := hw _ (List.mem_of_getElem? (i := 11) rfl)
  have ww13 := hw _ (List.mem_of_getElem? (i := 13) rfl)
  have ww14 := hw _ (List.mem_of_getElem? (i := 14) rfl)
  have ww22 := hw _ (List.mem_of_getElem? (i := 22) rfl)
  have ww23 := hw _ (List.mem_of_getElem? (i := 23) rfl)
  have ww29 := hw _ (List.mem_of_getElem? (i := 29) rfl)
  have ww30 := hw _ (List.mem_of_getElem? (i := 30) rfl)
  have ww36 := hw _ (List.mem_of_getElem? (i := 36) rfl)
  have ww37 := hw _ (List.mem_of_getElem? (i := 37) rfl)
  have ww38 := hw _ (List.mem_of_getElem? (i := 38) rfl)
  have ww39 := hw _ (List.mem_of_getElem? (i := 39) rfl)
  refine MetFree.of_bodySF (plainFor_of_name pn_6s1c16) hisR ?_
  intro p e s m args below meth c s₁ Bd hml0 hP hK
  obtain ⟨rfl, hZ, hh⟩ := hP
  have hx := Bd.exec
  have hby := Bd.bytes
  have hlk : meth.locks = false := Bd.notSynchronized
  have hret := Bd.returns
  have hml : c.maxLocals = 4 := hml0
  have hown : s.vm.findClass "com/example/volens/volens/core/agent/TurnQueue" = some m.cls := findClass_of_methodNamed Bd.named
  have hnm := (name_of_methodNamed Bd.named Bd.method).1
  have X0 : Stand p l e ({ frames := 3, cells := 0, slots := 0, locals := 48 } : Room) s m #[(.ref a1), (.int p2), (.long q3)] below meth c s₁ [] 0 0 := Stand.of_body Bd
  have e0 : s₁.heap = h0 := by rw [← hh, Bd.state]; rfl
  have N0 := Fr.nil n0
  have K0 := Keep.refl h0 [a1, ha, ta, pa]
  show OwnEnd p e below s (Q6s1c16 Z a1 p2 q3 ha ta pa f0 f1 pf h0 n0) ({ frames := 3, cells := 0, slots := 0, locals := 48 } : Room).cells ({ frames := 3, cells := 0, slots := 0, locals := 48 } : Room).slots _
  refine OwnEnd.go (fun _ k => castTop (ef_6s1c16 m a1 p2 q3) k) ?_
  have B_101 := B0
  obtain ⟨ga_101, gh_101, gt_101, gp_101, n1_101, n2_101, n3_101, n4_101, n5_101, n6_101, E1_101, F_h_101, F_t_101, F_p_101, F_s_101, ⟨kh_101, V_h_101⟩, V_t_101, V_p_101⟩ := B_101
  show OwnEnd p e below s _ _ _ (s₁.setTop (mkF m 0 #[.val (.ref a1), .val (.int p2), .val (.long q3), .second] []))
  refine OwnEnd.go (fun _ k => XS.iloadN X0.here hx rfl (hb hby d6s1c16_0) rfl  k) ?_
  show OwnEnd p e below s _ _ _ (s₁.setTop (mkF m 1 #[.val (.ref a1), .val (.int p2), .val (.long q3), .second] [(.int p2)]))
  refine OwnEnd.go (fun _ k => XS.aloadN X0.here hx rfl (hb hby d6s1c16_1) rfl rfl k) ?_
  show OwnEnd p e below s _ _ _ (s₁.setTop (mkF m 2 #[.val (.ref a1), .val (.int p2), .val (.long q3), .second] [(.ref a1), (.int p2)]))
  obtain ⟨T102, X102, e102, st102⟩ := getF X0 hx hZ hown (host := "") (Or.inl ww22) Via.refl e0 F_p_101 (g := (mkF m 2 #[.val (.ref a1), .val (.int p2), .val (.long q3), .second] [(.ref a1), (.int p2)])) rfl rfl (hb hby d6s1c16_2)
  refine OwnEnd.go (fun _ k => st102 _ k) ?_
  show OwnEnd p e below s _ _ _ (T102.setTop (mkF m 5 #[.val (.ref a1), .val (.int p2), .val (.long q3), .second] [(.ref pa), (.int p2)]))
  refine OwnEnd.go (fun _ k => ownAlen X102 hx hZ e102 V_p_101 (g := (mkF m 5 #[.val (.ref a1), .val (.int p2), .val (.long q3), .second] [(.ref pa), (.int p2)])) rfl rfl (hb hby d6s1c16_5) _ k) ?_
  show OwnEnd p e below s _ _ _ (T102.setTop (mkF m 6 #[.val (.ref a1), .val (.int p2), .val (.long q3), .second] [(.int (16 : Int32)), (.int p2)]))
  refine OwnEnd.go (fun _ k => XS.icmpYes X102.here hx rfl (pc0 := 6) (pc' := 14) rfl (hb hby d6s1c16_6) rfl (tlt hbd.2).1 (by decide) (by decide) k) ?_
  show OwnEnd p e below s _ _ _ (T102.setTop (mkF m 14 #[.val (.ref a1), .val (.int p2), .val (.long q3), .second] []))
  refine OwnEnd.go (fun _ k => XS.aloadN X102.here hx rfl (hb hby d6s1c16_14) rfl rfl k) ?_
  show OwnEnd p e below s _ _ _ (T102.setTop (mkF m 15 #[.val (.ref a1), .val (.int p2), .val (.long q3), .second] [(.ref a1)]))
  obtain ⟨T104, X104, e104, st104⟩ := getF X102 hx hZ hown (host := "") (Or.inl ww22) Via.refl e102 F_p_101 (g := (mkF m 15 #[.val (.ref a1), .val (.int p2), .val (.long q3), .second] [(.ref a1)])) rfl rfl (hb hby d6s1c16_15)
  refine OwnEnd.go (fun _ k => st104 _ k) ?_
  show OwnEnd p e below s _ _ _ (T104.setTop (mkF m 18 #[.val (.ref a1), .val (.int p2), .val (.long q3), .second] [(.ref pa)]))
  refine OwnEnd.go (fun _ k => XS.iloadN X104.here hx rfl (hb hby d6s1c16_18) rfl  k) ?_
  show OwnEnd p e below s _ _ _ (T104.setTop (mkF m 19 #[.val (.ref a1), .val (.int p2), .val (.long q3), .second] [(.int p2), (.ref pa)]))
  refine OwnEnd.go (fun _ k => ownAload X104 hx hZ e104 V_p_101 (j := p2) hbd (g := (mkF m 19 #[.val (.ref a1), .val (.int p2), .val (.long q3), .second] [(.int p2), (.ref pa)])) rfl rfl (hb hby d6s1c16_19) _ k) ?_
  show OwnEnd p e below s _ _ _ (T104.setTop (mkF m 20 #[.val (.ref a1), .val (.int p2), .val (.long q3), .second] [(.int (pf (p2).toNatClampNeg))]))
  refine OwnEnd.go (fun _ k => XS.iconst X104.here hx rfl (hb hby d6s1c16_20) k) ?_
  show OwnEnd p e below s _ _ _ (T104.setTop (mkF m 21 #[.val (.ref a1), .val (.int p2), .val (.long q3), .second] [(.int (-1 : Int32)), (.int (pf (p2).toNatClampNeg))]))
  refine OwnEnd.go (fun _ k => XS.icmpNo X104.here hx rfl (hb hby d6s1c16_21) rfl (teq hq).2 k) ?_
  show OwnEnd p e below s _ _ _ (T104.setTop (mkF m 24 #[.val (.ref a1), .val (.int p2), .val (.long q3), .second] []))
  refine OwnEnd.go (fun _ k => XS.aloadN X104.here hx rfl (hb hby d6s1c16_24) rfl rfl k) ?_
  show OwnEnd p e below s _ _ _ (T104.setTop (mkF m 25 #[.val (.ref a1), .val (.int p2), .val (.long q3), .second] [(.ref a1)]))
  obtain ⟨T106, X106, e106, st106⟩ := getF X104 hx hZ hown (host := "") (Or.inl ww29) Via.refl e104 F_s_101 (g := (mkF m 25 #[.val (.ref a1), .val (.int p2), .val (.long q3), .second] [(.ref a1)])) rfl rfl (hb hby d6s1c16_25)
  refine OwnEnd.go (fun _ k => st106 _ k) ?_
  show OwnEnd p e below s _ _ _ (T106.setTop (mkF m 28 #[.val (.ref a1), .val (.int p2), .val (.long q3), .second] [(.int (1 : Int32))]))
  refine OwnEnd.go (fun _ k => XS.aloadN X106.here hx rfl (hb hby d6s1c16_28) rfl rfl k) ?_
  show OwnEnd p e below s _ _ _ (T106.setTop (mkF m 29 #[.val (.ref a1), .val (.int p2), .val (.long q3), .second] [(.ref a1), (.int (1 : Int32))]))
  obtain ⟨T107, X107, e107, st107⟩ := getF X106 hx hZ hown (host := "") (Or.inl ww10) Via.refl e106 F_h_101 (g := (mkF m 29 #[.val (.ref a1), .val (.int p2), .val (.long q3), .second] [(.ref a1), (.int (1 : Int32))])) rfl rfl (hb hby d6s1c16_29)
  refine OwnEnd.go (fun _ k => st107 _ k) ?_
  show OwnEnd p e below s _ _ _ (T107.setTop (mkF m 32 #[.val (.ref a1), .val (.int p2), .val (.long q3), .second] [(.ref ha), (.int (1 : Int32))]))
  obtain ⟨c108, Ar108, q108, S108, G108, H108, J108⟩ := id V_h_101
  refine OwnEnd.go (fun _ k => ownLen X107 hx hZ e107 Ar108 S108 G108 (g := (mkF m 32 #[.val (.ref a1), .val (.int p2), .val (.long q3), .second] [(.ref ha), (.int (1 : Int32))])) rfl rfl (hb hby d6s1c16_32) _ k) ?_
  show OwnEnd p e below s _ _ _ (T107.setTop (mkF m 33 #[.val (.ref a1), .val (.int p2), .val (.long q3), .second] [(.int (16 : Int32)), (.int (1 : Int32))]))
  refine OwnEnd.go (fun _ k => XS.icmpYes X107.here hx rfl (pc0 := 33) (pc' := 53) rfl (hb hby d6s1c16_33) rfl (feq (by decide : ¬ (1 : Int32) = (16 : Int32))).2 (by decide) (by decide) k) ?_
  show OwnEnd p e below s _ _ _ (T107.setTop (mkF m 53 #[.val (.ref a1), .val (.int p2), .val (.long q3), .second] []))
  refine OwnEnd.go (fun _ k => XS.aloadN X107.here hx rfl (hb hby d6s1c16_53) rfl rfl k) ?_
  show OwnEnd p e below s _ _ _ (T107.setTop (mkF m 54 #[.val (.ref a1), .val (.int p2), .val (.long q3), .second] [(.ref a1)]))
  obtain ⟨T109, X109, e109, st109⟩ := getF X107 hx hZ hown (host := "") (Or.inl ww13) Via.refl e107 F_t_101 (g := (mkF m 54 #[.val (.ref a1), .val (.int p2), .val (.long q3), .second] [(.ref a1)])) rfl rfl (hb hby d6s1c16_54)
  refine OwnEnd.go (fun _ k => st109 _ k) ?_
  show OwnEnd p e below s _ _ _ (T109.setTop (mkF m 57 #[.val (.ref a1), .val (.int p2), .val (.long q3), .second] [(.ref ta)]))
  refine OwnEnd.go (fun _ k => XS.iloadN X109.here hx rfl (hb hby d6s1c16_57) rfl  k) ?_
  show OwnEnd p e below s _ _ _ (T109.setTop (mkF m 58 #[.val (.ref a1), .val (.int p2), .val (.long q3), .second] [(.int p2), (.ref ta)]))
  refine OwnEnd.go (fun _ k => XS.lloadN X109.here hx rfl (hb hby d6s1c16_58) rfl  k) ?_
  show OwnEnd p e below s _ _ _ (T109.setTop (mkF m 59 #[.val (.ref a1), .val (.int p2), .val (.long q3), .second] [(.long q3), (.int p2), (.ref ta)]))
  obtain ⟨T110, h110, X110, e110, W110, V110, st110⟩ := ownLstore X109 hx hZ e109 V_t_101 (j := p2) hbd (g := (mkF m 59 #[.val (.ref a1), .val (.int p2), .val (.long q3), .second] [(.long q3), (.int p2), (.ref ta)])) rfl rfl (hb hby d6s1c16_59)
  have F111 := E1_101.wr W110
  have F112 := F_h_101.other W110 (Or.inl n2_101)
  have F113 := F_t_101.other W110 (Or.inl n2_101)
  have F114 := F_p_101.other W110 (Or.inl n2_101)
  have F115 := F_s_101.other W110 (Or.inl n2_101)
  have F116 := V_h_101.other W110 n4_101
  have F118 := V_p_101.other W110 (Ne.symm n6_101)
  have N110 := Fr.snoc X110 N0 gt_101
  have K110 := K0.wr W110 (Or.inl (List.mem_of_getElem? (i := 2) rfl))
  have Y110 := Nat.le_trans Z0 (Nat.le_of_eq W110.size.symm)
  refine OwnEnd.go (fun _ k => st110 _ k) ?_
  show OwnEnd p e below s _ _ _ (T110.setTop (mkF m 60 #[.val (.ref a1), .val (.int p2), .val (.long q3), .second] []))
  refine OwnEnd.go (fun _ k => XS.aloadN X110.here hx rfl (hb hby d6s1c16_60) rfl rfl k) ?_
  show OwnEnd p e below s _ _ _ (T110.setTop (mkF m 61 #[.val (.ref a1), .val (.int p2), .val (.long q3), .second] [(.ref a1)]))
  refine OwnEnd.go (fun _ k => XS.dup X110.here hx rfl (hb hby d6s1c16_61) rfl rfl k) ?_
  show OwnEnd p e below s _ _ _ (T110.setTop (mkF m 62 #[.val (.ref a1), .val (.int p2), .val (.long q3), .second] [(.ref a1), (.ref a1)]))
  obtain ⟨T119, X119, e119, st119⟩ := getF X110 hx hZ hown (host := "") (Or.inl ww29) Via.refl e110 F115 (g := (mkF m 62 #[.val (.ref a1), .val (.int p2), .val (.long q3), .second] [(.ref a1), (.ref a1)])) rfl rfl (hb hby d6s1c16_62)
  refine OwnEnd.go (fun _ k => st119 _ k) ?_
  show OwnEnd p e below s _ _ _ (T119.setTop (mkF m 65 #[.val (.ref a1), .val (.int p2), .val (.long q3), .second] [(.int (1 : Int32)), (.ref a1)]))
  refine OwnEnd.go (fun _ k => XS.iconst X119.here hx rfl (hb hby d6s1c16_65) k) ?_
  show OwnEnd p e below s _ _ _ (T119.setTop (mkF m 66 #[.val (.ref a1), .val (.int p2), .val (.long q3), .second] [(.int (1 : Int32)), (.int (1 : Int32)), (.ref a1)]))
  refine OwnEnd.go (fun _ k => XS.iadd X119.here hx rfl (hb hby d6s1c16_66) rfl k) ?_
  show OwnEnd p e below s _ _ _ (T119.setTop (mkF m 67 #[.val (.ref a1), .val (.int p2), .val (.long q3), .second] [(.int (2 : Int32)), (.ref a1)]))
  obtain ⟨T120, h120, X120, e120, W120, st120⟩ := putF X119 hx hZ hown (host := "") (Or.inl ww29) Via.refl e119 F115 F111 (Or.inl ww30) ww1 (ty := .int) (by decide) rfl rfl (g := (mkF m 67 #[.val (.ref a1), .val (.int p2), .val (.long q3), .second] [(.int (2 : Int32)), (.ref a1)])) rfl rfl (hb hby d6s1c16_67)
  have F121 := F111.wr W120
  have F122 := F112.other W120 (Or.inr (slot_ne (Or.inl ww11) (Or.inl ww30) (by decide) (t := (.array .int)) (t' := .int) (by decide) (by decide)))
  have F123 := F113.other W120 (Or.inr (slot_ne (Or.inl ww14) (Or.inl ww30) (by decide) (t := (.array .long)) (t' := .int) (by decide) (by decide)))
  have F124 := F114.other W120 (Or.inr (slot_ne (Or.inl ww23) (Or.inl ww30) (by decide) (t := (.array .int)) (t' := .int) (by decide) (by decide)))
  have F125 := F115.same W120
  have F126 := F116.other W120 (Ne.symm n1_101)
  have F127 := F118.other W120 (Ne.symm n3_101)
  have F128 := V110.other W120 (Ne.symm n2_101)
  have N120 := Fr.snoc X120 N110 ga_101
  have K120 := K110.wr W120 (Or.inl (List.mem_of_getElem? (i := 0) rfl))
  have Y120 := Nat.le_trans Y110 (Nat.le_of_eq W120.size.symm)
  refine OwnEnd.go (fun _ k => st120 _ k) ?_
  show OwnEnd p e below s _ _ _ (T120.setTop (mkF m 70 #[.val (.ref a1), .val (.int p2), .val (.long q3), .second] []))
  refine OwnEnd.go (fun _ k => XS.aloadN X120.here hx rfl (hb hby d6s1c16_70) rfl rfl k) ?_
  show OwnEnd p e below s _ _ _ (T120.setTop (mkF m 71 #[.val (.ref a1), .val (.int p2), .val (.long q3), .second] [(.ref a1)]))
  refine OwnEnd.go (fun _ k => XS.iloadN X120.here hx rfl (hb hby d6s1c16_71) rfl  k) ?_
  show OwnEnd p e below s _ _ _ (T120.setTop (mkF m 72 #[.val (.ref a1), .val (.int p2), .val (.long q3), .second] [(.int p2), (.ref a1)]))
  refine OwnEnd.go (fun _ k => XS.aloadN X120.here hx rfl (hb hby d6s1c16_72) rfl rfl k) ?_
  show OwnEnd p e below s _ _ _ (T120.setTop (mkF m 73 #[.val (.ref a1), .val (.int p2), .val (.long q3), .second] [(.ref a1), (.int p2), (.ref a1)]))
  obtain ⟨T129, X129, e129, st129⟩ := getF X120 hx hZ hown (host := "") (Or.inl ww29) Via.refl e120 F125 (g := (mkF m 73 #[.val (.ref a1), .val (.int p2), .val (.long q3), .second] [(.ref a1), (.int p2), (.ref a1)])) rfl rfl (hb hby d6s1c16_73)
  refine OwnEnd.go (fun _ k => st129 _ k) ?_
  show OwnEnd p e below s _ _ _ (T129.setTop (mkF m 76 #[.val (.ref a1), .val (.int p2), .val (.long q3), .second] [(.int (2 : Int32)), (.int p2), (.ref a1)]))
  refine OwnEnd.go (fun _ k => XS.iconst X129.here hx rfl (hb hby d6s1c16_76) k) ?_
  show OwnEnd p e below s _ _ _ (T129.setTop (mkF m 77 #[.val (.ref a1), .val (.int p2), .val (.long q3), .second] [(.int (1 : Int32)), (.int (2 : Int32)), (.int p2), (.ref a1)]))
  refine OwnEnd.go (fun _ k => XS.isub X129.here hx rfl (hb hby d6s1c16_77) rfl k) ?_
  show OwnEnd p e below s _ _ _ (T129.setTop (mkF m 78 #[.val (.ref a1), .val (.int p2), .val (.long q3), .second] [(.int (1 : Int32)), (.int p2), (.ref a1)]))
  have Bn130 : ownTQ Z h120 n0 a1 ha ta pa (2 : Int32) (16 : Int32) f0 f1 pf := ⟨ga_101, gh_101, gt_101, gp_101, n1_101, n2_101, n3_101, n4_101, n5_101, n6_101, F121, F122, F123, F124, F125, ⟨_, F126⟩, F128, F127⟩
  obtain ⟨_, T131, L131, X131, hQ131, st131⟩ := ownCallP X129 hx hZ hown ww36 ww38 (ownSel (by decide) ww1 ww38 ww37) ww37 ww2 ww39 (by decide) (rm7d1 l Z a0 hw [] a1 p2 ha ta pa (2 : Int32) (16 : Int32) f0 f1 pf h120 n0 Y120  Bn130 hbd hf) e129 F121 0 (by decide) (by decide) (by decide) (by decide) (g := (mkF m 78 #[.val (.ref a1), .val (.int p2), .val (.long q3), .second] [(.int (1 : Int32)), (.int p2), (.ref a1)])) rfl (by rw [hml]; rfl) (argsL := [(.int p2), (.int (1 : Int32))]) (rest := []) (lenOf pd6s1c16_0 rfl) rfl rfl (by show 2 * 0 + _ ≤ _; exact Nat.le_of_eq rfl) (hb hby d6s1c16_78)
  obtain ⟨y135, y136, y137, hQ131⟩ := hQ131
  obtain ⟨rfl, N131q, K131q, P132, P133, P134⟩ := hQ131
  have N131 := Fr.app N120 N131q
  have F138 := F121.keep K131q
  have K131 := K120.trans K131q (allS (Or.inl (List.mem_of_getElem? (i := 0) rfl)) (allS (Or.inl (List.mem_of_getElem? (i := 1) rfl)) (allS (Or.inl (List.mem_of_getElem? (i := 2) rfl)) (allS (Or.inl (List.mem_of_getElem? (i := 3) rfl)) all0))))
  have Y131 := Nat.le_trans Y120 K131q.1
  refine OwnEnd.go (fun _ k => st131 _ k) ?_
  show OwnEnd p e below s _ _ _ (T131.setTop (mkF m 81 #[.val (.ref a1), .val (.int p2), .val (.long q3), .second] []))
  refine OwnEnd.go (fun _ k => XS.goto X131.here hx rfl (pc0 := 81) (pc' := 113) rfl (hb hby d6s1c16_81) (by decide) (by decide) k) ?_
  show OwnEnd p e below s _ _ _ (T131.setTop (mkF m 113 #[.val (.ref a1), .val (.int p2), .val (.long q3), .second] []))
  refine ownRetV X131 hx hlk hret (hb hby d6s1c16_113) (by decide) (by decide) ?_
  show Q6s1c16 Z a1 p2 q3 ha ta pa f0 f1 pf h0 n0 _ T131.heap _
  exact ⟨y135, y136, _, rfl, N131, K131, P132, P133, P134⟩
theorem d5z2_0 : decode prog_28_method_2_code 0 = .ok (.aload_n 0, 1) := by decide +kernel
theorem d5z2_1 : decode prog_28_method_2_code 1 = .ok (.getfield 24, 3) := by decide +kernel
theorem d5z2_4 : decode prog_28_method_2_code 4 = .ok (.ifCond .ne 7, 3) := by decide +kernel
theorem d5z2_11 : decode prog_28_method_2_code 11 = .ok (.iconst 0, 1) := by decide +kernel
theorem d5z2_12 : decode prog_28_method_2_code 12 = .ok (.ireturn, 1) := by decide +kernel
theorem pn_5z2 : plainName "com/example/volens/volens/core/agent/TurnQueue" = true := by first | (simp [plainName, overriddenIn]; done) | decide +kernel
theorem ef_5z2 (m : MethodId) (x0 : Addr) : entryFrame m #[(.ref x0)] 1 = mkF m 0 #[.val (.ref x0)] [] := by first | (simp [entryFrame, mkF, argsToLocals, Value.category]; done) | rfl
def Q5z2 (Z : State) (a1 : Addr) (ha : Addr) (ta : Addr) (pa : Addr) (cap : Int32) (f0 : Int32) (f1 : Int32) (pf : (Nat → Int32)) (h0 : Heap) (n0 : Nat) (v : Option Value) (h : Heap) (L : List Loc) : Prop := v = some (.int (0 : Int32)) ∧ Fr n0 L ∧ h = h0
set_option maxRecDepth 65536 in
set_option maxHeartbeats 40000000 in
theorem rm5z2 (l : Launch) (Z : State) (a0 : Array Value) (hw : ∀ d ∈ tables_1, d.before a0 Z = true) (ws : List Jvm.Cond) (a1 : Addr) (ha : Addr) (ta : Addr) (pa : Addr) (cap : Int32) (f0 : Int32) (f1 : Int32) (pf : (Nat → Int32)) (h0 : Heap) (n0 : Nat) (Z0 : n0 ≤ h0.size) (B0 : ownTQ Z h0 n0 a1 ha ta pa (2 : Int32) cap f0 f1 pf) :
    MetFree l (⟨"com/example/volens/volens/core/agent/TurnQueue", "isEmpty", "()Z"⟩ : MethodName) (head1 (Jvm.Cond.code (⟨"com/example/volens/volens/core/agent/TurnQueue", "isEmpty", "()Z"⟩ : MethodName) prog_28_method_2_code 1 (some .boolean) :: ws) ({ frames := 0, cells := 0, slots := 0, locals := 0 } : Room)) (fun a U => a = #[(.ref a1)] ∧ Z.Warmed39 U.vm ∧ U.heap = h0) (fun _ _ _ _ _ => True) (fun _ U o U' => ∃ v L, o = .returned v ∧ Q5z2 Z a1 ha ta pa cap f0 f1 pf h0 n0 v U'.heap L ∧ FrameEnd U o U' L ({ frames := 0, cells := 0, slots := 0, locals := 0 } : Room).cells ({ frames := 0, cells := 0, slots := 0, locals := 0 } : Room).slots) := by
  have ww29 := hw _ (List.mem_of_getElem? (i := 29) rfl)
  refine MetFree.of_bodySF (plainFor_of_name pn_5z2) hisR ?_
  intro p e s m args below meth c s₁ Bd hml0 hP hK
  obtain ⟨rfl, hZ, hh⟩ := hP
  have hx := Bd.exec
  have hby := Bd.bytes
  have hlk : meth.locks = false := Bd.notSynchronized
  have hret := Bd.returns
  have hml : c.maxLocals = 1 := hml0
  have hown : s.vm.findClass "com/example/volens/volens/core/agent/TurnQueue" = some m.cls := findClass_of_methodNamed Bd.named
  have hnm := (name_of_methodNamed Bd.named Bd.method).1
  have X0 : Stand p l e ({ frames := 0, cells := 0, slots := 0, locals := 0 } : Room) s m #[(.ref a1)] below meth c s₁ [] 0 0 := Stand.of_body Bd
  have e0 : s₁.heap = h0 := by rw [← hh, Bd.state]; rfl
  have N0 := Fr.nil n0
  have K0 := Keep.refl h0 []
  show OwnEnd p e below s (Q5z2 Z a1 ha ta pa cap f0 f1 pf h0 n0) ({ frames := 0, cells := 0, slots := 0, locals := 0 } : Room).cells ({ frames := 0, cells := 0, slots := 0, locals := 0 } : Room).slots _
  refine OwnEnd.go (fun _ k => castTop (ef_5z2 m a1) k) ?_
  have B_101 := B0
  obtain ⟨ga_101, gh_101, gt_101, gp_101, n1_101, n2_101, n3_101, n4_101, n5_101, n6_101, E1_101, F_h_101, F_t_101, F_p_101, F_s_101, ⟨kh_101, V_h_101⟩, V_t_101, V_p_101⟩ := B_101
  show OwnEnd p e below s _ _ _ (s₁.setTop (mkF m 0 #[.val (.ref a1)] []))
  refine OwnEnd.go (fun _ k => XS.aloadN X0.here hx rfl (hb hby d5z2_0) rfl rfl k) ?_
  show OwnEnd p e below s _ _ _ (s₁.setTop (mkF m 1 #[.val (.ref a1)] [(.ref a1)]))
  obtain ⟨T102, X102, e102, st102⟩ := getF X0 hx hZ hown (host := "") (Or.inl ww29) Via.refl e0 F_s_101 (g := (mkF m 1 #[.val (.ref a1)] [(.ref a1)])) rfl rfl (hb hby d5z2_1)
  refine OwnEnd.go (fun _ k => st102 _ k) ?_
  show OwnEnd p e below s _ _ _ (T102.setTop (mkF m 4 #[.val (.ref a1)] [(.int (2 : Int32))]))
  refine OwnEnd.go (fun _ k => XS.ifYes X102.here hx rfl (pc0 := 4) (pc' := 11) rfl (hb hby d5z2_4) rfl ((if0 _ _).trans (feq (by decide : ¬ (2 : Int32) = (0 : Int32))).2) (by decide) (by decide) k) ?_
  show OwnEnd p e below s _ _ _ (T102.setTop (mkF m 11 #[.val (.ref a1)] []))
  refine OwnEnd.go (fun _ k => XS.iconst X102.here hx rfl (hb hby d5z2_11) k) ?_
  show OwnEnd p e below s _ _ _ (T102.setTop (mkF m 12 #[.val (.ref a1)] [(.int (0 : Int32))]))
  refine ownRetZ X102 hx hlk hret (hb hby d5z2_12) (by decide) (by decide) (0 : Int32) (by decide) ?_
  show Q5z2 Z a1 ha ta pa cap f0 f1 pf h0 n0 _ T102.heap _
  rw [e102]
  exact ⟨rfl, N0, rfl⟩
theorem d14z2_0 : decode prog_28_method_5_code 0 = .ok (.aload_n 0, 1) := by decide +kernel
theorem d14z2_1 : decode prog_28_method_5_code 1 = .ok (.getfield 9, 3) := by decide +kernel
theorem d14z2_4 : decode prog_28_method_5_code 4 = .ok (.iconst 0, 1) := by decide +kernel
theorem d14z2_5 : decode prog_28_method_5_code 5 = .ok (.iaload, 1) := by decide +kernel
theorem d14z2_6 : decode prog_28_method_5_code 6 = .ok (.istore_n 1, 1) := by decide +kernel
theorem d14z2_7 : decode prog_28_method_5_code 7 = .ok (.aload_n 0, 1) := by decide +kernel
theorem d14z2_8 : decode prog_28_method_5_code 8 = .ok (.getfield 21, 3) := by decide +kernel
theorem d14z2_11 : decode prog_28_method_5_code 11 = .ok (.iload_n 1, 1) := by decide +kernel
theorem d14z2_12 : decode prog_28_method_5_code 12 = .ok (.iconst (-1), 1) := by decide +kernel
theorem d14z2_13 : decode prog_28_method_5_code 13 = .ok (.iastore, 1) := by decide +kernel
theorem d14z2_14 : decode prog_28_method_5_code 14 = .ok (.aload_n 0, 1) := by decide +kernel
theorem d14z2_15 : decode prog_28_method_5_code 15 = .ok (.dup, 1) := by decide +kernel
theorem d14z2_16 : decode prog_28_method_5_code 16 = .ok (.getfield 24, 3) := by decide +kernel
theorem d14z2_19 : decode prog_28_method_5_code 19 = .ok (.iconst 1, 1) := by decide +kernel
theorem d14z2_20 : decode prog_28_method_5_code 20 = .ok (.isub, 1) := by decide +kernel
theorem d14z2_21 : decode prog_28_method_5_code 21 = .ok (.putfield 24, 3) := by decide +kernel
theorem d14z2_24 : decode prog_28_method_5_code 24 = .ok (.aload_n 0, 1) := by decide +kernel
theorem d14z2_25 : decode prog_28_method_5_code 25 = .ok (.getfield 24, 3) := by decide +kernel
theorem d14z2_28 : decode prog_28_method_5_code 28 = .ok (.ifCond .le 17, 3) := by decide +kernel
theorem d14z2_31 : decode prog_28_method_5_code 31 = .ok (.aload_n 0, 1) := by decide +kernel
theorem d14z2_32 : decode prog_28_method_5_code 32 = .ok (.aload_n 0, 1) := by decide +kernel
theorem d14z2_33 : decode prog_28_method_5_code 33 = .ok (.getfield 9, 3) := by decide +kernel
theorem d14z2_36 : decode prog_28_method_5_code 36 = .ok (.aload_n 0, 1) := by decide +kernel
theorem d14z2_37 : decode prog_28_method_5_code 37 = .ok (.getfield 24, 3) := by decide +kernel
theorem d14z2_40 : decode prog_28_method_5_code 40 = .ok (.iaload, 1) := by decide +kernel
theorem d14z2_41 : decode prog_28_method_5_code 41 = .ok (.iconst 0, 1) := by decide +kernel
theorem d14z2_42 : decode prog_28_method_5_code 42 = .ok (.invokevirtual 42, 3) := by decide +kernel
theorem d14z2_45 : decode prog_28_method_5_code 45 = .ok (.iload_n 1, 1) := by decide +kernel
theorem d14z2_46 : decode prog_28_method_5_code 46 = .ok (.ireturn, 1) := by decide +kernel
theorem pn_14z2 : plainName "com/example/volens/volens/core/agent/TurnQueue" = true := by first | (simp [plainName, overriddenIn]; done) | decide +kernel
theorem pd14z2_0 : parseMethodDescriptor "(II)V" = some ⟨[.int, .int], none⟩ := by decide +kernel
theorem ef_14z2 (m : MethodId) (x0 : Addr) : entryFrame m #[(.ref x0)] 2 = mkF m 0 #[.val (.ref x0), .unset] [] := by first | (simp [entryFrame, mkF, argsToLocals, Value.category]; done) | rfl
def Q14z2 (Z : State) (a1 : Addr) (ha : Addr) (ta : Addr) (pa : Addr) (cap : Int32) (f0 : Int32) (f1 : Int32) (pf : (Nat → Int32)) (h0 : Heap) (n0 : Nat) (v : Option Value) (h : Heap) (L : List Loc) : Prop := v = some (.int f0) ∧ Fr n0 L ∧ Keep h0 h [a1, ha, ta, pa] ∧ ownTQ Z h n0 a1 ha ta pa (1 : Int32) cap f1 f1 (own_upd (own_upd pf f0 (-1 : Int32)) f1 (0 : Int32))
set_option maxRecDepth 65536 in
set_option maxHeartbeats 40000000 in
theorem rm14z2 (l : Launch) (Z : State) (a0 : Array Value) (hw : ∀ d ∈ tables_1, d.before a0 Z = true) (ws : List Jvm.Cond) (a1 : Addr) (ha : Addr) (ta : Addr) (pa : Addr) (cap : Int32) (f0 : Int32) (f1 : Int32) (pf : (Nat → Int32)) (h0 : Heap) (n0 : Nat) (Z0 : n0 ≤ h0.size) (B0 : ownTQ Z h0 n0 a1 ha ta pa (2 : Int32) cap f0 f1 pf) (hf : (¬ f0 < 0 ∧ f0 < cap)) (h1 : (¬ f1 < 0 ∧ f1 < cap)) :
    MetFree l (⟨"com/example/volens/volens/core/agent/TurnQueue", "takeFirst", "()I"⟩ : MethodName) (head1 (Jvm.Cond.code (⟨"com/example/volens/volens/core/agent/TurnQueue", "takeFirst", "()I"⟩ : MethodName) prog_28_method_5_code 2 (some .int) :: ws) ({ frames := 2, cells := 0, slots := 0, locals := 33 } : Room)) (fun a U => a = #[(.ref a1)] ∧ Z.Warmed39 U.vm ∧ U.heap = h0) (fun _ _ _ _ _ => True) (fun _ U o U' => ∃ v L, o = .returned v ∧ Q14z2 Z a1 ha ta pa cap f0 f1 pf h0 n0 v U'.heap L ∧ FrameEnd U o U' L ({ frames := 2, cells := 0, slots := 0, locals := 33 } : Room).cells ({ frames := 2, cells := 0, slots := 0, locals := 33 } : Room).slots) := by
  have ww1 := hw _ (List.mem_of_getElem? (i := 1) rfl)
  have ww2 := hw _ (List.mem_of_getElem? (i := 2) rfl)
  have ww10 := hw _ (List.mem_of_getElem? (i := 10) rfl)
  have ww11 := hw _ (List.mem_of_getElem? (i := 11) rfl)
  have ww14 := hw _ (List.mem_of_getElem? (i := 14) rfl)
  have ww22 := hw _ (List.mem_of_getElem? (i := 22) rfl)
  have ww23 := hw _ (List.mem_of_getElem? (i := 23) rfl)
  have ww29 := hw _ (List.mem_of_getElem? (i := 29) rfl)
  have ww30 := hw _ (List.mem_of_getElem? (i := 30) rfl)
  have ww73 := hw _ (List.mem_of_getElem? (i := 73) rfl)
  have ww74 := hw _ (List.mem_of_getElem? (i := 74) rfl)
  have ww75 := hw _ (List.mem_of_getElem? (i := 75) rfl)
  have ww76 := hw _ (List.mem_of_getElem? (i := 76) rfl)
  refine MetFree.of_bodySF (plainFor_of_name pn_14z2) hisR ?_
  intro p e s m args below meth c s₁ Bd hml0 hP hK
  obtain ⟨rfl, hZ, hh⟩ := hP
  have hx := Bd.exec
  have hby := Bd.bytes
  have hlk : meth.locks = false := Bd.notSynchronized
  have hret := Bd.returns
  have hml : c.maxLocals = 2 := hml0
  have hown : s.vm.findClass "com/example/volens/volens/core/agent/TurnQueue" = some m.cls := findClass_of_methodNamed Bd.named
  have hnm := (name_of_methodNamed Bd.named Bd.method).1
  have X0 : Stand p l e ({ frames := 2, cells := 0, slots := 0, locals := 33 } : Room) s m #[(.ref a1)] below meth c s₁ [] 0 0 := Stand.of_body Bd
  have e0 : s₁.heap = h0 := by rw [← hh, Bd.state]; rfl
  have N0 := Fr.nil n0
  have K0 := Keep.refl h0 [a1, ha, ta, pa]
  show OwnEnd p e below s (Q14z2 Z a1 ha ta pa cap f0 f1 pf h0 n0) ({ frames := 2, cells := 0, slots := 0, locals := 33 } : Room).cells ({ frames := 2, cells := 0, slots := 0, locals := 33 } : Room).slots _
  refine OwnEnd.go (fun _ k => castTop (ef_14z2 m a1) k) ?_
  have B_101 := B0
  obtain ⟨ga_101, gh_101, gt_101, gp_101, n1_101, n2_101, n3_101, n4_101, n5_101, n6_101, E1_101, F_h_101, F_t_101, F_p_101, F_s_101, ⟨kh_101, V_h_101⟩, V_t_101, V_p_101⟩ := B_101
  show OwnEnd p e below s _ _ _ (s₁.setTop (mkF m 0 #[.val (.ref a1), .unset] []))
  refine OwnEnd.go (fun _ k => XS.aloadN X0.here hx rfl (hb hby d14z2_0) rfl rfl k) ?_
  show OwnEnd p e below s _ _ _ (s₁.setTop (mkF m 1 #[.val (.ref a1), .unset] [(.ref a1)]))
  obtain ⟨T102, X102, e102, st102⟩ := getF X0 hx hZ hown (host := "") (Or.inl ww10) Via.refl e0 F_h_101 (g := (mkF m 1 #[.val (.ref a1), .unset] [(.ref a1)])) rfl rfl (hb hby d14z2_1)
  refine OwnEnd.go (fun _ k => st102 _ k) ?_
  show OwnEnd p e below s _ _ _ (T102.setTop (mkF m 4 #[.val (.ref a1), .unset] [(.ref ha)]))
  refine OwnEnd.go (fun _ k => XS.iconst X102.here hx rfl (hb hby d14z2_4) k) ?_
  show OwnEnd p e below s _ _ _ (T102.setTop (mkF m 5 #[.val (.ref a1), .unset] [(.int (0 : Int32)), (.ref ha)]))
  obtain ⟨c103, Ar103, q103, S103, G103, H103, J103⟩ := id V_h_101
  have i103 := inb_of (j := (0 : Int32)) S103 ⟨by decide, by decide⟩
  refine OwnEnd.go (fun _ k => X102.iaload hx (j := (0 : Int32)) (v := (.int f0)) (by rw [e102]; exact Ar103.1) (State.isArrayOf_alike hZ.alike Ar103.2.1) Ar103.2.2 i103 (Has.at H103 i103 rfl) (g := (mkF m 5 #[.val (.ref a1), .unset] [(.int (0 : Int32)), (.ref ha)])) rfl rfl (hb hby d14z2_5) _ k) ?_
  show OwnEnd p e below s _ _ _ (T102.setTop (mkF m 6 #[.val (.ref a1), .unset] [(.int f0)]))
  refine OwnEnd.go (fun _ k => XS.istoreN X102.here hx rfl (hb hby d14z2_6) rfl  (l' := #[.val (.ref a1), .val (.int f0)]) rfl k) ?_
  show OwnEnd p e below s _ _ _ (T102.setTop (mkF m 7 #[.val (.ref a1), .val (.int f0)] []))
  refine OwnEnd.go (fun _ k => XS.aloadN X102.here hx rfl (hb hby d14z2_7) rfl rfl k) ?_
  show OwnEnd p e below s _ _ _ (T102.setTop (mkF m 8 #[.val (.ref a1), .val (.int f0)] [(.ref a1)]))
  obtain ⟨T104, X104, e104, st104⟩ := getF X102 hx hZ hown (host := "") (Or.inl ww22) Via.refl e102 F_p_101 (g := (mkF m 8 #[.val (.ref a1), .val (.int f0)] [(.ref a1)])) rfl rfl (hb hby d14z2_8)
  refine OwnEnd.go (fun _ k => st104 _ k) ?_
  show OwnEnd p e below s _ _ _ (T104.setTop (mkF m 11 #[.val (.ref a1), .val (.int f0)] [(.ref pa)]))
  refine OwnEnd.go (fun _ k => XS.iloadN X104.here hx rfl (hb hby d14z2_11) rfl  k) ?_
  show OwnEnd p e below s _ _ _ (T104.setTop (mkF m 12 #[.val (.ref a1), .val (.int f0)] [(.int f0), (.ref pa)]))
  refine OwnEnd.go (fun _ k => XS.iconst X104.here hx rfl (hb hby d14z2_12) k) ?_
  show OwnEnd p e below s _ _ _ (T104.setTop (mkF m 13 #[.val (.ref a1), .val (.int f0)] [(.int (-1 : Int32)), (.int f0), (.ref pa)]))
  obtain ⟨T105, h105, X105, e105, W105, V105, st105⟩ := ownAstore X104 hx hZ e104 V_p_101 (j := f0) hf (g := (mkF m 13 #[.val (.ref a1), .val (.int f0)] [(.int (-1 : Int32)), (.int f0), (.ref pa)])) rfl rfl (hb hby d14z2_13)
  have F106 := E1_101.wr W105
  have F107 := F_h_101.other W105 (Or.inl n3_101)
  have F108 := F_t_101.other W105 (Or.inl n3_101)
  have F109 := F_p_101.other W105 (Or.inl n3_101)
  have F110 := F_s_101.other W105 (Or.inl n3_101)
  have F111 := V_h_101.other W105 n5_101
  have F112 := V_t_101.other W105 n6_101
  have N105 := Fr.snoc X105 N0 gp_101
  have K105 := K0.wr W105 (Or.inl (List.mem_of_getElem? (i := 3) rfl))
  have Y105 := Nat.le_trans Z0 (Nat.le_of_eq W105.size.symm)
  refine OwnEnd.go (fun _ k => st105 _ k) ?_
  show OwnEnd p e below s _ _ _ (T105.setTop (mkF m 14 #[.val (.ref a1), .val (.int f0)] []))
  refine OwnEnd.go (fun _ k => XS.aloadN X105.here hx rfl (hb hby d14z2_14) rfl rfl k) ?_
  show OwnEnd p e below s _ _ _ (T105.setTop (mkF m 15 #[.val (.ref a1), .val (.int f0)] [(.ref a1)]))
  refine OwnEnd.go (fun _ k => XS.dup X105.here hx rfl (hb hby d14z2_15) rfl rfl k) ?_
  show OwnEnd p e below s _ _ _ (T105.setTop (mkF m 16 #[.val (.ref a1), .val (.int f0)] [(.ref a1), (.ref a1)]))
  obtain ⟨T114, X114, e114, st114⟩ := getF X105 hx hZ hown (host := "") (Or.inl ww29) Via.refl e105 F110 (g := (mkF m 16 #[.val (.ref a1), .val (.int f0)] [(.ref a1), (.ref a1)])) rfl rfl (hb hby d14z2_16)
  refine OwnEnd.go (fun _ k => st114 _ k) ?_
  show OwnEnd p e below s _ _ _ (T114.setTop (mkF m 19 #[.val (.ref a1), .val (.int f0)] [(.int (2 : Int32)), (.ref a1)]))
  refine OwnEnd.go (fun _ k => XS.iconst X114.here hx rfl (hb hby d14z2_19) k) ?_
  show OwnEnd p e below s _ _ _ (T114.setTop (mkF m 20 #[.val (.ref a1), .val (.int f0)] [(.int (1 : Int32)), (.int (2 : Int32)), (.ref a1)]))
  refine OwnEnd.go (fun _ k => XS.isub X114.here hx rfl (hb hby d14z2_20) rfl k) ?_
  show OwnEnd p e below s _ _ _ (T114.setTop (mkF m 21 #[.val (.ref a1), .val (.int f0)] [(.int (1 : Int32)), (.ref a1)]))
  obtain ⟨T115, h115, X115, e115, W115, st115⟩ := putF X114 hx hZ hown (host := "") (Or.inl ww29) Via.refl e114 F110 F106 (Or.inl ww30) ww1 (ty := .int) (by decide) rfl rfl (g := (mkF m 21 #[.val (.ref a1), .val (.int f0)] [(.int (1 : Int32)), (.ref a1)])) rfl rfl (hb hby d14z2_21)
  have F116 := F106.wr W115
  have F117 := F107.other W115 (Or.inr (slot_ne (Or.inl ww11) (Or.inl ww30) (by decide) (t := (.array .int)) (t' := .int) (by decide) (by decide)))
  have F118 := F108.other W115 (Or.inr (slot_ne (Or.inl ww14) (Or.inl ww30) (by decide) (t := (.array .long)) (t' := .int) (by decide) (by decide)))
  have F119 := F109.other W115 (Or.inr (slot_ne (Or.inl ww23) (Or.inl ww30) (by decide) (t := (.array .int)) (t' := .int) (by decide) (by decide)))
  have F120 := F110.same W115
  have F121 := F111.other W115 (Ne.symm n1_101)
  have F122 := F112.other W115 (Ne.symm n2_101)
  have F123 := V105.other W115 (Ne.symm n3_101)
  have N115 := Fr.snoc X115 N105 ga_101
  have K115 := K105.wr W115 (Or.inl (List.mem_of_getElem? (i := 0) rfl))
  have Y115 := Nat.le_trans Y105 (Nat.le_of_eq W115.size.symm)
  refine OwnEnd.go (fun _ k => st115 _ k) ?_
  show OwnEnd p e below s _ _ _ (T115.setTop (mkF m 24 #[.val (.ref a1), .val (.int f0)] []))
  refine OwnEnd.go (fun _ k => XS.aloadN X115.here hx rfl (hb hby d14z2_24) rfl rfl k) ?_
  show OwnEnd p e below s _ _ _ (T115.setTop (mkF m 25 #[.val (.ref a1), .val (.int f0)] [(.ref a1)]))
  obtain ⟨T124, X124, e124, st124⟩ := getF X115 hx hZ hown (host := "") (Or.inl ww29) Via.refl e115 F120 (g := (mkF m 25 #[.val (.ref a1), .val (.int f0)] [(.ref a1)])) rfl rfl (hb hby d14z2_25)
  refine OwnEnd.go (fun _ k => st124 _ k) ?_
  show OwnEnd p e below s _ _ _ (T124.setTop (mkF m 28 #[.val (.ref a1), .val (.int f0)] [(.int (1 : Int32))]))
  refine OwnEnd.go (fun _ k => XS.ifNo X124.here hx rfl (hb hby d14z2_28) rfl ((if0 _ _).trans (tlt (by decide : (0 : Int32) < (1 : Int32))).2.2.2) k) ?_
  show OwnEnd p e below s _ _ _ (T124.setTop (mkF m 31 #[.val (.ref a1), .val (.int f0)] []))
  refine OwnEnd.go (fun _ k => XS.aloadN X124.here hx rfl (hb hby d14z2_31) rfl rfl k) ?_
  show OwnEnd p e below s _ _ _ (T124.setTop (mkF m 32 #[.val (.ref a1), .val (.int f0)] [(.ref a1)]))
  refine OwnEnd.go (fun _ k => XS.aloadN X124.here hx rfl (hb hby d14z2_32) rfl rfl k) ?_
  show OwnEnd p e below s _ _ _ (T124.setTop (mkF m 33 #[.val (.ref a1), .val (.int f0)] [(.ref a1), (.ref a1)]))
  obtain ⟨T125, X125, e125, st125⟩ := getF X124 hx hZ hown (host := "") (Or.inl ww10) Via.refl e124 F117 (g := (mkF m 33 #[.val (.ref a1), .val (.int f0)] [(.ref a1), (.ref a1)])) rfl rfl (hb hby d14z2_33)
  refine OwnEnd.go (fun _ k => st125 _ k) ?_
  show OwnEnd p e below s _ _ _ (T125.setTop (mkF m 36 #[.val (.ref a1), .val (.int f0)] [(.ref ha), (.ref a1)]))
  refine OwnEnd.go (fun _ k => XS.aloadN X125.here hx rfl (hb hby d14z2_36) rfl rfl k) ?_
  show OwnEnd p e below s _ _ _ (T125.setTop (mkF m 37 #[.val (.ref a1), .val (.int f0)] [(.ref a1), (.ref ha), (.ref a1)]))
  obtain ⟨T126, X126, e126, st126⟩ := getF X125 hx hZ hown (host := "") (Or.inl ww29) Via.refl e125 F120 (g := (mkF m 37 #[.val (.ref a1), .val (.int f0)] [(.ref a1), (.ref ha), (.ref a1)])) rfl rfl (hb hby d14z2_37)
  refine OwnEnd.go (fun _ k => st126 _ k) ?_
  show OwnEnd p e below s _ _ _ (T126.setTop (mkF m 40 #[.val (.ref a1), .val (.int f0)] [(.int (1 : Int32)), (.ref ha), (.ref a1)]))
  obtain ⟨c127, Ar127, q127, S127, G127, H127, J127⟩ := id F121
  have i127 := inb_of (j := (1 : Int32)) S127 ⟨by decide, by decide⟩
  refine OwnEnd.go (fun _ k => X126.iaload hx (j := (1 : Int32)) (v := (.int f1)) (by rw [e126]; exact Ar127.1) (State.isArrayOf_alike hZ.alike Ar127.2.1) Ar127.2.2 i127 (Has.at H127 i127 rfl) (g := (mkF m 40 #[.val (.ref a1), .val (.int f0)] [(.int (1 : Int32)), (.ref ha), (.ref a1)])) rfl rfl (hb hby d14z2_40) _ k) ?_
  show OwnEnd p e below s _ _ _ (T126.setTop (mkF m 41 #[.val (.ref a1), .val (.int f0)] [(.int f1), (.ref a1)]))
  refine OwnEnd.go (fun _ k => XS.iconst X126.here hx rfl (hb hby d14z2_41) k) ?_
  show OwnEnd p e below s _ _ _ (T126.setTop (mkF m 42 #[.val (.ref a1), .val (.int f0)] [(.int (0 : Int32)), (.int f1), (.ref a1)]))
  have Bn128 : ownTQ Z h115 n0 a1 ha ta pa (1 : Int32) cap f0 f1 (own_upd pf f0 (-1 : Int32)) := ⟨ga_101, gh_101, gt_101, gp_101, n1_101, n2_101, n3_101, n4_101, n5_101, n6_101, F116, F117, F118, F119, F120, ⟨_, F121⟩, F122, F123⟩
  obtain ⟨_, T129, L129, X129, hQ129, st129⟩ := ownCallP X126 hx hZ hown ww73 ww75 (ownSel (by decide) ww1 ww75 ww74) ww74 ww2 ww76 (by decide) (rm15 l Z a0 hw [] a1 f1 ha ta pa cap f0 f1 (own_upd pf f0 (-1 : Int32)) h115 n0 Y115  Bn128 h1) e126 F116 0 (by decide) (by decide) (by decide) (by decide) (g := (mkF m 42 #[.val (.ref a1), .val (.int f0)] [(.int (0 : Int32)), (.int f1), (.ref a1)])) rfl (by rw [hml]; rfl) (argsL := [(.int f1), (.int (0 : Int32))]) (rest := []) (lenOf pd14z2_0 rfl) rfl rfl (by show 2 * 0 + _ ≤ _; exact Nat.le_of_eq rfl) (hb hby d14z2_42)
  obtain ⟨rfl, N129q, K129q, P130⟩ := hQ129
  have N129 := Fr.app N115 N129q
  have F131 := F116.keep K129q
  have K129 := K115.trans K129q (allS (Or.inl (List.mem_of_getElem? (i := 0) rfl)) (allS (Or.inl (List.mem_of_getElem? (i := 1) rfl)) (allS (Or.inl (List.mem_of_getElem? (i := 2) rfl)) (allS (Or.inl (List.mem_of_getElem? (i := 3) rfl)) all0))))
  have Y129 := Nat.le_trans Y115 K129q.1
  refine OwnEnd.go (fun _ k => st129 _ k) ?_
  show OwnEnd p e below s _ _ _ (T129.setTop (mkF m 45 #[.val (.ref a1), .val (.int f0)] []))
  refine OwnEnd.go (fun _ k => XS.iloadN X129.here hx rfl (hb hby d14z2_45) rfl  k) ?_
  show OwnEnd p e below s _ _ _ (T129.setTop (mkF m 46 #[.val (.ref a1), .val (.int f0)] [(.int f0)]))
  refine ownRetI X129 hx hlk hret (hb hby d14z2_46) (by decide) (by decide) ?_
  show Q14z2 Z a1 ha ta pa cap f0 f1 pf h0 n0 _ T129.heap _
  exact ⟨rfl, N129, K129, P130⟩
theorem d6s1c16g_0 : decode prog_28_method_4_code 0 = .ok (.iload_n 1, 1) := by decide +kernel
theorem d6s1c16g_1 : decode prog_28_method_4_code 1 = .ok (.aload_n 0, 1) := by decide +kernel
theorem d6s1c16g_2 : decode prog_28_method_4_code 2 = .ok (.getfield 21, 3) := by decide +kernel
theorem d6s1c16g_5 : decode prog_28_method_4_code 5 = .ok (.arraylength, 1) := by decide +kernel
theorem d6s1c16g_6 : decode prog_28_method_4_code 6 = .ok (.if_icmp .lt 8, 3) := by decide +kernel
theorem d6s1c16g_9 : decode prog_28_method_4_code 9 = .ok (.aload_n 0, 1) := by decide +kernel
theorem d6s1c16g_10 : decode prog_28_method_4_code 10 = .ok (.iload_n 1, 1) := by decide +kernel
theorem d6s1c16g_11 : decode prog_28_method_4_code 11 = .ok (.invokevirtual 28, 3) := by decide +kernel
theorem d6s1c16g_14 : decode prog_28_method_4_code 14 = .ok (.aload_n 0, 1) := by decide +kernel
theorem d6s1c16g_15 : decode prog_28_method_4_code 15 = .ok (.getfield 21, 3) := by decide +kernel
theorem d6s1c16g_18 : decode prog_28_method_4_code 18 = .ok (.iload_n 1, 1) := by decide +kernel
theorem d6s1c16g_19 : decode prog_28_method_4_code 19 = .ok (.iaload, 1) := by decide +kernel
theorem d6s1c16g_20 : decode prog_28_method_4_code 20 = .ok (.iconst (-1), 1) := by decide +kernel
theorem d6s1c16g_21 : decode prog_28_method_4_code 21 = .ok (.if_icmp .ne 63, 3) := by decide +kernel
theorem d6s1c16g_24 : decode prog_28_method_4_code 24 = .ok (.aload_n 0, 1) := by decide +kernel
theorem d6s1c16g_25 : decode prog_28_method_4_code 25 = .ok (.getfield 24, 3) := by decide +kernel
theorem d6s1c16g_28 : decode prog_28_method_4_code 28 = .ok (.aload_n 0, 1) := by decide +kernel
theorem d6s1c16g_29 : decode prog_28_method_4_code 29 = .ok (.getfield 9, 3) := by decide +kernel
theorem d6s1c16g_32 : decode prog_28_method_4_code 32 = .ok (.arraylength, 1) := by decide +kernel
theorem d6s1c16g_33 : decode prog_28_method_4_code 33 = .ok (.if_icmp .ne 20, 3) := by decide +kernel
theorem d6s1c16g_53 : decode prog_28_method_4_code 53 = .ok (.aload_n 0, 1) := by decide +kernel
theorem d6s1c16g_54 : decode prog_28_method_4_code 54 = .ok (.getfield 13, 3) := by decide +kernel
theorem d6s1c16g_57 : decode prog_28_method_4_code 57 = .ok (.iload_n 1, 1) := by decide +kernel
theorem d6s1c16g_58 : decode prog_28_method_4_code 58 = .ok (.lload_n 2, 1) := by decide +kernel
theorem d6s1c16g_59 : decode prog_28_method_4_code 59 = .ok (.lastore, 1) := by decide +kernel
theorem d6s1c16g_60 : decode prog_28_method_4_code 60 = .ok (.aload_n 0, 1) := by decide +kernel
theorem d6s1c16g_61 : decode prog_28_method_4_code 61 = .ok (.dup, 1) := by decide +kernel
theorem d6s1c16g_62 : decode prog_28_method_4_code 62 = .ok (.getfield 24, 3) := by decide +kernel
theorem d6s1c16g_65 : decode prog_28_method_4_code 65 = .ok (.iconst 1, 1) := by decide +kernel
theorem d6s1c16g_66 : decode prog_28_method_4_code 66 = .ok (.iadd, 1) := by decide +kernel
theorem d6s1c16g_67 : decode prog_28_method_4_code 67 = .ok (.putfield 24, 3) := by decide +kernel
theorem d6s1c16g_70 : decode prog_28_method_4_code 70 = .ok (.aload_n 0, 1) := by decide +kernel
theorem d6s1c16g_71 : decode prog_28_method_4_code 71 = .ok (.iload_n 1, 1) := by decide +kernel
theorem d6s1c16g_72 : decode prog_28_method_4_code 72 = .ok (.aload_n 0, 1) := by decide +kernel
theorem d6s1c16g_73 : decode prog_28_method_4_code 73 = .ok (.getfield 24, 3) := by decide +kernel
theorem d6s1c16g_76 : decode prog_28_method_4_code 76 = .ok (.iconst 1, 1) := by decide +kernel
theorem d6s1c16g_77 : decode prog_28_method_4_code 77 = .ok (.isub, 1) := by decide +kernel
theorem d6s1c16g_78 : decode prog_28_method_4_code 78 = .ok (.invokevirtual 38, 3) := by decide +kernel
theorem d6s1c16g_81 : decode prog_28_method_4_code 81 = .ok (.goto 32, 3) := by decide +kernel
theorem d6s1c16g_113 : decode prog_28_method_4_code 113 = .ok (.return_, 1) := by decide +kernel
theorem pn_6s1c16g : plainName "com/example/volens/volens/core/agent/TurnQueue" = true := by first | (simp [plainName, overriddenIn]; done) | decide +kernel
theorem pd6s1c16g_0 : parseMethodDescriptor "(I)V" = some ⟨[.int], none⟩ := by decide +kernel
theorem pd6s1c16g_1 : parseMethodDescriptor "(II)V" = some ⟨[.int, .int], none⟩ := by decide +kernel
theorem ef_6s1c16g (m : MethodId) (x0 : Addr) (x1 : Int32) (x2 : Int64) : entryFrame m #[(.ref x0), (.int x1), (.long x2)] 4 = mkF m 0 #[.val (.ref x0), .val (.int x1), .val (.long x2), .second] [] := by first | (simp [entryFrame, mkF, argsToLocals, Value.category]; done) | rfl
def Q6s1c16g (Z : State) (a1 : Addr) (p2 : Int32) (q3 : Int64) (ha : Addr) (ta : Addr) (pa : Addr) (f0 : Int32) (f1 : Int32) (pf : (Nat → Int32)) (h0 : Heap) (n0 : Nat) (v : Option Value) (h : Heap) (L : List Loc) : Prop := ∃ (ta2 : Addr) (pa2 : Addr) (y0 : Int32) (y1 : Int32) (yf : (Nat → Int32)), v = none ∧ Fr n0 L ∧ Keep h0 h [a1, ha, ta, pa] ∧ n0 ≤ ta2 ∧ n0 ≤ pa2 ∧ h0.size ≤ ta2 ∧ h0.size ≤ pa2 ∧ ownTQ Z h n0 a1 ha ta2 pa2 (2 : Int32) (32 : Int32) y0 y1 yf ∧ (¬ y0 < 0 ∧ y0 < (32 : Int32)) ∧ (¬ y1 < 0 ∧ y1 < (32 : Int32))
set_option maxRecDepth 65536 in
set_option maxHeartbeats 40000000 in
theorem rm6s1c16g (l : Launch) (Z : State) (a0 : Array Value) (hw : ∀ d ∈ tables_1, d.before a0 Z = true) (ws : List Jvm.Cond) (a1 : Addr) (p2 : Int32) (q3 : Int64) (ha : Addr) (ta : Addr) (pa : Addr) (f0 : Int32) (f1 : Int32) (pf : (Nat → Int32)) (h0 : Heap) (n0 : Nat) (Z0 : n0 ≤ h0.size) (B0 : ownTQ Z h0 n0 a1 ha ta pa (1 : Int32) (16 : Int32) f0 f1 pf) (hbd : (¬ p2 < 0 ∧ p2 < (32 : Int32))) (hg : ¬ p2 < (16 : Int32)) (hf : (¬ f0 < 0 ∧ f0 < (16 : Int32))) :
    MetFree l (⟨"com/example/volens/volens/core/agent/TurnQueue", "set", "(IJ)V"⟩ : MethodName) (head1 (Jvm.Cond.code (⟨"com/example/volens/volens/core/agent/TurnQueue", "set", "(IJ)V"⟩ : MethodName) prog_28_method_4_code 4 none :: ws) ({ frames := 3, cells := 2, slots := 64, locals := 48 } : Room)) (fun a U => a = #[(.ref a1), (.int p2), (.long q3)] ∧ Z.Warmed39 U.vm ∧ U.heap = h0) (fun _ _ _ _ _ => True) (fun _ U o U' => ∃ v L, o = .returned v ∧ Q6s1c16g Z a1 p2 q3 ha ta pa f0 f1 pf h0 n0 v U'.heap L ∧ FrameEnd U o U' L ({ frames := 3, cells := 2, slots := 64, locals := 48 } : Room).cells ({ frames := 3, cells := 2, slots := 64, locals := 48 } : Room).slots) := by
  have ww1 := hw _ (List.mem_of_getElem? (i := 1) rfl)
  have ww2 := hw _ (List.mem_of_getElem? (i := 2) rfl)
  have ww10 := hw _ (List.mem_of_getElem? (i := 10) rfl)
  have ww11 := hw _ (List.mem_of_getElem? (i := 11) rfl)
  have ww13 := hw _ (List.mem_of_getElem? (i := 13) rfl)
  have ww14 := hw _ (List.mem_of_getElem? (i := 14) rfl)
  have ww22 := hw _ (List.mem_of_getElem? (i := 22) rfl)
  have ww23 := hw _ (List.mem_of_getElem? (i := 23) rfl)
  have ww29 := hw _ (List.mem_of_getElem? (i := 29) rfl)
  have ww30 := hw _ (List.mem_of_getElem? (i := 30) rfl)
  have ww36 := hw _ (List.mem_of_getElem? (i := 36) rfl)
  have ww37 := hw _ (List.mem_of_getElem? (i := 37) rfl)
  have ww38 := hw _ (List.mem_of_getElem? (i := 38) rfl)
  have ww39 := hw _ (List.mem_of_getElem? (i := 39) rfl)
  have ww48 := hw _ (List.mem_of_getElem? (i := 48) rfl)
  have ww49 := hw _ (List.mem_of_getElem? (i := 49) rfl)
  have ww50 := hw _ (List.mem_of_getElem? (i := 50) rfl)
  have ww51 := hw _ (List.mem_of_getElem? (i := 51) rfl)
  refine MetFree.of_bodySF (plainFor_of_name pn_6s1c16g) hisR ?_
  intro p e s m args below meth c s₁ Bd hml0 hP hK
  obtain ⟨rfl, hZ, hh⟩ := hP
  have hx := Bd.exec
  have hby := Bd.bytes
  have hlk : meth.locks = false := Bd.notSynchronized
  have hret := Bd.returns
  have hml : c.maxLocals = 4 := hml0
  have hown : s.vm.findClass "com/example/volens/volens/core/agent/TurnQueue" = some m.cls := findClass_of_methodNamed Bd.named
  have hnm := (name_of_methodNamed Bd.named Bd.method).1
  have X0 : Stand p l e ({ frames := 3, cells := 2, slots := 64, locals := 48 } : Room) s m #[(.ref a1), (.int p2), (.long q3)] below meth c s₁ [] 0 0 := Stand.of_body Bd
  have e0 : s₁.heap = h0 := by rw [← hh, Bd.state]; rfl
  have N0 := Fr.nil n0
  have K0 := Keep.refl h0 [a1, ha, ta, pa]
  show OwnEnd p e below s (Q6s1c16g Z a1 p2 q3 ha ta pa f0 f1 pf h0 n0) ({ frames := 3, cells := 2, slots := 64, locals := 48 } : Room).cells ({ frames := 3, cells := 2, slots := 64, locals := 48 } : Room).slots _
  refine OwnEnd.go (fun _ k => castTop (ef_6s1c16g m a1 p2 q3) k) ?_
  have B_101 := B0
  obtain ⟨ga_101, gh_101, gt_101, gp_101, n1_101, n2_101, n3_101, n4_101, n5_101, n6_101, E1_101, F_h_101, F_t_101, F_p_101, F_s_101, ⟨kh_101, V_h_101⟩, V_t_101, V_p_101⟩ := B_101
  show OwnEnd p e below s _ _ _ (s₁.setTop (mkF m 0 #[.val (.ref a1), .val (.int p2), .val (.long q3), .second] []))
  refine OwnEnd.go (fun _ k => XS.iloadN X0.here hx rfl (hb hby d6s1c16g_0) rfl  k) ?_
  show OwnEnd p e below s _ _ _ (s₁.setTop (mkF m 1 #[.val (.ref a1), .val (.int p2), .val (.long q3), .second] [(.int p2)]))
  refine OwnEnd.go (fun _ k => XS.aloadN X0.here hx rfl (hb hby d6s1c16g_1) rfl rfl k) ?_
  show OwnEnd p e below s _ _ _ (s₁.setTop (mkF m 2 #[.val (.ref a1), .val (.int p2), .val (.long q3), .second] [(.ref a1), (.int p2)]))
  obtain ⟨T102, X102, e102, st102⟩ := getF X0 hx hZ hown (host := "") (Or.inl ww22) Via.refl e0 F_p_101 (g := (mkF m 2 #[.val (.ref a1), .val (.int p2), .val (.long q3), .second] [(.ref a1), (.int p2)])) rfl rfl (hb hby d6s1c16g_2)
  refine OwnEnd.go (fun _ k => st102 _ k) ?_
  show OwnEnd p e below s _ _ _ (T102.setTop (mkF m 5 #[.val (.ref a1), .val (.int p2), .val (.long q3), .second] [(.ref pa), (.int p2)]))
  refine OwnEnd.go (fun _ k => ownAlen X102 hx hZ e102 V_p_101 (g := (mkF m 5 #[.val (.ref a1), .val (.int p2), .val (.long q3), .second] [(.ref pa), (.int p2)])) rfl rfl (hb hby d6s1c16g_5) _ k) ?_
  show OwnEnd p e below s _ _ _ (T102.setTop (mkF m 6 #[.val (.ref a1), .val (.int p2), .val (.long q3), .second] [(.int (16 : Int32)), (.int p2)]))
  refine OwnEnd.go (fun _ k => XS.icmpNo X102.here hx rfl (hb hby d6s1c16g_6) rfl (flt hg).1 k) ?_
  show OwnEnd p e below s _ _ _ (T102.setTop (mkF m 9 #[.val (.ref a1), .val (.int p2), .val (.long q3), .second] []))
  refine OwnEnd.go (fun _ k => XS.aloadN X102.here hx rfl (hb hby d6s1c16g_9) rfl rfl k) ?_
  show OwnEnd p e below s _ _ _ (T102.setTop (mkF m 10 #[.val (.ref a1), .val (.int p2), .val (.long q3), .second] [(.ref a1)]))
  refine OwnEnd.go (fun _ k => XS.iloadN X102.here hx rfl (hb hby d6s1c16g_10) rfl  k) ?_
  show OwnEnd p e below s _ _ _ (T102.setTop (mkF m 11 #[.val (.ref a1), .val (.int p2), .val (.long q3), .second] [(.int p2), (.ref a1)]))
  obtain ⟨_, T104, L104, X104, hQ104, st104⟩ := ownCallP X102 hx hZ hown ww48 ww50 (ownSel (by decide) ww1 ww50 ww49) ww49 ww2 ww51 (by decide) (rm10 l Z a0 hw [] a1 p2 ha ta pa (1 : Int32) f0 f1 pf h0 n0 Z0  B0 (own_next hbd.2 hbd.1)) e102 E1_101 0 (by decide) (by decide) (by decide) (by decide) (g := (mkF m 11 #[.val (.ref a1), .val (.int p2), .val (.long q3), .second] [(.int p2), (.ref a1)])) rfl (by rw [hml]; rfl) (argsL := [(.int p2)]) (rest := []) (lenOf pd6s1c16g_0 rfl) rfl rfl (by show 2 * 0 + _ ≤ _; exact Nat.le_of_eq rfl) (hb hby d6s1c16g_11)
  obtain ⟨y110, y111, hQ104⟩ := hQ104
  obtain ⟨rfl, N104q, K104q, P105, P106, P107, P108, P109⟩ := hQ104
  have N104 := Fr.app N0 N104q
  have F113 := E1_101.keep K104q
  have F118 := V_h_101.keep K104q (ninS (Ne.symm n1_101) nin0)
  have F119 := V_t_101.keep K104q (ninS (Ne.symm n2_101) nin0)
  have F120 := V_p_101.keep K104q (ninS (Ne.symm n3_101) nin0)
  have K104 := K0.trans K104q (allS (Or.inl (List.mem_of_getElem? (i := 0) rfl)) all0)
  have Y104 := Nat.le_trans Z0 K104q.1
  refine OwnEnd.go (fun _ k => st104 _ k) ?_
  have B_121 := P109
  obtain ⟨ga_121, gh_121, gt_121, gp_121, n1_121, n2_121, n3_121, n4_121, n5_121, n6_121, E1_121, F_h_121, F_t_121, F_p_121, F_s_121, ⟨kh_121, V_h_121⟩, V_t_121, V_p_121⟩ := B_121
  show OwnEnd p e below s _ _ _ (T104.setTop (mkF m 14 #[.val (.ref a1), .val (.int p2), .val (.long q3), .second] []))
  refine OwnEnd.go (fun _ k => XS.aloadN X104.here hx rfl (hb hby d6s1c16g_14) rfl rfl k) ?_
  show OwnEnd p e below s _ _ _ (T104.setTop (mkF m 15 #[.val (.ref a1), .val (.int p2), .val (.long q3), .second] [(.ref a1)]))
  obtain ⟨T122, X122, e122, st122⟩ := getF X104 hx hZ hown (host := "") (Or.inl ww22) Via.refl (rfl : T104.heap = T104.heap) F_p_121 (g := (mkF m 15 #[.val (.ref a1), .val (.int p2), .val (.long q3), .second] [(.ref a1)])) rfl rfl (hb hby d6s1c16g_15)
  refine OwnEnd.go (fun _ k => st122 _ k) ?_
  show OwnEnd p e below s _ _ _ (T122.setTop (mkF m 18 #[.val (.ref a1), .val (.int p2), .val (.long q3), .second] [(.ref y111)]))
  refine OwnEnd.go (fun _ k => XS.iloadN X122.here hx rfl (hb hby d6s1c16g_18) rfl  k) ?_
  show OwnEnd p e below s _ _ _ (T122.setTop (mkF m 19 #[.val (.ref a1), .val (.int p2), .val (.long q3), .second] [(.int p2), (.ref y111)]))
  refine OwnEnd.go (fun _ k => ownAload X122 hx hZ e122 V_p_121 (j := p2) hbd (g := (mkF m 19 #[.val (.ref a1), .val (.int p2), .val (.long q3), .second] [(.int p2), (.ref y111)])) rfl rfl (hb hby d6s1c16g_19) _ k) ?_
  show OwnEnd p e below s _ _ _ (T122.setTop (mkF m 20 #[.val (.ref a1), .val (.int p2), .val (.long q3), .second] [(.int ((own_cp 16 pf (fun _ => (-1 : Int32))) (p2).toNatClampNeg))]))
  refine OwnEnd.go (fun _ k => XS.iconst X122.here hx rfl (hb hby d6s1c16g_20) k) ?_
  show OwnEnd p e below s _ _ _ (T122.setTop (mkF m 21 #[.val (.ref a1), .val (.int p2), .val (.long q3), .second] [(.int (-1 : Int32)), (.int ((own_cp 16 pf (fun _ => (-1 : Int32))) (p2).toNatClampNeg))]))
  refine OwnEnd.go (fun _ k => XS.icmpNo X122.here hx rfl (hb hby d6s1c16g_21) rfl (teq (own_cp_hi (own_nat16 hg))).2 k) ?_
  show OwnEnd p e below s _ _ _ (T122.setTop (mkF m 24 #[.val (.ref a1), .val (.int p2), .val (.long q3), .second] []))
  refine OwnEnd.go (fun _ k => XS.aloadN X122.here hx rfl (hb hby d6s1c16g_24) rfl rfl k) ?_
  show OwnEnd p e below s _ _ _ (T122.setTop (mkF m 25 #[.val (.ref a1), .val (.int p2), .val (.long q3), .second] [(.ref a1)]))
  obtain ⟨T124, X124, e124, st124⟩ := getF X122 hx hZ hown (host := "") (Or.inl ww29) Via.refl e122 F_s_121 (g := (mkF m 25 #[.val (.ref a1), .val (.int p2), .val (.long q3), .second] [(.ref a1)])) rfl rfl (hb hby d6s1c16g_25)
  refine OwnEnd.go (fun _ k => st124 _ k) ?_
  show OwnEnd p e below s _ _ _ (T124.setTop (mkF m 28 #[.val (.ref a1), .val (.int p2), .val (.long q3), .second] [(.int (1 : Int32))]))
  refine OwnEnd.go (fun _ k => XS.aloadN X124.here hx rfl (hb hby d6s1c16g_28) rfl rfl k) ?_
  show OwnEnd p e below s _ _ _ (T124.setTop (mkF m 29 #[.val (.ref a1), .val (.int p2), .val (.long q3), .second] [(.ref a1), (.int (1 : Int32))]))
  obtain ⟨T125, X125, e125, st125⟩ := getF X124 hx hZ hown (host := "") (Or.inl ww10) Via.refl e124 F_h_121 (g := (mkF m 29 #[.val (.ref a1), .val (.int p2), .val (.long q3), .second] [(.ref a1), (.int (1 : Int32))])) rfl rfl (hb hby d6s1c16g_29)
  refine OwnEnd.go (fun _ k => st125 _ k) ?_
  show OwnEnd p e below s _ _ _ (T125.setTop (mkF m 32 #[.val (.ref a1), .val (.int p2), .val (.long q3), .second] [(.ref ha), (.int (1 : Int32))]))
  obtain ⟨c126, Ar126, q126, S126, G126, H126, J126⟩ := id V_h_121
  refine OwnEnd.go (fun _ k => ownLen X125 hx hZ e125 Ar126 S126 G126 (g := (mkF m 32 #[.val (.ref a1), .val (.int p2), .val (.long q3), .second] [(.ref ha), (.int (1 : Int32))])) rfl rfl (hb hby d6s1c16g_32) _ k) ?_
  show OwnEnd p e below s _ _ _ (T125.setTop (mkF m 33 #[.val (.ref a1), .val (.int p2), .val (.long q3), .second] [(.int (16 : Int32)), (.int (1 : Int32))]))
  refine OwnEnd.go (fun _ k => XS.icmpYes X125.here hx rfl (pc0 := 33) (pc' := 53) rfl (hb hby d6s1c16g_33) rfl (feq (by decide : ¬ (1 : Int32) = (16 : Int32))).2 (by decide) (by decide) k) ?_
  show OwnEnd p e below s _ _ _ (T125.setTop (mkF m 53 #[.val (.ref a1), .val (.int p2), .val (.long q3), .second] []))
  refine OwnEnd.go (fun _ k => XS.aloadN X125.here hx rfl (hb hby d6s1c16g_53) rfl rfl k) ?_
  show OwnEnd p e below s _ _ _ (T125.setTop (mkF m 54 #[.val (.ref a1), .val (.int p2), .val (.long q3), .second] [(.ref a1)]))
  obtain ⟨T127, X127, e127, st127⟩ := getF X125 hx hZ hown (host := "") (Or.inl ww13) Via.refl e125 F_t_121 (g := (mkF m 54 #[.val (.ref a1), .val (.int p2), .val (.long q3), .second] [(.ref a1)])) rfl rfl (hb hby d6s1c16g_54)
  refine OwnEnd.go (fun _ k => st127 _ k) ?_
  show OwnEnd p e below s _ _ _ (T127.setTop (mkF m 57 #[.val (.ref a1), .val (.int p2), .val (.long q3), .second] [(.ref y110)]))
  refine OwnEnd.go (fun _ k => XS.iloadN X127.here hx rfl (hb hby d6s1c16g_57) rfl  k) ?_
  show OwnEnd p e below s _ _ _ (T127.setTop (mkF m 58 #[.val (.ref a1), .val (.int p2), .val (.long q3), .second] [(.int p2), (.ref y110)]))
  refine OwnEnd.go (fun _ k => XS.lloadN X127.here hx rfl (hb hby d6s1c16g_58) rfl  k) ?_
  show OwnEnd p e below s _ _ _ (T127.setTop (mkF m 59 #[.val (.ref a1), .val (.int p2), .val (.long q3), .second] [(.long q3), (.int p2), (.ref y110)]))
  obtain ⟨T128, h128, X128, e128, W128, V128, st128⟩ := ownLstore X127 hx hZ e127 V_t_121 (j := p2) hbd (g := (mkF m 59 #[.val (.ref a1), .val (.int p2), .val (.long q3), .second] [(.long q3), (.int p2), (.ref y110)])) rfl rfl (hb hby d6s1c16g_59)
  have F129 := E1_121.wr W128
  have F130 := F_h_121.other W128 (Or.inl n2_121)
  have F131 := F_t_121.other W128 (Or.inl n2_121)
  have F132 := F_p_121.other W128 (Or.inl n2_121)
  have F133 := F_s_121.other W128 (Or.inl n2_121)
  have F134 := V_h_121.other W128 n4_121
  have F136 := V_p_121.other W128 (Ne.symm n6_121)
  have N128 := Fr.snoc X128 N104 gt_121
  have K128 := K104.wr W128 (Or.inr (Nat.le_trans K0.1 P107))
  have Y128 := Nat.le_trans Y104 (Nat.le_of_eq W128.size.symm)
  refine OwnEnd.go (fun _ k => st128 _ k) ?_
  show OwnEnd p e below s _ _ _ (T128.setTop (mkF m 60 #[.val (.ref a1), .val (.int p2), .val (.long q3), .second] []))
  refine OwnEnd.go (fun _ k => XS.aloadN X128.here hx rfl (hb hby d6s1c16g_60) rfl rfl k) ?_
  show OwnEnd p e below s _ _ _ (T128.setTop (mkF m 61 #[.val (.ref a1), .val (.int p2), .val (.long q3), .second] [(.ref a1)]))
  refine OwnEnd.go (fun _ k => XS.dup X128.here hx rfl (hb hby d6s1c16g_61) rfl rfl k) ?_
  show OwnEnd p e below s _ _ _ (T128.setTop (mkF m 62 #[.val (.ref a1), .val (.int p2), .val (.long q3), .second] [(.ref a1), (.ref a1)]))
  obtain ⟨T137, X137, e137, st137⟩ := getF X128 hx hZ hown (host := "") (Or.inl ww29) Via.refl e128 F133 (g := (mkF m 62 #[.val (.ref a1), .val (.int p2), .val (.long q3), .second] [(.ref a1), (.ref a1)])) rfl rfl (hb hby d6s1c16g_62)
  refine OwnEnd.go (fun _ k => st137 _ k) ?_
  show OwnEnd p e below s _ _ _ (T137.setTop (mkF m 65 #[.val (.ref a1), .val (.int p2), .val (.long q3), .second] [(.int (1 : Int32)), (.ref a1)]))
  refine OwnEnd.go (fun _ k => XS.iconst X137.here hx rfl (hb hby d6s1c16g_65) k) ?_
  show OwnEnd p e below s _ _ _ (T137.setTop (mkF m 66 #[.val (.ref a1), .val (.int p2), .val (.long q3), .second] [(.int (1 : Int32)), (.int (1 : Int32)), (.ref a1)]))
  refine OwnEnd.go (fun _ k => XS.iadd X137.here hx rfl (hb hby d6s1c16g_66) rfl k) ?_
  show OwnEnd p e below s _ _ _ (T137.setTop (mkF m 67 #[.val (.ref a1), .val (.int p2), .val (.long q3), .second] [(.int (2 : Int32)), (.ref a1)]))
  obtain ⟨T138, h138, X138, e138, W138, st138⟩ := putF X137 hx hZ hown (host := "") (Or.inl ww29) Via.refl e137 F133 F129 (Or.inl ww30) ww1 (ty := .int) (by decide) rfl rfl (g := (mkF m 67 #[.val (.ref a1), .val (.int p2), .val (.long q3), .second] [(.int (2 : Int32)), (.ref a1)])) rfl rfl (hb hby d6s1c16g_67)
  have F139 := F129.wr W138
  have F140 := F130.other W138 (Or.inr (slot_ne (Or.inl ww11) (Or.inl ww30) (by decide) (t := (.array .int)) (t' := .int) (by decide) (by decide)))
  have F141 := F131.other W138 (Or.inr (slot_ne (Or.inl ww14) (Or.inl ww30) (by decide) (t := (.array .long)) (t' := .int) (by decide) (by decide)))
  have F142 := F132.other W138 (Or.inr (slot_ne (Or.inl ww23) (Or.inl ww30) (by decide) (t := (.array .int)) (t' := .int) (by decide) (by decide)))
  have F143 := F133.same W138
  have F144 := F134.other W138 (Ne.symm n1_121)
  have F145 := F136.other W138 (Ne.symm n3_121)
  have F146 := V128.other W138 (Ne.symm n2_121)
  have N138 := Fr.snoc X138 N128 ga_121
  have K138 := K128.wr W138 (Or.inl (List.mem_of_getElem? (i := 0) rfl))
  have Y138 := Nat.le_trans Y128 (Nat.le_of_eq W138.size.symm)
  refine OwnEnd.go (fun _ k => st138 _ k) ?_
  show OwnEnd p e below s _ _ _ (T138.setTop (mkF m 70 #[.val (.ref a1), .val (.int p2), .val (.long q3), .second] []))
  refine OwnEnd.go (fun _ k => XS.aloadN X138.here hx rfl (hb hby d6s1c16g_70) rfl rfl k) ?_
  show OwnEnd p e below s _ _ _ (T138.setTop (mkF m 71 #[.val (.ref a1), .val (.int p2), .val (.long q3), .second] [(.ref a1)]))
  refine OwnEnd.go (fun _ k => XS.iloadN X138.here hx rfl (hb hby d6s1c16g_71) rfl  k) ?_
  show OwnEnd p e below s _ _ _ (T138.setTop (mkF m 72 #[.val (.ref a1), .val (.int p2), .val (.long q3), .second] [(.int p2), (.ref a1)]))
  refine OwnEnd.go (fun _ k => XS.aloadN X138.here hx rfl (hb hby d6s1c16g_72) rfl rfl k) ?_
  show OwnEnd p e below s _ _ _ (T138.setTop (mkF m 73 #[.val (.ref a1), .val (.int p2), .val (.long q3), .second] [(.ref a1), (.int p2), (.ref a1)]))
  obtain ⟨T147, X147, e147, st147⟩ := getF X138 hx hZ hown (host := "") (Or.inl ww29) Via.refl e138 F143 (g := (mkF m 73 #[.val (.ref a1), .val (.int p2), .val (.long q3), .second] [(.ref a1), (.int p2), (.ref a1)])) rfl rfl (hb hby d6s1c16g_73)
  refine OwnEnd.go (fun _ k => st147 _ k) ?_
  show OwnEnd p e below s _ _ _ (T147.setTop (mkF m 76 #[.val (.ref a1), .val (.int p2), .val (.long q3), .second] [(.int (2 : Int32)), (.int p2), (.ref a1)]))
  refine OwnEnd.go (fun _ k => XS.iconst X147.here hx rfl (hb hby d6s1c16g_76) k) ?_
  show OwnEnd p e below s _ _ _ (T147.setTop (mkF m 77 #[.val (.ref a1), .val (.int p2), .val (.long q3), .second] [(.int (1 : Int32)), (.int (2 : Int32)), (.int p2), (.ref a1)]))
  refine OwnEnd.go (fun _ k => XS.isub X147.here hx rfl (hb hby d6s1c16g_77) rfl k) ?_
  show OwnEnd p e below s _ _ _ (T147.setTop (mkF m 78 #[.val (.ref a1), .val (.int p2), .val (.long q3), .second] [(.int (1 : Int32)), (.int p2), (.ref a1)]))
  have Bn148 : ownTQ Z h138 n0 a1 ha y110 y111 (2 : Int32) (32 : Int32) f0 f1 (own_cp 16 pf (fun _ => (-1 : Int32))) := ⟨ga_121, gh_121, gt_121, gp_121, n1_121, n2_121, n3_121, n4_121, n5_121, n6_121, F139, F140, F141, F142, F143, ⟨_, F144⟩, F146, F145⟩
  obtain ⟨_, T149, L149, X149, hQ149, st149⟩ := ownCallP X147 hx hZ hown ww36 ww38 (ownSel (by decide) ww1 ww38 ww37) ww37 ww2 ww39 (by decide) (rm7d1 l Z a0 hw [] a1 p2 ha y110 y111 (2 : Int32) (32 : Int32) f0 f1 (own_cp 16 pf (fun _ => (-1 : Int32))) h138 n0 Y138  Bn148 hbd (own_up hf)) e147 F139 0 (by decide) (by decide) (by decide) (by decide) (g := (mkF m 78 #[.val (.ref a1), .val (.int p2), .val (.long q3), .second] [(.int (1 : Int32)), (.int p2), (.ref a1)])) rfl (by rw [hml]; rfl) (argsL := [(.int p2), (.int (1 : Int32))]) (rest := []) (lenOf pd6s1c16g_1 rfl) rfl rfl (by show 2 * 0 + _ ≤ _; exact Nat.le_of_eq rfl) (hb hby d6s1c16g_78)
  obtain ⟨y153, y154, y155, hQ149⟩ := hQ149
  obtain ⟨rfl, N149q, K149q, P150, P151, P152⟩ := hQ149
  have N149 := Fr.app N138 N149q
  have F156 := F139.keep K149q
  have K149 := K138.trans K149q (allS (Or.inl (List.mem_of_getElem? (i := 0) rfl)) (allS (Or.inl (List.mem_of_getElem? (i := 1) rfl)) (allS (Or.inr (Nat.le_trans K0.1 P107)) (allS (Or.inr (Nat.le_trans K0.1 P108)) all0))))
  have Y149 := Nat.le_trans Y138 K149q.1
  refine OwnEnd.go (fun _ k => st149 _ k) ?_
  show OwnEnd p e below s _ _ _ (T149.setTop (mkF m 81 #[.val (.ref a1), .val (.int p2), .val (.long q3), .second] []))
  refine OwnEnd.go (fun _ k => XS.goto X149.here hx rfl (pc0 := 81) (pc' := 113) rfl (hb hby d6s1c16g_81) (by decide) (by decide) k) ?_
  show OwnEnd p e below s _ _ _ (T149.setTop (mkF m 113 #[.val (.ref a1), .val (.int p2), .val (.long q3), .second] []))
  refine ownRetV X149 hx hlk hret (hb hby d6s1c16g_113) (by decide) (by decide) ?_
  show Q6s1c16g Z a1 p2 q3 ha ta pa f0 f1 pf h0 n0 _ T149.heap _
  exact ⟨y110, y111, y153, y154, _, rfl, N149, K149, gt_121, gp_121, (Nat.le_trans K0.1 P107), (Nat.le_trans K0.1 P108), P150, P151, P152⟩
theorem d6s1c32s_0 : decode prog_28_method_4_code 0 = .ok (.iload_n 1, 1) := by decide +kernel
theorem d6s1c32s_1 : decode prog_28_method_4_code 1 = .ok (.aload_n 0, 1) := by decide +kernel
theorem d6s1c32s_2 : decode prog_28_method_4_code 2 = .ok (.getfield 21, 3) := by decide +kernel
theorem d6s1c32s_5 : decode prog_28_method_4_code 5 = .ok (.arraylength, 1) := by decide +kernel
theorem d6s1c32s_6 : decode prog_28_method_4_code 6 = .ok (.if_icmp .lt 8, 3) := by decide +kernel
theorem d6s1c32s_14 : decode prog_28_method_4_code 14 = .ok (.aload_n 0, 1) := by decide +kernel
theorem d6s1c32s_15 : decode prog_28_method_4_code 15 = .ok (.getfield 21, 3) := by decide +kernel
theorem d6s1c32s_18 : decode prog_28_method_4_code 18 = .ok (.iload_n 1, 1) := by decide +kernel
theorem d6s1c32s_19 : decode prog_28_method_4_code 19 = .ok (.iaload, 1) := by decide +kernel
theorem d6s1c32s_20 : decode prog_28_method_4_code 20 = .ok (.iconst (-1), 1) := by decide +kernel
theorem d6s1c32s_21 : decode prog_28_method_4_code 21 = .ok (.if_icmp .ne 63, 3) := by decide +kernel
theorem d6s1c32s_84 : decode prog_28_method_4_code 84 = .ok (.lload_n 2, 1) := by decide +kernel
theorem d6s1c32s_85 : decode prog_28_method_4_code 85 = .ok (.aload_n 0, 1) := by decide +kernel
theorem d6s1c32s_86 : decode prog_28_method_4_code 86 = .ok (.getfield 13, 3) := by decide +kernel
theorem d6s1c32s_89 : decode prog_28_method_4_code 89 = .ok (.iload_n 1, 1) := by decide +kernel
theorem d6s1c32s_90 : decode prog_28_method_4_code 90 = .ok (.laload, 1) := by decide +kernel
theorem d6s1c32s_91 : decode prog_28_method_4_code 91 = .ok (.lcmp, 1) := by decide +kernel
theorem d6s1c32s_92 : decode prog_28_method_4_code 92 = .ok (.ifCond .ge 21, 3) := by decide +kernel
theorem d6s1c32s_95 : decode prog_28_method_4_code 95 = .ok (.aload_n 0, 1) := by decide +kernel
theorem d6s1c32s_96 : decode prog_28_method_4_code 96 = .ok (.getfield 13, 3) := by decide +kernel
theorem d6s1c32s_99 : decode prog_28_method_4_code 99 = .ok (.iload_n 1, 1) := by decide +kernel
theorem d6s1c32s_100 : decode prog_28_method_4_code 100 = .ok (.lload_n 2, 1) := by decide +kernel
theorem d6s1c32s_101 : decode prog_28_method_4_code 101 = .ok (.lastore, 1) := by decide +kernel
theorem d6s1c32s_102 : decode prog_28_method_4_code 102 = .ok (.aload_n 0, 1) := by decide +kernel
theorem d6s1c32s_103 : decode prog_28_method_4_code 103 = .ok (.iload_n 1, 1) := by decide +kernel
theorem d6s1c32s_104 : decode prog_28_method_4_code 104 = .ok (.aload_n 0, 1) := by decide +kernel
theorem d6s1c32s_105 : decode prog_28_method_4_code 105 = .ok (.getfield 21, 3) := by decide +kernel
theorem d6s1c32s_108 : decode prog_28_method_4_code 108 = .ok (.iload_n 1, 1) := by decide +kernel
theorem d6s1c32s_109 : decode prog_28_method_4_code 109 = .ok (.iaload, 1) := by decide +kernel
theorem d6s1c32s_110 : decode prog_28_method_4_code 110 = .ok (.invokevirtual 38, 3) := by decide +kernel
theorem d6s1c32s_113 : decode prog_28_method_4_code 113 = .ok (.return_, 1) := by decide +kernel
theorem pn_6s1c32s : plainName "com/example/volens/volens/core/agent/TurnQueue" = true := by first | (simp [plainName, overriddenIn]; done) | decide +kernel
theorem pd6s1c32s_0 : parseMethodDescriptor "(II)V" = some ⟨[.int, .int], none⟩ := by decide +kernel
theorem ef_6s1c32s (m : MethodId) (x0 : Addr) (x1 : Int32) (x2 : Int64) : entryFrame m #[(.ref x0), (.int x1), (.long x2)] 4 = mkF m 0 #[.val (.ref x0), .val (.int x1), .val (.long x2), .second] [] := by first | (simp [entryFrame, mkF, argsToLocals, Value.category]; done) | rfl
def Q6s1c32s (Z : State) (a1 : Addr) (p2 : Int32) (q3 : Int64) (ha : Addr) (ta : Addr) (pa : Addr) (f0 : Int32) (f1 : Int32) (pf : (Nat → Int32)) (h0 : Heap) (n0 : Nat) (v : Option Value) (h : Heap) (L : List Loc) : Prop := ∃ (y0 : Int32) (yf : (Nat → Int32)), v = none ∧ Fr n0 L ∧ Keep h0 h [a1, ha, ta, pa] ∧ ownTQ Z h n0 a1 ha ta pa (1 : Int32) (32 : Int32) y0 f1 yf ∧ (¬ y0 < 0 ∧ y0 < (32 : Int32))
set_option maxRecDepth 65536 in
set_option maxHeartbeats 40000000 in
theorem rm6s1c32s (l : Launch) (Z : State) (a0 : Array Value) (hw : ∀ d ∈ tables_1, d.before a0 Z = true) (ws : List Jvm.Cond) (a1 : Addr) (p2 : Int32) (q3 : Int64) (ha : Addr) (ta : Addr) (pa : Addr) (f0 : Int32) (f1 : Int32) (pf : (Nat → Int32)) (h0 : Heap) (n0 : Nat) (Z0 : n0 ≤ h0.size) (B0 : ownTQ Z h0 n0 a1 ha ta pa (1 : Int32) (32 : Int32) f0 f1 pf) (hbd : (¬ p2 < 0 ∧ p2 < (32 : Int32))) (hq : pf (p2).toNatClampNeg = (0 : Int32)) (hf : (¬ f0 < 0 ∧ f0 < (32 : Int32))) :
    MetFree l (⟨"com/example/volens/volens/core/agent/TurnQueue", "set", "(IJ)V"⟩ : MethodName) (head1 (Jvm.Cond.code (⟨"com/example/volens/volens/core/agent/TurnQueue", "set", "(IJ)V"⟩ : MethodName) prog_28_method_4_code 4 none :: ws) ({ frames := 3, cells := 0, slots := 0, locals := 48 } : Room)) (fun a U => a = #[(.ref a1), (.int p2), (.long q3)] ∧ Z.Warmed39 U.vm ∧ U.heap = h0) (fun _ _ _ _ _ => True) (fun _ U o U' => ∃ v L, o = .returned v ∧ Q6s1c32s Z a1 p2 q3 ha ta pa f0 f1 pf h0 n0 v U'.heap L ∧ FrameEnd U o U' L ({ frames := 3, cells := 0, slots := 0, locals := 48 } : Room).cells ({ frames := 3, cells := 0, slots := 0, locals := 48 } : Room).slots) := by
  have ww1 := hw _ (List.mem_of_getElem? (i := 1) rfl)
  have ww2 := hw _ (List.mem_of_getElem? (i := 2) rfl)
  have ww13 := hw _ (List.mem_of_getElem? (i := 13) rfl)
  have ww22 := hw _ (List.mem_of_getElem? (i := 22) rfl)
  have ww36 := hw _ (List.mem_of_getElem? (i := 36) rfl)
  have ww37 := hw _ (List.mem_of_getElem? (i := 37) rfl)
  have ww38 := hw _ (List.mem_of_getElem? (i := 38) rfl)
  have ww39 := hw _ (List.mem_of_getElem? (i := 39) rfl)
  refine MetFree.of_bodySF (plainFor_of_name pn_6s1c32s) hisR ?_
  intro p e s m args below meth c s₁ Bd hml0 hP hK
  obtain ⟨rfl, hZ, hh⟩ := hP
  have hx := Bd.exec
  have hby := Bd.bytes
  have hlk : meth.locks = false := Bd.notSynchronized
  have hret := Bd.returns
  have hml : c.maxLocals = 4 := hml0
  have hown : s.vm.findClass "com/example/volens/volens/core/agent/TurnQueue" = some m.cls := findClass_of_methodNamed Bd.named
  have hnm := (name_of_methodNamed Bd.named Bd.method).1
  have X0 : Stand p l e ({ frames := 3, cells := 0, slots := 0, locals := 48 } : Room) s m #[(.ref a1), (.int p2), (.long q3)] below meth c s₁ [] 0 0 := Stand.of_body Bd
  have e0 : s₁.heap = h0 := by rw [← hh, Bd.state]; rfl
  have N0 := Fr.nil n0
  have K0 := Keep.refl h0 [a1, ha, ta, pa]
  show OwnEnd p e below s (Q6s1c32s Z a1 p2 q3 ha ta pa f0 f1 pf h0 n0) ({ frames := 3, cells := 0, slots := 0, locals := 48 } : Room).cells ({ frames := 3, cells := 0, slots := 0, locals := 48 } : Room).slots _
  refine OwnEnd.go (fun _ k => castTop (ef_6s1c32s m a1 p2 q3) k) ?_
  have B_101 := B0
  obtain ⟨ga_101, gh_101, gt_101, gp_101, n1_101, n2_101, n3_101, n4_101, n5_101, n6_101, E1_101, F_h_101, F_t_101, F_p_101, F_s_101, ⟨kh_101, V_h_101⟩, V_t_101, V_p_101⟩ := B_101
  show OwnEnd p e below s _ _ _ (s₁.setTop (mkF m 0 #[.val (.ref a1), .val (.int p2), .val (.long q3), .second] []))
  refine OwnEnd.go (fun _ k => XS.iloadN X0.here hx rfl (hb hby d6s1c32s_0) rfl  k) ?_
  show OwnEnd p e below s _ _ _ (s₁.setTop (mkF m 1 #[.val (.ref a1), .val (.int p2), .val (.long q3), .second] [(.int p2)]))
  refine OwnEnd.go (fun _ k => XS.aloadN X0.here hx rfl (hb hby d6s1c32s_1) rfl rfl k) ?_
  show OwnEnd p e below s _ _ _ (s₁.setTop (mkF m 2 #[.val (.ref a1), .val (.int p2), .val (.long q3), .second] [(.ref a1), (.int p2)]))
  obtain ⟨T102, X102, e102, st102⟩ := getF X0 hx hZ hown (host := "") (Or.inl ww22) Via.refl e0 F_p_101 (g := (mkF m 2 #[.val (.ref a1), .val (.int p2), .val (.long q3), .second] [(.ref a1), (.int p2)])) rfl rfl (hb hby d6s1c32s_2)
  refine OwnEnd.go (fun _ k => st102 _ k) ?_
  show OwnEnd p e below s _ _ _ (T102.setTop (mkF m 5 #[.val (.ref a1), .val (.int p2), .val (.long q3), .second] [(.ref pa), (.int p2)]))
  refine OwnEnd.go (fun _ k => ownAlen X102 hx hZ e102 V_p_101 (g := (mkF m 5 #[.val (.ref a1), .val (.int p2), .val (.long q3), .second] [(.ref pa), (.int p2)])) rfl rfl (hb hby d6s1c32s_5) _ k) ?_
  show OwnEnd p e below s _ _ _ (T102.setTop (mkF m 6 #[.val (.ref a1), .val (.int p2), .val (.long q3), .second] [(.int (32 : Int32)), (.int p2)]))
  refine OwnEnd.go (fun _ k => XS.icmpYes X102.here hx rfl (pc0 := 6) (pc' := 14) rfl (hb hby d6s1c32s_6) rfl (tlt hbd.2).1 (by decide) (by decide) k) ?_
  show OwnEnd p e below s _ _ _ (T102.setTop (mkF m 14 #[.val (.ref a1), .val (.int p2), .val (.long q3), .second] []))
  refine OwnEnd.go (fun _ k => XS.aloadN X102.here hx rfl (hb hby d6s1c32s_14) rfl rfl k) ?_
  show OwnEnd p e below s _ _ _ (T102.setTop (mkF m 15 #[.val (.ref a1), .val (.int p2), .val (.long q3), .second] [(.ref a1)]))
  obtain ⟨T104, X104, e104, st104⟩ := getF X102 hx hZ hown (host := "") (Or.inl ww22) Via.refl e102 F_p_101 (g := (mkF m 15 #[.val (.ref a1), .val (.int p2), .val (.long q3), .second] [(.ref a1)])) rfl rfl (hb hby d6s1c32s_15)
  refine OwnEnd.go (fun _ k => st104 _ k) ?_
  show OwnEnd p e below s _ _ _ (T104.setTop (mkF m 18 #[.val (.ref a1), .val (.int p2), .val (.long q3), .second] [(.ref pa)]))
  refine OwnEnd.go (fun _ k => XS.iloadN X104.here hx rfl (hb hby d6s1c32s_18) rfl  k) ?_
  show OwnEnd p e below s _ _ _ (T104.setTop (mkF m 19 #[.val (.ref a1), .val (.int p2), .val (.long q3), .second] [(.int p2), (.ref pa)]))
  refine OwnEnd.go (fun _ k => ownAload X104 hx hZ e104 V_p_101 (j := p2) hbd (g := (mkF m 19 #[.val (.ref a1), .val (.int p2), .val (.long q3), .second] [(.int p2), (.ref pa)])) rfl rfl (hb hby d6s1c32s_19) _ k) ?_
  show OwnEnd p e below s _ _ _ (T104.setTop (mkF m 20 #[.val (.ref a1), .val (.int p2), .val (.long q3), .second] [(.int (pf (p2).toNatClampNeg))]))
  refine OwnEnd.go (fun _ k => XS.iconst X104.here hx rfl (hb hby d6s1c32s_20) k) ?_
  show OwnEnd p e below s _ _ _ (T104.setTop (mkF m 21 #[.val (.ref a1), .val (.int p2), .val (.long q3), .second] [(.int (-1 : Int32)), (.int (pf (p2).toNatClampNeg))]))
  refine OwnEnd.go (fun _ k => XS.icmpYes X104.here hx rfl (pc0 := 21) (pc' := 84) rfl (hb hby d6s1c32s_21) rfl (feq (by rw [hq]; decide : ¬ (pf (p2).toNatClampNeg) = (-1 : Int32))).2 (by decide) (by decide) k) ?_
  show OwnEnd p e below s _ _ _ (T104.setTop (mkF m 84 #[.val (.ref a1), .val (.int p2), .val (.long q3), .second] []))
  refine OwnEnd.go (fun _ k => XS.lloadN X104.here hx rfl (hb hby d6s1c32s_84) rfl  k) ?_
  show OwnEnd p e below s _ _ _ (T104.setTop (mkF m 85 #[.val (.ref a1), .val (.int p2), .val (.long q3), .second] [(.long q3)]))
  refine OwnEnd.go (fun _ k => XS.aloadN X104.here hx rfl (hb hby d6s1c32s_85) rfl rfl k) ?_
  show OwnEnd p e below s _ _ _ (T104.setTop (mkF m 86 #[.val (.ref a1), .val (.int p2), .val (.long q3), .second] [(.ref a1), (.long q3)]))
  obtain ⟨T106, X106, e106, st106⟩ := getF X104 hx hZ hown (host := "") (Or.inl ww13) Via.refl e104 F_t_101 (g := (mkF m 86 #[.val (.ref a1), .val (.int p2), .val (.long q3), .second] [(.ref a1), (.long q3)])) rfl rfl (hb hby d6s1c32s_86)
  refine OwnEnd.go (fun _ k => st106 _ k) ?_
  show OwnEnd p e below s _ _ _ (T106.setTop (mkF m 89 #[.val (.ref a1), .val (.int p2), .val (.long q3), .second] [(.ref ta), (.long q3)]))
  refine OwnEnd.go (fun _ k => XS.iloadN X106.here hx rfl (hb hby d6s1c32s_89) rfl  k) ?_
  show OwnEnd p e below s _ _ _ (T106.setTop (mkF m 90 #[.val (.ref a1), .val (.int p2), .val (.long q3), .second] [(.int p2), (.ref ta), (.long q3)]))
  obtain ⟨x107, st107⟩ := ownLload X106 hx hZ e106 V_t_101 (j := p2) hbd (g := (mkF m 90 #[.val (.ref a1), .val (.int p2), .val (.long q3), .second] [(.int p2), (.ref ta), (.long q3)])) rfl rfl (hb hby d6s1c32s_90)
  refine OwnEnd.go (fun _ k => st107 _ k) ?_
  show OwnEnd p e below s _ _ _ (T106.setTop (mkF m 91 #[.val (.ref a1), .val (.int p2), .val (.long q3), .second] [(.long x107), (.long q3)]))
  refine OwnEnd.go (fun _ k => XS.lcmp X106.here hx rfl (hb hby d6s1c32s_91) rfl k) ?_
  show OwnEnd p e below s _ _ _ (T106.setTop (mkF m 92 #[.val (.ref a1), .val (.int p2), .val (.long q3), .second] [(.int (lcmpW q3 x107))]))
  by_cases hc108 : q3 < x107
  · refine OwnEnd.go (fun _ k => XS.ifNo X106.here hx rfl (hb hby d6s1c32s_92) rfl (ownLt hc108).2.1 k) ?_
    show OwnEnd p e below s _ _ _ (T106.setTop (mkF m 95 #[.val (.ref a1), .val (.int p2), .val (.long q3), .second] []))
    refine OwnEnd.go (fun _ k => XS.aloadN X106.here hx rfl (hb hby d6s1c32s_95) rfl rfl k) ?_
    show OwnEnd p e below s _ _ _ (T106.setTop (mkF m 96 #[.val (.ref a1), .val (.int p2), .val (.long q3), .second] [(.ref a1)]))
    obtain ⟨T109, X109, e109, st109⟩ := getF X106 hx hZ hown (host := "") (Or.inl ww13) Via.refl e106 F_t_101 (g := (mkF m 96 #[.val (.ref a1), .val (.int p2), .val (.long q3), .second] [(.ref a1)])) rfl rfl (hb hby d6s1c32s_96)
    refine OwnEnd.go (fun _ k => st109 _ k) ?_
    show OwnEnd p e below s _ _ _ (T109.setTop (mkF m 99 #[.val (.ref a1), .val (.int p2), .val (.long q3), .second] [(.ref ta)]))
    refine OwnEnd.go (fun _ k => XS.iloadN X109.here hx rfl (hb hby d6s1c32s_99) rfl  k) ?_
    show OwnEnd p e below s _ _ _ (T109.setTop (mkF m 100 #[.val (.ref a1), .val (.int p2), .val (.long q3), .second] [(.int p2), (.ref ta)]))
    refine OwnEnd.go (fun _ k => XS.lloadN X109.here hx rfl (hb hby d6s1c32s_100) rfl  k) ?_
    show OwnEnd p e below s _ _ _ (T109.setTop (mkF m 101 #[.val (.ref a1), .val (.int p2), .val (.long q3), .second] [(.long q3), (.int p2), (.ref ta)]))
    obtain ⟨T110, h110, X110, e110, W110, V110, st110⟩ := ownLstore X109 hx hZ e109 V_t_101 (j := p2) hbd (g := (mkF m 101 #[.val (.ref a1), .val (.int p2), .val (.long q3), .second] [(.long q3), (.int p2), (.ref ta)])) rfl rfl (hb hby d6s1c32s_101)
    have F111 := E1_101.wr W110
    have F112 := F_h_101.other W110 (Or.inl n2_101)
    have F113 := F_t_101.other W110 (Or.inl n2_101)
    have F114 := F_p_101.other W110 (Or.inl n2_101)
    have F115 := F_s_101.other W110 (Or.inl n2_101)
    have F116 := V_h_101.other W110 n4_101
    have F118 := V_p_101.other W110 (Ne.symm n6_101)
    have N110 := Fr.snoc X110 N0 gt_101
    have K110 := K0.wr W110 (Or.inl (List.mem_of_getElem? (i := 2) rfl))
    have Y110 := Nat.le_trans Z0 (Nat.le_of_eq W110.size.symm)
    refine OwnEnd.go (fun _ k => st110 _ k) ?_
    show OwnEnd p e below s _ _ _ (T110.setTop (mkF m 102 #[.val (.ref a1), .val (.int p2), .val (.long q3), .second] []))
    refine OwnEnd.go (fun _ k => XS.aloadN X110.here hx rfl (hb hby d6s1c32s_102) rfl rfl k) ?_
    show OwnEnd p e below s _ _ _ (T110.setTop (mkF m 103 #[.val (.ref a1), .val (.int p2), .val (.long q3), .second] [(.ref a1)]))
    refine OwnEnd.go (fun _ k => XS.iloadN X110.here hx rfl (hb hby d6s1c32s_103) rfl  k) ?_
    show OwnEnd p e below s _ _ _ (T110.setTop (mkF m 104 #[.val (.ref a1), .val (.int p2), .val (.long q3), .second] [(.int p2), (.ref a1)]))
    refine OwnEnd.go (fun _ k => XS.aloadN X110.here hx rfl (hb hby d6s1c32s_104) rfl rfl k) ?_
    show OwnEnd p e below s _ _ _ (T110.setTop (mkF m 105 #[.val (.ref a1), .val (.int p2), .val (.long q3), .second] [(.ref a1), (.int p2), (.ref a1)]))
    obtain ⟨T119, X119, e119, st119⟩ := getF X110 hx hZ hown (host := "") (Or.inl ww22) Via.refl e110 F114 (g := (mkF m 105 #[.val (.ref a1), .val (.int p2), .val (.long q3), .second] [(.ref a1), (.int p2), (.ref a1)])) rfl rfl (hb hby d6s1c32s_105)
    refine OwnEnd.go (fun _ k => st119 _ k) ?_
    show OwnEnd p e below s _ _ _ (T119.setTop (mkF m 108 #[.val (.ref a1), .val (.int p2), .val (.long q3), .second] [(.ref pa), (.int p2), (.ref a1)]))
    refine OwnEnd.go (fun _ k => XS.iloadN X119.here hx rfl (hb hby d6s1c32s_108) rfl  k) ?_
    show OwnEnd p e below s _ _ _ (T119.setTop (mkF m 109 #[.val (.ref a1), .val (.int p2), .val (.long q3), .second] [(.int p2), (.ref pa), (.int p2), (.ref a1)]))
    refine OwnEnd.go (fun _ k => ownAload X119 hx hZ e119 F118 (j := p2) hbd (g := (mkF m 109 #[.val (.ref a1), .val (.int p2), .val (.long q3), .second] [(.int p2), (.ref pa), (.int p2), (.ref a1)])) rfl rfl (hb hby d6s1c32s_109) _ k) ?_
    show OwnEnd p e below s _ _ _ (T119.setTop (mkF m 110 #[.val (.ref a1), .val (.int p2), .val (.long q3), .second] [(.int (pf (p2).toNatClampNeg)), (.int p2), (.ref a1)]))
    rw [hq]
    show OwnEnd p e below s _ _ _ (T119.setTop (mkF m 110 #[.val (.ref a1), .val (.int p2), .val (.long q3), .second] [(.int (0 : Int32)), (.int p2), (.ref a1)]))
    have Bn121 : ownTQ Z h110 n0 a1 ha ta pa (1 : Int32) (32 : Int32) f0 f1 pf := ⟨ga_101, gh_101, gt_101, gp_101, n1_101, n2_101, n3_101, n4_101, n5_101, n6_101, F111, F112, F113, F114, F115, ⟨_, F116⟩, V110, F118⟩
    obtain ⟨_, T122, L122, X122, hQ122, st122⟩ := ownCallP X119 hx hZ hown ww36 ww38 (ownSel (by decide) ww1 ww38 ww37) ww37 ww2 ww39 (by decide) (rm7d0 l Z a0 hw [] a1 p2 ha ta pa (1 : Int32) (32 : Int32) f0 f1 pf h110 n0 Y110  Bn121 hbd) e119 F111 0 (by decide) (by decide) (by decide) (by decide) (g := (mkF m 110 #[.val (.ref a1), .val (.int p2), .val (.long q3), .second] [(.int (0 : Int32)), (.int p2), (.ref a1)])) rfl (by rw [hml]; rfl) (argsL := [(.int p2), (.int (0 : Int32))]) (rest := []) (lenOf pd6s1c32s_0 rfl) rfl rfl (by show 2 * 0 + _ ≤ _; exact Nat.le_of_eq rfl) (hb hby d6s1c32s_110)
    obtain ⟨rfl, N122q, K122q, P123⟩ := hQ122
    have N122 := Fr.app N110 N122q
    have F124 := F111.keep K122q
    have K122 := K110.trans K122q (allS (Or.inl (List.mem_of_getElem? (i := 0) rfl)) (allS (Or.inl (List.mem_of_getElem? (i := 1) rfl)) (allS (Or.inl (List.mem_of_getElem? (i := 2) rfl)) (allS (Or.inl (List.mem_of_getElem? (i := 3) rfl)) all0))))
    have Y122 := Nat.le_trans Y110 K122q.1
    refine OwnEnd.go (fun _ k => st122 _ k) ?_
    show OwnEnd p e below s _ _ _ (T122.setTop (mkF m 113 #[.val (.ref a1), .val (.int p2), .val (.long q3), .second] []))
    refine ownRetV X122 hx hlk hret (hb hby d6s1c32s_113) (by decide) (by decide) ?_
    show Q6s1c32s Z a1 p2 q3 ha ta pa f0 f1 pf h0 n0 _ T122.heap _
    exact ⟨p2, _, rfl, N122, K122, P123, hbd⟩
  · refine OwnEnd.go (fun _ k => XS.ifYes X106.here hx rfl (pc0 := 92) (pc' := 113) rfl (hb hby d6s1c32s_92) rfl (ownNlt hc108).2.1 (by decide) (by decide) k) ?_
    show OwnEnd p e below s _ _ _ (T106.setTop (mkF m 113 #[.val (.ref a1), .val (.int p2), .val (.long q3), .second] []))
    refine ownRetV X106 hx hlk hret (hb hby d6s1c32s_113) (by decide) (by decide) ?_
    have Bn126 : ownTQ Z h0 n0 a1 ha ta pa (1 : Int32) (32 : Int32) f0 f1 pf := ⟨ga_101, gh_101, gt_101, gp_101, n1_101, n2_101, n3_101, n4_101, n5_101, n6_101, E1_101, F_h_101, F_t_101, F_p_101, F_s_101, ⟨_, V_h_101⟩, V_t_101, V_p_101⟩
    show Q6s1c32s Z a1 p2 q3 ha ta pa f0 f1 pf h0 n0 _ T106.heap _
    rw [e106]
    exact ⟨f0, _, rfl, N0, K0, Bn126, hf⟩
theorem d6s1c32_0 : decode prog_28_method_4_code 0 = .ok (.iload_n 1, 1) := by decide +kernel
theorem d6s1c32_1 : decode prog_28_method_4_code 1 = .ok (.aload_n 0, 1) := by decide +kernel
theorem d6s1c32_2 : decode prog_28_method_4_code 2 = .ok (.getfield 21, 3) := by decide +kernel
theorem d6s1c32_5 : decode prog_28_method_4_code 5 = .ok (.arraylength, 1) := by decide +kernel
theorem d6s1c32_6 : decode prog_28_method_4_code 6 = .ok (.if_icmp .lt 8, 3) := by decide +kernel
theorem d6s1c32_14 : decode prog_28_method_4_code 14 = .ok (.aload_n 0, 1) := by decide +kernel
theorem d6s1c32_15 : decode prog_28_method_4_code 15 = .ok (.getfield 21, 3) := by decide +kernel
theorem d6s1c32_18 : decode prog_28_method_4_code 18 = .ok (.iload_n 1, 1) := by decide +kernel
theorem d6s1c32_19 : decode prog_28_method_4_code 19 = .ok (.iaload, 1) := by decide +kernel
theorem d6s1c32_20 : decode prog_28_method_4_code 20 = .ok (.iconst (-1), 1) := by decide +kernel
theorem d6s1c32_21 : decode prog_28_method_4_code 21 = .ok (.if_icmp .ne 63, 3) := by decide +kernel
theorem d6s1c32_24 : decode prog_28_method_4_code 24 = .ok (.aload_n 0, 1) := by decide +kernel
theorem d6s1c32_25 : decode prog_28_method_4_code 25 = .ok (.getfield 24, 3) := by decide +kernel
theorem d6s1c32_28 : decode prog_28_method_4_code 28 = .ok (.aload_n 0, 1) := by decide +kernel
theorem d6s1c32_29 : decode prog_28_method_4_code 29 = .ok (.getfield 9, 3) := by decide +kernel
theorem d6s1c32_32 : decode prog_28_method_4_code 32 = .ok (.arraylength, 1) := by decide +kernel
theorem d6s1c32_33 : decode prog_28_method_4_code 33 = .ok (.if_icmp .ne 20, 3) := by decide +kernel
theorem d6s1c32_53 : decode prog_28_method_4_code 53 = .ok (.aload_n 0, 1) := by decide +kernel
theorem d6s1c32_54 : decode prog_28_method_4_code 54 = .ok (.getfield 13, 3) := by decide +kernel
theorem d6s1c32_57 : decode prog_28_method_4_code 57 = .ok (.iload_n 1, 1) := by decide +kernel
theorem d6s1c32_58 : decode prog_28_method_4_code 58 = .ok (.lload_n 2, 1) := by decide +kernel
theorem d6s1c32_59 : decode prog_28_method_4_code 59 = .ok (.lastore, 1) := by decide +kernel
theorem d6s1c32_60 : decode prog_28_method_4_code 60 = .ok (.aload_n 0, 1) := by decide +kernel
theorem d6s1c32_61 : decode prog_28_method_4_code 61 = .ok (.dup, 1) := by decide +kernel
theorem d6s1c32_62 : decode prog_28_method_4_code 62 = .ok (.getfield 24, 3) := by decide +kernel
theorem d6s1c32_65 : decode prog_28_method_4_code 65 = .ok (.iconst 1, 1) := by decide +kernel
theorem d6s1c32_66 : decode prog_28_method_4_code 66 = .ok (.iadd, 1) := by decide +kernel
theorem d6s1c32_67 : decode prog_28_method_4_code 67 = .ok (.putfield 24, 3) := by decide +kernel
theorem d6s1c32_70 : decode prog_28_method_4_code 70 = .ok (.aload_n 0, 1) := by decide +kernel
theorem d6s1c32_71 : decode prog_28_method_4_code 71 = .ok (.iload_n 1, 1) := by decide +kernel
theorem d6s1c32_72 : decode prog_28_method_4_code 72 = .ok (.aload_n 0, 1) := by decide +kernel
theorem d6s1c32_73 : decode prog_28_method_4_code 73 = .ok (.getfield 24, 3) := by decide +kernel
theorem d6s1c32_76 : decode prog_28_method_4_code 76 = .ok (.iconst 1, 1) := by decide +kernel
theorem d6s1c32_77 : decode prog_28_method_4_code 77 = .ok (.isub, 1) := by decide +kernel
theorem d6s1c32_78 : decode prog_28_method_4_code 78 = .ok (.invokevirtual 38, 3) := by decide +kernel
theorem d6s1c32_81 : decode prog_28_method_4_code 81 = .ok (.goto 32, 3) := by decide +kernel
theorem d6s1c32_113 : decode prog_28_method_4_code 113 = .ok (.return_, 1) := by decide +kernel
theorem pn_6s1c32 : plainName "com/example/volens/volens/core/agent/TurnQueue" = true := by first | (simp [plainName, overriddenIn]; done) | decide +kernel
theorem pd6s1c32_0 : parseMethodDescriptor "(II)V" = some ⟨[.int, .int], none⟩ := by decide +kernel
theorem ef_6s1c32 (m : MethodId) (x0 : Addr) (x1 : Int32) (x2 : Int64) : entryFrame m #[(.ref x0), (.int x1), (.long x2)] 4 = mkF m 0 #[.val (.ref x0), .val (.int x1), .val (.long x2), .second] [] := by first | (simp [entryFrame, mkF, argsToLocals, Value.category]; done) | rfl
def Q6s1c32 (Z : State) (a1 : Addr) (p2 : Int32) (q3 : Int64) (ha : Addr) (ta : Addr) (pa : Addr) (f0 : Int32) (f1 : Int32) (pf : (Nat → Int32)) (h0 : Heap) (n0 : Nat) (v : Option Value) (h : Heap) (L : List Loc) : Prop := ∃ (y0 : Int32) (y1 : Int32) (yf : (Nat → Int32)), v = none ∧ Fr n0 L ∧ Keep h0 h [a1, ha, ta, pa] ∧ ownTQ Z h n0 a1 ha ta pa (2 : Int32) (32 : Int32) y0 y1 yf ∧ (¬ y0 < 0 ∧ y0 < (32 : Int32)) ∧ (¬ y1 < 0 ∧ y1 < (32 : Int32))
set_option maxRecDepth 65536 in
set_option maxHeartbeats 40000000 in
theorem rm6s1c32 (l : Launch) (Z : State) (a0 : Array Value) (hw : ∀ d ∈ tables_1, d.before a0 Z = true) (ws : List Jvm.Cond) (a1 : Addr) (p2 : Int32) (q3 : Int64) (ha : Addr) (ta : Addr) (pa : Addr) (f0 : Int32) (f1 : Int32) (pf : (Nat → Int32)) (h0 : Heap) (n0 : Nat) (Z0 : n0 ≤ h0.size) (B0 : ownTQ Z h0 n0 a1 ha ta pa (1 : Int32) (32 : Int32) f0 f1 pf) (hbd : (¬ p2 < 0 ∧ p2 < (32 : Int32))) (hq : pf (p2).toNatClampNeg = (-1 : Int32)) (hf : (¬ f0 < 0 ∧ f0 < (32 : Int32))) :
    MetFree l (⟨"com/example/volens/volens/core/agent/TurnQueue", "set", "(IJ)V"⟩ : MethodName) (head1 (Jvm.Cond.code (⟨"com/example/volens/volens/core/agent/TurnQueue", "set", "(IJ)V"⟩ : MethodName) prog_28_method_4_code 4 none :: ws) ({ frames := 3, cells := 0, slots := 0, locals := 48 } : Room)) (fun a U => a = #[(.ref a1), (.int p2), (.long q3)] ∧ Z.Warmed39 U.vm ∧ U.heap = h0) (fun _ _ _ _ _ => True) (fun _ U o U' => ∃ v L, o = .returned v ∧ Q6s1c32 Z a1 p2 q3 ha ta pa f0 f1 pf h0 n0 v U'.heap L ∧ FrameEnd U o U' L ({ frames := 3, cells := 0, slots := 0, locals := 48 } : Room).cells ({ frames := 3, cells := 0, slots := 0, locals := 48 } : Room).slots) := by
  have ww1 := hw _ (List.mem_of_getElem? (i := 1) rfl)
  have ww2 := hw _ (List.mem_of_getElem? (i := 2) rfl)
  have ww10 := hw _ (List.mem_of_getElem? (i := 10) rfl)
  have ww11 := hw _ (List.mem_of_getElem? (i := 11) rfl)
  have ww13 := hw _ (List.mem_of_getElem? (i := 13) rfl)
  have ww14 := hw _ (List.mem_of_getElem? (i := 14) rfl)
  have ww22 := hw _ (List.mem_of_getElem? (i := 22) rfl)
  have ww23 := hw _ (List.mem_of_getElem? (i := 23) rfl)
  have ww29 := hw _ (List.mem_of_getElem? (i := 29) rfl)
  have ww30 := hw _ (List.mem_of_getElem? (i := 30) rfl)
  have ww36 := hw _ (List.mem_of_getElem? (i := 36) rfl)
  have ww37 := hw _ (List.mem_of_getElem? (i := 37) rfl)
  have ww38 := hw _ (List.mem_of_getElem? (i := 38) rfl)
  have ww39 := hw _ (List.mem_of_getElem? (i := 39) rfl)
  refine MetFree.of_bodySF (plainFor_of_name pn_6s1c32) hisR ?_
  intro p e s m args below meth c s₁ Bd hml0 hP hK
  obtain ⟨rfl, hZ, hh⟩ := hP
  have hx := Bd.exec
  have hby := Bd.bytes
  have hlk : meth.locks = false := Bd.notSynchronized
  have hret := Bd.returns
  have hml : c.maxLocals = 4 := hml0
  have hown : s.vm.findClass "com/example/volens/volens/core/agent/TurnQueue" = some m.cls := findClass_of_methodNamed Bd.named
  have hnm := (name_of_methodNamed Bd.named Bd.method).1
  have X0 : Stand p l e ({ frames := 3, cells := 0, slots := 0, locals := 48 } : Room) s m #[(.ref a1), (.int p2), (.long q3)] below meth c s₁ [] 0 0 := Stand.of_body Bd
  have e0 : s₁.heap = h0 := by rw [← hh, Bd.state]; rfl
  have N0 := Fr.nil n0
  have K0 := Keep.refl h0 [a1, ha, ta, pa]
  show OwnEnd p e below s (Q6s1c32 Z a1 p2 q3 ha ta pa f0 f1 pf h0 n0) ({ frames := 3, cells := 0, slots := 0, locals := 48 } : Room).cells ({ frames := 3, cells := 0, slots := 0, locals := 48 } : Room).slots _
  refine OwnEnd.go (fun _ k => castTop (ef_6s1c32 m a1 p2 q3) k) ?_
  have B_101 := B0
  obtain ⟨ga_101, gh_101, gt_101, gp_101, n1_101, n2_101, n3_101, n4_101, n5_101, n6_101, E1_101, F_h_101, F_t_101, F_p_101, F_s_101, ⟨kh_101, V_h_101⟩, V_t_101, V_p_101⟩ := B_101
  show OwnEnd p e below s _ _ _ (s₁.setTop (mkF m 0 #[.val (.ref a1), .val (.int p2), .val (.long q3), .second] []))
  refine OwnEnd.go (fun _ k => XS.iloadN X0.here hx rfl (hb hby d6s1c32_0) rfl  k) ?_
  show OwnEnd p e below s _ _ _ (s₁.setTop (mkF m 1 #[.val (.ref a1), .val (.int p2), .val (.long q3), .second] [(.int p2)]))
  refine OwnEnd.go (fun _ k => XS.aloadN X0.here hx rfl (hb hby d6s1c32_1) rfl rfl k) ?_
  show OwnEnd p e below s _ _ _ (s₁.setTop (mkF m 2 #[.val (.ref a1), .val (.int p2), .val (.long q3), .second] [(.ref a1), (.int p2)]))
  obtain ⟨T102, X102, e102, st102⟩ := getF X0 hx hZ hown (host := "") (Or.inl ww22) Via.refl e0 F_p_101 (g := (mkF m 2 #[.val (.ref a1), .val (.int p2), .val (.long q3), .second] [(.ref a1), (.int p2)])) rfl rfl (hb hby d6s1c32_2)
  refine OwnEnd.go (fun _ k => st102 _ k) ?_
  show OwnEnd p e below s _ _ _ (T102.setTop (mkF m 5 #[.val (.ref a1), .val (.int p2), .val (.long q3), .second] [(.ref pa), (.int p2)]))
  refine OwnEnd.go (fun _ k => ownAlen X102 hx hZ e102 V_p_101 (g := (mkF m 5 #[.val (.ref a1), .val (.int p2), .val (.long q3), .second] [(.ref pa), (.int p2)])) rfl rfl (hb hby d6s1c32_5) _ k) ?_
  show OwnEnd p e below s _ _ _ (T102.setTop (mkF m 6 #[.val (.ref a1), .val (.int p2), .val (.long q3), .second] [(.int (32 : Int32)), (.int p2)]))
  refine OwnEnd.go (fun _ k => XS.icmpYes X102.here hx rfl (pc0 := 6) (pc' := 14) rfl (hb hby d6s1c32_6) rfl (tlt hbd.2).1 (by decide) (by decide) k) ?_
  show OwnEnd p e below s _ _ _ (T102.setTop (mkF m 14 #[.val (.ref a1), .val (.int p2), .val (.long q3), .second] []))
  refine OwnEnd.go (fun _ k => XS.aloadN X102.here hx rfl (hb hby d6s1c32_14) rfl rfl k) ?_
  show OwnEnd p e below s _ _ _ (T102.setTop (mkF m 15 #[.val (.ref a1), .val (.int p2), .val (.long q3), .second] [(.ref a1)]))
  obtain ⟨T104, X104, e104, st104⟩ := getF X102 hx hZ hown (host := "") (Or.inl ww22) Via.refl e102 F_p_101 (g := (mkF m 15 #[.val (.ref a1), .val (.int p2), .val (.long q3), .second] [(.ref a1)])) rfl rfl (hb hby d6s1c32_15)
  refine OwnEnd.go (fun _ k => st104 _ k) ?_
  show OwnEnd p e below s _ _ _ (T104.setTop (mkF m 18 #[.val (.ref a1), .val (.int p2), .val (.long q3), .second] [(.ref pa)]))
  refine OwnEnd.go (fun _ k => XS.iloadN X104.here hx rfl (hb hby d6s1c32_18) rfl  k) ?_
  show OwnEnd p e below s _ _ _ (T104.setTop (mkF m 19 #[.val (.ref a1), .val (.int p2), .val (.long q3), .second] [(.int p2), (.ref pa)]))
  refine OwnEnd.go (fun _ k => ownAload X104 hx hZ e104 V_p_101 (j := p2) hbd (g := (mkF m 19 #[.val (.ref a1), .val (.int p2), .val (.long q3), .second] [(.int p2), (.ref pa)])) rfl rfl (hb hby d6s1c32_19) _ k) ?_
  show OwnEnd p e below s _ _ _ (T104.setTop (mkF m 20 #[.val (.ref a1), .val (.int p2), .val (.long q3), .second] [(.int (pf (p2).toNatClampNeg))]))
  refine OwnEnd.go (fun _ k => XS.iconst X104.here hx rfl (hb hby d6s1c32_20) k) ?_
  show OwnEnd p e below s _ _ _ (T104.setTop (mkF m 21 #[.val (.ref a1), .val (.int p2), .val (.long q3), .second] [(.int (-1 : Int32)), (.int (pf (p2).toNatClampNeg))]))
  refine OwnEnd.go (fun _ k => XS.icmpNo X104.here hx rfl (hb hby d6s1c32_21) rfl (teq hq).2 k) ?_
  show OwnEnd p e below s _ _ _ (T104.setTop (mkF m 24 #[.val (.ref a1), .val (.int p2), .val (.long q3), .second] []))
  refine OwnEnd.go (fun _ k => XS.aloadN X104.here hx rfl (hb hby d6s1c32_24) rfl rfl k) ?_
  show OwnEnd p e below s _ _ _ (T104.setTop (mkF m 25 #[.val (.ref a1), .val (.int p2), .val (.long q3), .second] [(.ref a1)]))
  obtain ⟨T106, X106, e106, st106⟩ := getF X104 hx hZ hown (host := "") (Or.inl ww29) Via.refl e104 F_s_101 (g := (mkF m 25 #[.val (.ref a1), .val (.int p2), .val (.long q3), .second] [(.ref a1)])) rfl rfl (hb hby d6s1c32_25)
  refine OwnEnd.go (fun _ k => st106 _ k) ?_
  show OwnEnd p e below s _ _ _ (T106.setTop (mkF m 28 #[.val (.ref a1), .val (.int p2), .val (.long q3), .second] [(.int (1 : Int32))]))
  refine OwnEnd.go (fun _ k => XS.aloadN X106.here hx rfl (hb hby d6s1c32_28) rfl rfl k) ?_
  show OwnEnd p e below s _ _ _ (T106.setTop (mkF m 29 #[.val (.ref a1), .val (.int p2), .val (.long q3), .second] [(.ref a1), (.int (1 : Int32))]))
  obtain ⟨T107, X107, e107, st107⟩ := getF X106 hx hZ hown (host := "") (Or.inl ww10) Via.refl e106 F_h_101 (g := (mkF m 29 #[.val (.ref a1), .val (.int p2), .val (.long q3), .second] [(.ref a1), (.int (1 : Int32))])) rfl rfl (hb hby d6s1c32_29)
  refine OwnEnd.go (fun _ k => st107 _ k) ?_
  show OwnEnd p e below s _ _ _ (T107.setTop (mkF m 32 #[.val (.ref a1), .val (.int p2), .val (.long q3), .second] [(.ref ha), (.int (1 : Int32))]))
  obtain ⟨c108, Ar108, q108, S108, G108, H108, J108⟩ := id V_h_101
  refine OwnEnd.go (fun _ k => ownLen X107 hx hZ e107 Ar108 S108 G108 (g := (mkF m 32 #[.val (.ref a1), .val (.int p2), .val (.long q3), .second] [(.ref ha), (.int (1 : Int32))])) rfl rfl (hb hby d6s1c32_32) _ k) ?_
  show OwnEnd p e below s _ _ _ (T107.setTop (mkF m 33 #[.val (.ref a1), .val (.int p2), .val (.long q3), .second] [(.int (16 : Int32)), (.int (1 : Int32))]))
  refine OwnEnd.go (fun _ k => XS.icmpYes X107.here hx rfl (pc0 := 33) (pc' := 53) rfl (hb hby d6s1c32_33) rfl (feq (by decide : ¬ (1 : Int32) = (16 : Int32))).2 (by decide) (by decide) k) ?_
  show OwnEnd p e below s _ _ _ (T107.setTop (mkF m 53 #[.val (.ref a1), .val (.int p2), .val (.long q3), .second] []))
  refine OwnEnd.go (fun _ k => XS.aloadN X107.here hx rfl (hb hby d6s1c32_53) rfl rfl k) ?_
  show OwnEnd p e below s _ _ _ (T107.setTop (mkF m 54 #[.val (.ref a1), .val (.int p2), .val (.long q3), .second] [(.ref a1)]))
  obtain ⟨T109, X109, e109, st109⟩ := getF X107 hx hZ hown (host := "") (Or.inl ww13) Via.refl e107 F_t_101 (g := (mkF m 54 #[.val (.ref a1), .val (.int p2), .val (.long q3), .second] [(.ref a1)])) rfl rfl (hb hby d6s1c32_54)
  refine OwnEnd.go (fun _ k => st109 _ k) ?_
  show OwnEnd p e below s _ _ _ (T109.setTop (mkF m 57 #[.val (.ref a1), .val (.int p2), .val (.long q3), .second] [(.ref ta)]))
  refine OwnEnd.go (fun _ k => XS.iloadN X109.here hx rfl (hb hby d6s1c32_57) rfl  k) ?_
  show OwnEnd p e below s _ _ _ (T109.setTop (mkF m 58 #[.val (.ref a1), .val (.int p2), .val (.long q3), .second] [(.int p2), (.ref ta)]))
  refine OwnEnd.go (fun _ k => XS.lloadN X109.here hx rfl (hb hby d6s1c32_58) rfl  k) ?_
  show OwnEnd p e below s _ _ _ (T109.setTop (mkF m 59 #[.val (.ref a1), .val (.int p2), .val (.long q3), .second] [(.long q3), (.int p2), (.ref ta)]))
  obtain ⟨T110, h110, X110, e110, W110, V110, st110⟩ := ownLstore X109 hx hZ e109 V_t_101 (j := p2) hbd (g := (mkF m 59 #[.val (.ref a1), .val (.int p2), .val (.long q3), .second] [(.long q3), (.int p2), (.ref ta)])) rfl rfl (hb hby d6s1c32_59)
  have F111 := E1_101.wr W110
  have F112 := F_h_101.other W110 (Or.inl n2_101)
  have F113 := F_t_101.other W110 (Or.inl n2_101)
  have F114 := F_p_101.other W110 (Or.inl n2_101)
  have F115 := F_s_101.other W110 (Or.inl n2_101)
  have F116 := V_h_101.other W110 n4_101
  have F118 := V_p_101.other W110 (Ne.symm n6_101)
  have N110 := Fr.snoc X110 N0 gt_101
  have K110 := K0.wr W110 (Or.inl (List.mem_of_getElem? (i := 2) rfl))
  have Y110 := Nat.le_trans Z0 (Nat.le_of_eq W110.size.symm)
  refine OwnEnd.go (fun _ k => st110 _ k) ?_
  show OwnEnd p e below s _ _ _ (T110.setTop (mkF m 60 #[.val (.ref a1), .val (.int p2), .val (.long q3), .second] []))
  refine OwnEnd.go (fun _ k => XS.aloadN X110.here hx rfl (hb hby d6s1c32_60) rfl rfl k) ?_
  show OwnEnd p e below s _ _ _ (T110.setTop (mkF m 61 #[.val (.ref a1), .val (.int p2), .val (.long q3), .second] [(.ref a1)]))
  refine OwnEnd.go (fun _ k => XS.dup X110.here hx rfl (hb hby d6s1c32_61) rfl rfl k) ?_
  show OwnEnd p e below s _ _ _ (T110.setTop (mkF m 62 #[.val (.ref a1), .val (.int p2), .val (.long q3), .second] [(.ref a1), (.ref a1)]))
  obtain ⟨T119, X119, e119, st119⟩ := getF X110 hx hZ hown (host := "") (Or.inl ww29) Via.refl e110 F115 (g := (mkF m 62 #[.val (.ref a1), .val (.int p2), .val (.long q3), .second] [(.ref a1), (.ref a1)])) rfl rfl (hb hby d6s1c32_62)
  refine OwnEnd.go (fun _ k => st119 _ k) ?_
  show OwnEnd p e below s _ _ _ (T119.setTop (mkF m 65 #[.val (.ref a1), .val (.int p2), .val (.long q3), .second] [(.int (1 : Int32)), (.ref a1)]))
  refine OwnEnd.go (fun _ k => XS.iconst X119.here hx rfl (hb hby d6s1c32_65) k) ?_
  show OwnEnd p e below s _ _ _ (T119.setTop (mkF m 66 #[.val (.ref a1), .val (.int p2), .val (.long q3), .second] [(.int (1 : Int32)), (.int (1 : Int32)), (.ref a1)]))
  refine OwnEnd.go (fun _ k => XS.iadd X119.here hx rfl (hb hby d6s1c32_66) rfl k) ?_
  show OwnEnd p e below s _ _ _ (T119.setTop (mkF m 67 #[.val (.ref a1), .val (.int p2), .val (.long q3), .second] [(.int (2 : Int32)), (.ref a1)]))
  obtain ⟨T120, h120, X120, e120, W120, st120⟩ := putF X119 hx hZ hown (host := "") (Or.inl ww29) Via.refl e119 F115 F111 (Or.inl ww30) ww1 (ty := .int) (by decide) rfl rfl (g := (mkF m 67 #[.val (.ref a1), .val (.int p2), .val (.long q3), .second] [(.int (2 : Int32)), (.ref a1)])) rfl rfl (hb hby d6s1c32_67)
  have F121 := F111.wr W120
  have F122 := F112.other W120 (Or.inr (slot_ne (Or.inl ww11) (Or.inl ww30) (by decide) (t := (.array .int)) (t' := .int) (by decide) (by decide)))
  have F123 := F113.other W120 (Or.inr (slot_ne (Or.inl ww14) (Or.inl ww30) (by decide) (t := (.array .long)) (t' := .int) (by decide) (by decide)))
  have F124 := F114.other W120 (Or.inr (slot_ne (Or.inl ww23) (Or.inl ww30) (by decide) (t := (.array .int)) (t' := .int) (by decide) (by decide)))
  have F125 := F115.same W120
  have F126 := F116.other W120 (Ne.symm n1_101)
  have F127 := F118.other W120 (Ne.symm n3_101)
  have F128 := V110.other W120 (Ne.symm n2_101)
  have N120 := Fr.snoc X120 N110 ga_101
  have K120 := K110.wr W120 (Or.inl (List.mem_of_getElem? (i := 0) rfl))
  have Y120 := Nat.le_trans Y110 (Nat.le_of_eq W120.size.symm)
  refine OwnEnd.go (fun _ k => st120 _ k) ?_
  show OwnEnd p e below s _ _ _ (T120.setTop (mkF m 70 #[.val (.ref a1), .val (.int p2), .val (.long q3), .second] []))
  refine OwnEnd.go (fun _ k => XS.aloadN X120.here hx rfl (hb hby d6s1c32_70) rfl rfl k) ?_
  show OwnEnd p e below s _ _ _ (T120.setTop (mkF m 71 #[.val (.ref a1), .val (.int p2), .val (.long q3), .second] [(.ref a1)]))
  refine OwnEnd.go (fun _ k => XS.iloadN X120.here hx rfl (hb hby d6s1c32_71) rfl  k) ?_
  show OwnEnd p e below s _ _ _ (T120.setTop (mkF m 72 #[.val (.ref a1), .val (.int p2), .val (.long q3), .second] [(.int p2), (.ref a1)]))
  refine OwnEnd.go (fun _ k => XS.aloadN X120.here hx rfl (hb hby d6s1c32_72) rfl rfl k) ?_
  show OwnEnd p e below s _ _ _ (T120.setTop (mkF m 73 #[.val (.ref a1), .val (.int p2), .val (.long q3), .second] [(.ref a1), (.int p2), (.ref a1)]))
  obtain ⟨T129, X129, e129, st129⟩ := getF X120 hx hZ hown (host := "") (Or.inl ww29) Via.refl e120 F125 (g := (mkF m 73 #[.val (.ref a1), .val (.int p2), .val (.long q3), .second] [(.ref a1), (.int p2), (.ref a1)])) rfl rfl (hb hby d6s1c32_73)
  refine OwnEnd.go (fun _ k => st129 _ k) ?_
  show OwnEnd p e below s _ _ _ (T129.setTop (mkF m 76 #[.val (.ref a1), .val (.int p2), .val (.long q3), .second] [(.int (2 : Int32)), (.int p2), (.ref a1)]))
  refine OwnEnd.go (fun _ k => XS.iconst X129.here hx rfl (hb hby d6s1c32_76) k) ?_
  show OwnEnd p e below s _ _ _ (T129.setTop (mkF m 77 #[.val (.ref a1), .val (.int p2), .val (.long q3), .second] [(.int (1 : Int32)), (.int (2 : Int32)), (.int p2), (.ref a1)]))
  refine OwnEnd.go (fun _ k => XS.isub X129.here hx rfl (hb hby d6s1c32_77) rfl k) ?_
  show OwnEnd p e below s _ _ _ (T129.setTop (mkF m 78 #[.val (.ref a1), .val (.int p2), .val (.long q3), .second] [(.int (1 : Int32)), (.int p2), (.ref a1)]))
  have Bn130 : ownTQ Z h120 n0 a1 ha ta pa (2 : Int32) (32 : Int32) f0 f1 pf := ⟨ga_101, gh_101, gt_101, gp_101, n1_101, n2_101, n3_101, n4_101, n5_101, n6_101, F121, F122, F123, F124, F125, ⟨_, F126⟩, F128, F127⟩
  obtain ⟨_, T131, L131, X131, hQ131, st131⟩ := ownCallP X129 hx hZ hown ww36 ww38 (ownSel (by decide) ww1 ww38 ww37) ww37 ww2 ww39 (by decide) (rm7d1 l Z a0 hw [] a1 p2 ha ta pa (2 : Int32) (32 : Int32) f0 f1 pf h120 n0 Y120  Bn130 hbd hf) e129 F121 0 (by decide) (by decide) (by decide) (by decide) (g := (mkF m 78 #[.val (.ref a1), .val (.int p2), .val (.long q3), .second] [(.int (1 : Int32)), (.int p2), (.ref a1)])) rfl (by rw [hml]; rfl) (argsL := [(.int p2), (.int (1 : Int32))]) (rest := []) (lenOf pd6s1c32_0 rfl) rfl rfl (by show 2 * 0 + _ ≤ _; exact Nat.le_of_eq rfl) (hb hby d6s1c32_78)
  obtain ⟨y135, y136, y137, hQ131⟩ := hQ131
  obtain ⟨rfl, N131q, K131q, P132, P133, P134⟩ := hQ131
  have N131 := Fr.app N120 N131q
  have F138 := F121.keep K131q
  have K131 := K120.trans K131q (allS (Or.inl (List.mem_of_getElem? (i := 0) rfl)) (allS (Or.inl (List.mem_of_getElem? (i := 1) rfl)) (allS (Or.inl (List.mem_of_getElem? (i := 2) rfl)) (allS (Or.inl (List.mem_of_getElem? (i := 3) rfl)) all0))))
  have Y131 := Nat.le_trans Y120 K131q.1
  refine OwnEnd.go (fun _ k => st131 _ k) ?_
  show OwnEnd p e below s _ _ _ (T131.setTop (mkF m 81 #[.val (.ref a1), .val (.int p2), .val (.long q3), .second] []))
  refine OwnEnd.go (fun _ k => XS.goto X131.here hx rfl (pc0 := 81) (pc' := 113) rfl (hb hby d6s1c32_81) (by decide) (by decide) k) ?_
  show OwnEnd p e below s _ _ _ (T131.setTop (mkF m 113 #[.val (.ref a1), .val (.int p2), .val (.long q3), .second] []))
  refine ownRetV X131 hx hlk hret (hb hby d6s1c32_113) (by decide) (by decide) ?_
  show Q6s1c32 Z a1 p2 q3 ha ta pa f0 f1 pf h0 n0 _ T131.heap _
  exact ⟨y135, y136, _, rfl, N131, K131, P132, P133, P134⟩
theorem pn_0 : plainName "com/example/volens/volens/core/agent/TurnQueueIsEmptyPinLaw" = true := by first | (simp [plainName, overriddenIn]; done) | decide +kernel
theorem pd0_0 : parseMethodDescriptor "()V" = some ⟨[], none⟩ := by decide +kernel
theorem pd0_1 : parseMethodDescriptor "()Z" = some ⟨[], some .boolean⟩ := by decide +kernel
theorem pd0_2 : parseMethodDescriptor "(II)I" = some ⟨[.int, .int], some .int⟩ := by decide +kernel
theorem pd0_3 : parseMethodDescriptor "(IJ)V" = some ⟨[.int, .long], none⟩ := by decide +kernel
theorem pd0_4 : parseMethodDescriptor "()I" = some ⟨[], some .int⟩ := by decide +kernel
theorem ef_0 (m : MethodId) (x0 : Int32) (x1 : Int32) (x2 : Int64) (x3 : Int64) (x4 : Int32) : entryFrame m #[(.int x0), (.int x1), (.long x2), (.long x3), (.int x4)] maxLocals = mkF m 0 #[.val (.int x0), .val (.int x1), .val (.long x2), .second, .val (.long x3), .second, .val (.int x4), .unset, .unset, .unset, .unset, .unset, .unset, .unset, .unset] [] := by first | (simp [entryFrame, mkF, argsToLocals, Value.category, maxLocals]; done) | rfl
def Q0 (Z : State) (p1 : Int32) (p2 : Int32) (q3 : Int64) (q4 : Int64) (p5 : Int32) (h0 : Heap) (n0 : Nat) (v : Option Value) (h : Heap) (L : List Loc) : Prop := v = some (.int 1) ∧ Fr n0 L
set_option maxRecDepth 65536 in
set_option maxHeartbeats 40000000 in
theorem rm0 (l : Launch) (Z : State) (a0 : Array Value) (hw : ∀ d ∈ tables_1, d.before a0 Z = true) (ws : List Jvm.Cond) (p1 : Int32) (p2 : Int32) (q3 : Int64) (q4 : Int64) (p5 : Int32) (h0 : Heap) (n0 : Nat) (Z0 : n0 ≤ h0.size) :
    MetFree l x (head1 (Jvm.Cond.code x code maxLocals ret :: ws) room_1) (fun a U => a = #[(.int p1), (.int p2), (.long q3), (.long q4), (.int p5)] ∧ Z.Warmed39 U.vm ∧ U.heap = h0) (fun _ _ _ _ _ => True) (fun _ U o U' => ∃ v L, o = .returned v ∧ Q0 Z p1 p2 q3 q4 p5 h0 n0 v U'.heap L ∧ FrameEnd U o U' L room_1.cells room_1.slots) := by
  have ww0 := hw _ (List.mem_of_getElem? (i := 0) rfl)
  have ww1 := hw _ (List.mem_of_getElem? (i := 1) rfl)
  have ww2 := hw _ (List.mem_of_getElem? (i := 2) rfl)
  have ww3 := hw _ (List.mem_of_getElem? (i := 3) rfl)
  have ww4 := hw _ (List.mem_of_getElem? (i := 4) rfl)
  have ww5 := hw _ (List.mem_of_getElem? (i := 5) rfl)
  have ww11 := hw _ (List.mem_of_getElem? (i := 11) rfl)
  have ww14 := hw _ (List.mem_of_getElem? (i := 14) rfl)
  have ww23 := hw _ (List.mem_of_getElem? (i := 23) rfl)
  have ww24 := hw _ (List.mem_of_getElem? (i := 24) rfl)
  have ww25 := hw _ (List.mem_of_getElem? (i := 25) rfl)
  have ww26 := hw _ (List.mem_of_getElem? (i := 26) rfl)
  have ww27 := hw _ (List.mem_of_getElem? (i := 27) rfl)
  have ww28 := hw _ (List.mem_of_getElem? (i := 28) rfl)
  have ww30 := hw _ (List.mem_of_getElem? (i := 30) rfl)
  have ww31 := hw _ (List.mem_of_getElem? (i := 31) rfl)
  have ww32 := hw _ (List.mem_of_getElem? (i := 32) rfl)
  have ww33 := hw _ (List.mem_of_getElem? (i := 33) rfl)
  have ww34 := hw _ (List.mem_of_getElem? (i := 34) rfl)
  have ww35 := hw _ (List.mem_of_getElem? (i := 35) rfl)
  have ww44 := hw _ (List.mem_of_getElem? (i := 44) rfl)
  have ww45 := hw _ (List.mem_of_getElem? (i := 45) rfl)
  have ww46 := hw _ (List.mem_of_getElem? (i := 46) rfl)
  have ww47 := hw _ (List.mem_of_getElem? (i := 47) rfl)
  have ww68 := hw _ (List.mem_of_getElem? (i := 68) rfl)
  have ww69 := hw _ (List.mem_of_getElem? (i := 69) rfl)
  have ww70 := hw _ (List.mem_of_getElem? (i := 70) rfl)
  have ww71 := hw _ (List.mem_of_getElem? (i := 71) rfl)
  have ww72 := hw _ (List.mem_of_getElem? (i := 72) rfl)
  refine MetFree.of_bodySF (plainFor_of_name pn_0) hisR ?_
  intro p e s m args below meth c s₁ Bd hml0 hP hK
  obtain ⟨rfl, hZ, hh⟩ := hP
  have hx := Bd.exec
  have hby := Bd.bytes
  have hlk : meth.locks = false := Bd.notSynchronized
  have hret := Bd.returns
  have hml : c.maxLocals = 15 := hml0
  have hown : s.vm.findClass "com/example/volens/volens/core/agent/TurnQueueIsEmptyPinLaw" = some m.cls := findClass_of_methodNamed Bd.named
  have hnm := (name_of_methodNamed Bd.named Bd.method).1
  have X0 : Stand p l e room_1 s m #[(.int p1), (.int p2), (.long q3), (.long q4), (.int p5)] below meth c s₁ [] 0 0 := Stand.of_body Bd
  have e0 : s₁.heap = h0 := by rw [← hh, Bd.state]; rfl
  have N0 := Fr.nil n0
  have K0 := Keep.refl h0 []
  show OwnEnd p e below s (Q0 Z p1 p2 q3 q4 p5 h0 n0) room_1.cells room_1.slots _
  refine OwnEnd.go (fun _ k => castTop (ef_0 m p1 p2 q3 q4 p5) k) ?_
  show OwnEnd p e below s _ _ _ (s₁.setTop (mkF m 0 #[.val (.int p1), .val (.int p2), .val (.long q3), .second, .val (.long q4), .second, .val (.int p5), .unset, .unset, .unset, .unset, .unset, .unset, .unset, .unset] []))
  obtain ⟨T101, h101, X101, e101, E101, A101, D101, -, st101⟩ := newO X0 hx hZ hown ww0 ww1 ww2 e0 (g := (mkF m 0 #[.val (.int p1), .val (.int p2), .val (.long q3), .second, .val (.long q4), .second, .val (.int p5), .unset, .unset, .unset, .unset, .unset, .unset, .unset, .unset] [])) rfl (hb hby at_0) (by decide) (by decide)
  obtain ⟨b101, g101⟩ : ∃ z, z = h0.size := ⟨_, rfl⟩
  rw [← g101] at A101 D101 st101
  have u101 : n0 ≤ b101 := Nat.le_trans Z0 (Nat.le_of_eq g101.symm)
  have v101 : h0.size ≤ b101 := Nat.le_trans K0.1 (Nat.le_of_eq g101.symm)
  have K101 := K0.ext E101
  have Y101 := Nat.le_trans Z0 E101.1
  have F102 : Fld Z h101 b101 "com/example/volens/volens/core/agent/TurnQueue" "heap" "[I" .null := D101 (Or.inl ww11) (ty := (.array .int)) (by decide)
  have F103 : Fld Z h101 b101 "com/example/volens/volens/core/agent/TurnQueue" "ticks" "[J" .null := D101 (Or.inl ww14) (ty := (.array .long)) (by decide)
  have F104 : Fld Z h101 b101 "com/example/volens/volens/core/agent/TurnQueue" "places" "[I" .null := D101 (Or.inl ww23) (ty := (.array .int)) (by decide)
  have F105 : Fld Z h101 b101 "com/example/volens/volens/core/agent/TurnQueue" "size" "I" (.int (0 : Int32)) := D101 (Or.inl ww30) (ty := .int) (by decide)
  refine OwnEnd.go (fun _ k => st101 _ k) ?_
  show OwnEnd p e below s _ _ _ (T101.setTop (mkF m 3 #[.val (.int p1), .val (.int p2), .val (.long q3), .second, .val (.long q4), .second, .val (.int p5), .unset, .unset, .unset, .unset, .unset, .unset, .unset, .unset] [(.ref b101)]))
  refine OwnEnd.go (fun _ k => XS.dup X101.here hx rfl (hb hby at_3) rfl rfl k) ?_
  show OwnEnd p e below s _ _ _ (T101.setTop (mkF m 4 #[.val (.int p1), .val (.int p2), .val (.long q3), .second, .val (.long q4), .second, .val (.int p5), .unset, .unset, .unset, .unset, .unset, .unset, .unset, .unset] [(.ref b101), (.ref b101)]))
  obtain ⟨_, T106, L106, X106, hQ106, st106⟩ := ownCallI X101 hx hZ hown rfl ww3 ww4 ww2 ww5 (by decide) (rm1 l Z a0 hw [] b101 h101 n0 Y101  F102 F103 F104 F105 A101 u101) e101 (b := b101) 1 (by decide) (by decide) (by decide) (by decide) (g := (mkF m 4 #[.val (.int p1), .val (.int p2), .val (.long q3), .second, .val (.long q4), .second, .val (.int p5), .unset, .unset, .unset, .unset, .unset, .unset, .unset, .unset] [(.ref b101), (.ref b101)])) rfl (by rw [hml]; rfl) (argsL := []) (rest := [(.ref b101)]) (lenOf pd0_0 rfl) rfl rfl (by show 2 * 0 + _ ≤ _; exact Nat.le_of_eq rfl) (hb hby at_4)
  obtain ⟨y114, y115, y116, hQ106⟩ := hQ106
  obtain ⟨rfl, N106q, K106q, P107, P108, P109, P110, P111, P112, P113⟩ := hQ106
  have N106 := Fr.app N0 N106q
  have F117 := A101.keep K106q
  have K106 := K101.trans K106q (allS (Or.inr v101) all0)
  have Y106 := Nat.le_trans Y101 K106q.1
  refine OwnEnd.go (fun _ k => st106 _ k) ?_
  show OwnEnd p e below s _ _ _ (T106.setTop (mkF m 7 #[.val (.int p1), .val (.int p2), .val (.long q3), .second, .val (.long q4), .second, .val (.int p5), .unset, .unset, .unset, .unset, .unset, .unset, .unset, .unset] [(.ref b101)]))
  refine OwnEnd.go (fun _ k => XS.astore X106.here hx rfl (hb hby at_7) rfl rfl (l' := #[.val (.int p1), .val (.int p2), .val (.long q3), .second, .val (.long q4), .second, .val (.int p5), .val (.ref b101), .unset, .unset, .unset, .unset, .unset, .unset, .unset]) rfl k) ?_
  show OwnEnd p e below s _ _ _ (T106.setTop (mkF m 9 #[.val (.int p1), .val (.int p2), .val (.long q3), .second, .val (.long q4), .second, .val (.int p5), .val (.ref b101), .unset, .unset, .unset, .unset, .unset, .unset, .unset] []))
  refine OwnEnd.go (fun _ k => XS.aload X106.here hx rfl (hb hby at_9) rfl rfl k) ?_
  show OwnEnd p e below s _ _ _ (T106.setTop (mkF m 11 #[.val (.int p1), .val (.int p2), .val (.long q3), .second, .val (.long q4), .second, .val (.int p5), .val (.ref b101), .unset, .unset, .unset, .unset, .unset, .unset, .unset] [(.ref b101)]))
  obtain ⟨_, T122, L122, X122, hQ122, st122⟩ := ownCallV X106 hx hZ hown ww24 ww25 ww27 ww26 ww2 ww28 (by decide) (rm5z0 l Z a0 hw [] b101 y114 y115 y116 (16 : Int32) (0 : Int32) (0 : Int32) (fun _ => (-1 : Int32)) T106.heap n0 Y106  P113) (rfl : T106.heap = T106.heap) F117 0 (by decide) (by decide) (by decide) (by decide) (g := (mkF m 11 #[.val (.int p1), .val (.int p2), .val (.long q3), .second, .val (.long q4), .second, .val (.int p5), .val (.ref b101), .unset, .unset, .unset, .unset, .unset, .unset, .unset] [(.ref b101)])) rfl (by rw [hml]; rfl) (argsL := []) (rest := []) (lenOf pd0_1 rfl) rfl rfl (by show 2 * 0 + _ ≤ _; exact Nat.le_of_eq rfl) (hb hby at_11)
  obtain ⟨rfl, N122q, e122⟩ := hQ122
  have N122 := Fr.app N106 N122q
  refine OwnEnd.go (fun _ k => st122 _ k) ?_
  show OwnEnd p e below s _ _ _ (T122.setTop (mkF m 14 #[.val (.int p1), .val (.int p2), .val (.long q3), .second, .val (.long q4), .second, .val (.int p5), .val (.ref b101), .unset, .unset, .unset, .unset, .unset, .unset, .unset] [(.int (1 : Int32))]))
  refine OwnEnd.go (fun _ k => XS.istore X122.here hx rfl (hb hby at_14) rfl  (l' := #[.val (.int p1), .val (.int p2), .val (.long q3), .second, .val (.long q4), .second, .val (.int p5), .val (.ref b101), .val (.int (1 : Int32)), .unset, .unset, .unset, .unset, .unset, .unset]) rfl k) ?_
  show OwnEnd p e below s _ _ _ (T122.setTop (mkF m 16 #[.val (.int p1), .val (.int p2), .val (.long q3), .second, .val (.long q4), .second, .val (.int p5), .val (.ref b101), .val (.int (1 : Int32)), .unset, .unset, .unset, .unset, .unset, .unset] []))
  refine OwnEnd.go (fun _ k => XS.iloadN X122.here hx rfl (hb hby at_16) rfl  k) ?_
  show OwnEnd p e below s _ _ _ (T122.setTop (mkF m 17 #[.val (.int p1), .val (.int p2), .val (.long q3), .second, .val (.long q4), .second, .val (.int p5), .val (.ref b101), .val (.int (1 : Int32)), .unset, .unset, .unset, .unset, .unset, .unset] [(.int p1)]))
  refine OwnEnd.go (fun _ k => XS.bipush X122.here hx rfl (hb hby at_17) k) ?_
  show OwnEnd p e below s _ _ _ (T122.setTop (mkF m 19 #[.val (.int p1), .val (.int p2), .val (.long q3), .second, .val (.long q4), .second, .val (.int p5), .val (.ref b101), .val (.int (1 : Int32)), .unset, .unset, .unset, .unset, .unset, .unset] [(.int (31 : Int32)), (.int p1)]))
  refine OwnEnd.go (fun _ k => XS.iand X122.here hx rfl (hb hby at_19) rfl k) ?_
  show OwnEnd p e below s _ _ _ (T122.setTop (mkF m 20 #[.val (.int p1), .val (.int p2), .val (.long q3), .second, .val (.long q4), .second, .val (.int p5), .val (.ref b101), .val (.int (1 : Int32)), .unset, .unset, .unset, .unset, .unset, .unset] [(.int (p1 &&& (31 : Int32)))]))
  refine OwnEnd.go (fun _ k => XS.istore X122.here hx rfl (hb hby at_20) rfl  (l' := #[.val (.int p1), .val (.int p2), .val (.long q3), .second, .val (.long q4), .second, .val (.int p5), .val (.ref b101), .val (.int (1 : Int32)), .val (.int (p1 &&& (31 : Int32))), .unset, .unset, .unset, .unset, .unset]) rfl k) ?_
  show OwnEnd p e below s _ _ _ (T122.setTop (mkF m 22 #[.val (.int p1), .val (.int p2), .val (.long q3), .second, .val (.long q4), .second, .val (.int p5), .val (.ref b101), .val (.int (1 : Int32)), .val (.int (p1 &&& (31 : Int32))), .unset, .unset, .unset, .unset, .unset] []))
  refine OwnEnd.go (fun _ k => XS.iloadN X122.here hx rfl (hb hby at_22) rfl  k) ?_
  show OwnEnd p e below s _ _ _ (T122.setTop (mkF m 23 #[.val (.int p1), .val (.int p2), .val (.long q3), .second, .val (.long q4), .second, .val (.int p5), .val (.ref b101), .val (.int (1 : Int32)), .val (.int (p1 &&& (31 : Int32))), .unset, .unset, .unset, .unset, .unset] [(.int p2)]))
  refine OwnEnd.go (fun _ k => XS.bipush X122.here hx rfl (hb hby at_23) k) ?_
  show OwnEnd p e below s _ _ _ (T122.setTop (mkF m 25 #[.val (.int p1), .val (.int p2), .val (.long q3), .second, .val (.long q4), .second, .val (.int p5), .val (.ref b101), .val (.int (1 : Int32)), .val (.int (p1 &&& (31 : Int32))), .unset, .unset, .unset, .unset, .unset] [(.int (31 : Int32)), (.int p2)]))
  refine OwnEnd.go (fun _ k => XS.iand X122.here hx rfl (hb hby at_25) rfl k) ?_
  show OwnEnd p e below s _ _ _ (T122.setTop (mkF m 26 #[.val (.int p1), .val (.int p2), .val (.long q3), .second, .val (.long q4), .second, .val (.int p5), .val (.ref b101), .val (.int (1 : Int32)), .val (.int (p1 &&& (31 : Int32))), .unset, .unset, .unset, .unset, .unset] [(.int (p2 &&& (31 : Int32)))]))
  refine OwnEnd.go (fun _ k => XS.istore X122.here hx rfl (hb hby at_26) rfl  (l' := #[.val (.int p1), .val (.int p2), .val (.long q3), .second, .val (.long q4), .second, .val (.int p5), .val (.ref b101), .val (.int (1 : Int32)), .val (.int (p1 &&& (31 : Int32))), .val (.int (p2 &&& (31 : Int32))), .unset, .unset, .unset, .unset]) rfl k) ?_
  show OwnEnd p e below s _ _ _ (T122.setTop (mkF m 28 #[.val (.int p1), .val (.int p2), .val (.long q3), .second, .val (.long q4), .second, .val (.int p5), .val (.ref b101), .val (.int (1 : Int32)), .val (.int (p1 &&& (31 : Int32))), .val (.int (p2 &&& (31 : Int32))), .unset, .unset, .unset, .unset] []))
  refine OwnEnd.go (fun _ k => XS.iload X122.here hx rfl (hb hby at_28) rfl  k) ?_
  show OwnEnd p e below s _ _ _ (T122.setTop (mkF m 30 #[.val (.int p1), .val (.int p2), .val (.long q3), .second, .val (.long q4), .second, .val (.int p5), .val (.ref b101), .val (.int (1 : Int32)), .val (.int (p1 &&& (31 : Int32))), .val (.int (p2 &&& (31 : Int32))), .unset, .unset, .unset, .unset] [(.int p5)]))
  refine OwnEnd.go (fun _ k => XS.iconst X122.here hx rfl (hb hby at_30) k) ?_
  show OwnEnd p e below s _ _ _ (T122.setTop (mkF m 31 #[.val (.int p1), .val (.int p2), .val (.long q3), .second, .val (.long q4), .second, .val (.int p5), .val (.ref b101), .val (.int (1 : Int32)), .val (.int (p1 &&& (31 : Int32))), .val (.int (p2 &&& (31 : Int32))), .unset, .unset, .unset, .unset] [(.int (1 : Int32)), (.int p5)]))
  refine OwnEnd.go (fun _ k => XS.iand X122.here hx rfl (hb hby at_31) rfl k) ?_
  show OwnEnd p e below s _ _ _ (T122.setTop (mkF m 32 #[.val (.int p1), .val (.int p2), .val (.long q3), .second, .val (.long q4), .second, .val (.int p5), .val (.ref b101), .val (.int (1 : Int32)), .val (.int (p1 &&& (31 : Int32))), .val (.int (p2 &&& (31 : Int32))), .unset, .unset, .unset, .unset] [(.int (p5 &&& (1 : Int32)))]))
  have D123 : ownDia X122 T106.heap (fun v : Int32 => True) (fun v => (mkF m 40 #[.val (.int p1), .val (.int p2), .val (.long q3), .second, .val (.long q4), .second, .val (.int p5), .val (.ref b101), .val (.int (1 : Int32)), .val (.int (p1 &&& (31 : Int32))), .val (.int (p2 &&& (31 : Int32))), .unset, .unset, .unset, .unset] [(.int v)])) (mkF m 32 #[.val (.int p1), .val (.int p2), .val (.long q3), .second, .val (.long q4), .second, .val (.int p5), .val (.ref b101), .val (.int (1 : Int32)), .val (.int (p1 &&& (31 : Int32))), .val (.int (p2 &&& (31 : Int32))), .unset, .unset, .unset, .unset] [(.int (p5 &&& (1 : Int32)))]) := by
    by_cases hc : (p5 &&& (1 : Int32)) = (0 : Int32)
    · refine ⟨_, (0 : Int32), X122, e122, trivial, fun t k => ?_⟩
      refine XS.ifYes X122.here hx rfl (pc0 := 32) (pc' := 39) rfl (hb hby at_32) rfl ((if0 _ _).trans (teq hc).1) (by decide) (by decide) ?_
      show Steps p.tables e below (T122.setTop (mkF m 39 #[.val (.int p1), .val (.int p2), .val (.long q3), .second, .val (.long q4), .second, .val (.int p5), .val (.ref b101), .val (.int (1 : Int32)), .val (.int (p1 &&& (31 : Int32))), .val (.int (p2 &&& (31 : Int32))), .unset, .unset, .unset, .unset] [])) _
      refine XS.iconst X122.here hx rfl (hb hby at_39) ?_
      show Steps p.tables e below (T122.setTop (mkF m 40 #[.val (.int p1), .val (.int p2), .val (.long q3), .second, .val (.long q4), .second, .val (.int p5), .val (.ref b101), .val (.int (1 : Int32)), .val (.int (p1 &&& (31 : Int32))), .val (.int (p2 &&& (31 : Int32))), .unset, .unset, .unset, .unset] [(.int (0 : Int32))])) _
      exact k
    · refine ⟨_, (1 : Int32), X122, e122, trivial, fun t k => ?_⟩
      refine XS.ifNo X122.here hx rfl (hb hby at_32) rfl ((if0 _ _).trans (feq hc).1) ?_
      show Steps p.tables e below (T122.setTop (mkF m 35 #[.val (.int p1), .val (.int p2), .val (.long q3), .second, .val (.long q4), .second, .val (.int p5), .val (.ref b101), .val (.int (1 : Int32)), .val (.int (p1 &&& (31 : Int32))), .val (.int (p2 &&& (31 : Int32))), .unset, .unset, .unset, .unset] [])) _
      refine XS.iconst X122.here hx rfl (hb hby at_35) ?_
      show Steps p.tables e below (T122.setTop (mkF m 36 #[.val (.int p1), .val (.int p2), .val (.long q3), .second, .val (.long q4), .second, .val (.int p5), .val (.ref b101), .val (.int (1 : Int32)), .val (.int (p1 &&& (31 : Int32))), .val (.int (p2 &&& (31 : Int32))), .unset, .unset, .unset, .unset] [(.int (1 : Int32))])) _
      refine XS.goto X122.here hx rfl (pc0 := 36) (pc' := 40) rfl (hb hby at_36) (by decide) (by decide) ?_
      show Steps p.tables e below (T122.setTop (mkF m 40 #[.val (.int p1), .val (.int p2), .val (.long q3), .second, .val (.long q4), .second, .val (.int p5), .val (.ref b101), .val (.int (1 : Int32)), .val (.int (p1 &&& (31 : Int32))), .val (.int (p2 &&& (31 : Int32))), .unset, .unset, .unset, .unset] [(.int (1 : Int32))])) _
      exact k
  obtain ⟨T123, v123, X123, e123, P123, st123⟩ := D123
  refine OwnEnd.go st123 ?_
  show OwnEnd p e below s _ _ _ (T123.setTop (mkF m 40 #[.val (.int p1), .val (.int p2), .val (.long q3), .second, .val (.long q4), .second, .val (.int p5), .val (.ref b101), .val (.int (1 : Int32)), .val (.int (p1 &&& (31 : Int32))), .val (.int (p2 &&& (31 : Int32))), .unset, .unset, .unset, .unset] [(.int v123)]))
  refine OwnEnd.go (fun _ k => XS.istore X123.here hx rfl (hb hby at_40) rfl  (l' := #[.val (.int p1), .val (.int p2), .val (.long q3), .second, .val (.long q4), .second, .val (.int p5), .val (.ref b101), .val (.int (1 : Int32)), .val (.int (p1 &&& (31 : Int32))), .val (.int (p2 &&& (31 : Int32))), .val (.int v123), .unset, .unset, .unset]) rfl k) ?_
  show OwnEnd p e below s _ _ _ (T123.setTop (mkF m 42 #[.val (.int p1), .val (.int p2), .val (.long q3), .second, .val (.long q4), .second, .val (.int p5), .val (.ref b101), .val (.int (1 : Int32)), .val (.int (p1 &&& (31 : Int32))), .val (.int (p2 &&& (31 : Int32))), .val (.int v123), .unset, .unset, .unset] []))
  refine OwnEnd.go (fun _ k => XS.iload X123.here hx rfl (hb hby at_42) rfl  k) ?_
  show OwnEnd p e below s _ _ _ (T123.setTop (mkF m 44 #[.val (.int p1), .val (.int p2), .val (.long q3), .second, .val (.long q4), .second, .val (.int p5), .val (.ref b101), .val (.int (1 : Int32)), .val (.int (p1 &&& (31 : Int32))), .val (.int (p2 &&& (31 : Int32))), .val (.int v123), .unset, .unset, .unset] [(.int p5)]))
  refine OwnEnd.go (fun _ k => XS.iconst X123.here hx rfl (hb hby at_44) k) ?_
  show OwnEnd p e below s _ _ _ (T123.setTop (mkF m 45 #[.val (.int p1), .val (.int p2), .val (.long q3), .second, .val (.long q4), .second, .val (.int p5), .val (.ref b101), .val (.int (1 : Int32)), .val (.int (p1 &&& (31 : Int32))), .val (.int (p2 &&& (31 : Int32))), .val (.int v123), .unset, .unset, .unset] [(.int (2 : Int32)), (.int p5)]))
  refine OwnEnd.go (fun _ k => XS.iand X123.here hx rfl (hb hby at_45) rfl k) ?_
  show OwnEnd p e below s _ _ _ (T123.setTop (mkF m 46 #[.val (.int p1), .val (.int p2), .val (.long q3), .second, .val (.long q4), .second, .val (.int p5), .val (.ref b101), .val (.int (1 : Int32)), .val (.int (p1 &&& (31 : Int32))), .val (.int (p2 &&& (31 : Int32))), .val (.int v123), .unset, .unset, .unset] [(.int (p5 &&& (2 : Int32)))]))
  have D124 : ownDia X123 T106.heap (fun v : Int32 => True) (fun v => (mkF m 54 #[.val (.int p1), .val (.int p2), .val (.long q3), .second, .val (.long q4), .second, .val (.int p5), .val (.ref b101), .val (.int (1 : Int32)), .val (.int (p1 &&& (31 : Int32))), .val (.int (p2 &&& (31 : Int32))), .val (.int v123), .unset, .unset, .unset] [(.int v)])) (mkF m 46 #[.val (.int p1), .val (.int p2), .val (.long q3), .second, .val (.long q4), .second, .val (.int p5), .val (.ref b101), .val (.int (1 : Int32)), .val (.int (p1 &&& (31 : Int32))), .val (.int (p2 &&& (31 : Int32))), .val (.int v123), .unset, .unset, .unset] [(.int (p5 &&& (2 : Int32)))]) := by
    by_cases hc : (p5 &&& (2 : Int32)) = (0 : Int32)
    · refine ⟨_, (0 : Int32), X123, e123, trivial, fun t k => ?_⟩
      refine XS.ifYes X123.here hx rfl (pc0 := 46) (pc' := 53) rfl (hb hby at_46) rfl ((if0 _ _).trans (teq hc).1) (by decide) (by decide) ?_
      show Steps p.tables e below (T123.setTop (mkF m 53 #[.val (.int p1), .val (.int p2), .val (.long q3), .second, .val (.long q4), .second, .val (.int p5), .val (.ref b101), .val (.int (1 : Int32)), .val (.int (p1 &&& (31 : Int32))), .val (.int (p2 &&& (31 : Int32))), .val (.int v123), .unset, .unset, .unset] [])) _
      refine XS.iconst X123.here hx rfl (hb hby at_53) ?_
      show Steps p.tables e below (T123.setTop (mkF m 54 #[.val (.int p1), .val (.int p2), .val (.long q3), .second, .val (.long q4), .second, .val (.int p5), .val (.ref b101), .val (.int (1 : Int32)), .val (.int (p1 &&& (31 : Int32))), .val (.int (p2 &&& (31 : Int32))), .val (.int v123), .unset, .unset, .unset] [(.int (0 : Int32))])) _
      exact k
    · refine ⟨_, (1 : Int32), X123, e123, trivial, fun t k => ?_⟩
      refine XS.ifNo X123.here hx rfl (hb hby at_46) rfl ((if0 _ _).trans (feq hc).1) ?_
      show Steps p.tables e below (T123.setTop (mkF m 49 #[.val (.int p1), .val (.int p2), .val (.long q3), .second, .val (.long q4), .second, .val (.int p5), .val (.ref b101), .val (.int (1 : Int32)), .val (.int (p1 &&& (31 : Int32))), .val (.int (p2 &&& (31 : Int32))), .val (.int v123), .unset, .unset, .unset] [])) _
      refine XS.iconst X123.here hx rfl (hb hby at_49) ?_
      show Steps p.tables e below (T123.setTop (mkF m 50 #[.val (.int p1), .val (.int p2), .val (.long q3), .second, .val (.long q4), .second, .val (.int p5), .val (.ref b101), .val (.int (1 : Int32)), .val (.int (p1 &&& (31 : Int32))), .val (.int (p2 &&& (31 : Int32))), .val (.int v123), .unset, .unset, .unset] [(.int (1 : Int32))])) _
      refine XS.goto X123.here hx rfl (pc0 := 50) (pc' := 54) rfl (hb hby at_50) (by decide) (by decide) ?_
      show Steps p.tables e below (T123.setTop (mkF m 54 #[.val (.int p1), .val (.int p2), .val (.long q3), .second, .val (.long q4), .second, .val (.int p5), .val (.ref b101), .val (.int (1 : Int32)), .val (.int (p1 &&& (31 : Int32))), .val (.int (p2 &&& (31 : Int32))), .val (.int v123), .unset, .unset, .unset] [(.int (1 : Int32))])) _
      exact k
  obtain ⟨T124, v124, X124, e124, P124, st124⟩ := D124
  refine OwnEnd.go st124 ?_
  show OwnEnd p e below s _ _ _ (T124.setTop (mkF m 54 #[.val (.int p1), .val (.int p2), .val (.long q3), .second, .val (.long q4), .second, .val (.int p5), .val (.ref b101), .val (.int (1 : Int32)), .val (.int (p1 &&& (31 : Int32))), .val (.int (p2 &&& (31 : Int32))), .val (.int v123), .unset, .unset, .unset] [(.int v124)]))
  refine OwnEnd.go (fun _ k => XS.istore X124.here hx rfl (hb hby at_54) rfl  (l' := #[.val (.int p1), .val (.int p2), .val (.long q3), .second, .val (.long q4), .second, .val (.int p5), .val (.ref b101), .val (.int (1 : Int32)), .val (.int (p1 &&& (31 : Int32))), .val (.int (p2 &&& (31 : Int32))), .val (.int v123), .val (.int v124), .unset, .unset]) rfl k) ?_
  show OwnEnd p e below s _ _ _ (T124.setTop (mkF m 56 #[.val (.int p1), .val (.int p2), .val (.long q3), .second, .val (.long q4), .second, .val (.int p5), .val (.ref b101), .val (.int (1 : Int32)), .val (.int (p1 &&& (31 : Int32))), .val (.int (p2 &&& (31 : Int32))), .val (.int v123), .val (.int v124), .unset, .unset] []))
  refine OwnEnd.go (fun _ k => XS.iconst X124.here hx rfl (hb hby at_56) k) ?_
  show OwnEnd p e below s _ _ _ (T124.setTop (mkF m 57 #[.val (.int p1), .val (.int p2), .val (.long q3), .second, .val (.long q4), .second, .val (.int p5), .val (.ref b101), .val (.int (1 : Int32)), .val (.int (p1 &&& (31 : Int32))), .val (.int (p2 &&& (31 : Int32))), .val (.int v123), .val (.int v124), .unset, .unset] [(.int (0 : Int32))]))
  refine OwnEnd.go (fun _ k => XS.istore X124.here hx rfl (hb hby at_57) rfl  (l' := #[.val (.int p1), .val (.int p2), .val (.long q3), .second, .val (.long q4), .second, .val (.int p5), .val (.ref b101), .val (.int (1 : Int32)), .val (.int (p1 &&& (31 : Int32))), .val (.int (p2 &&& (31 : Int32))), .val (.int v123), .val (.int v124), .val (.int (0 : Int32)), .unset]) rfl k) ?_
  show OwnEnd p e below s _ _ _ (T124.setTop (mkF m 59 #[.val (.int p1), .val (.int p2), .val (.long q3), .second, .val (.long q4), .second, .val (.int p5), .val (.ref b101), .val (.int (1 : Int32)), .val (.int (p1 &&& (31 : Int32))), .val (.int (p2 &&& (31 : Int32))), .val (.int v123), .val (.int v124), .val (.int (0 : Int32)), .unset] []))
  refine OwnEnd.go (fun _ k => XS.iload X124.here hx rfl (hb hby at_59) rfl  k) ?_
  show OwnEnd p e below s _ _ _ (T124.setTop (mkF m 61 #[.val (.int p1), .val (.int p2), .val (.long q3), .second, .val (.long q4), .second, .val (.int p5), .val (.ref b101), .val (.int (1 : Int32)), .val (.int (p1 &&& (31 : Int32))), .val (.int (p2 &&& (31 : Int32))), .val (.int v123), .val (.int v124), .val (.int (0 : Int32)), .unset] [(.int v123)]))
  by_cases hc125 : v123 = (0 : Int32)
  · refine OwnEnd.go (fun _ k => XS.ifYes X124.here hx rfl (pc0 := 61) (pc' := 75) rfl (hb hby at_61) rfl ((if0 _ _).trans (teq hc125).1) (by decide) (by decide) k) ?_
    show OwnEnd p e below s _ _ _ (T124.setTop (mkF m 75 #[.val (.int p1), .val (.int p2), .val (.long q3), .second, .val (.long q4), .second, .val (.int p5), .val (.ref b101), .val (.int (1 : Int32)), .val (.int (p1 &&& (31 : Int32))), .val (.int (p2 &&& (31 : Int32))), .val (.int v123), .val (.int v124), .val (.int (0 : Int32)), .unset] []))
    refine OwnEnd.go (fun _ k => XS.iload X124.here hx rfl (hb hby at_75) rfl  k) ?_
    show OwnEnd p e below s _ _ _ (T124.setTop (mkF m 77 #[.val (.int p1), .val (.int p2), .val (.long q3), .second, .val (.long q4), .second, .val (.int p5), .val (.ref b101), .val (.int (1 : Int32)), .val (.int (p1 &&& (31 : Int32))), .val (.int (p2 &&& (31 : Int32))), .val (.int v123), .val (.int v124), .val (.int (0 : Int32)), .unset] [(.int v124)]))
    by_cases hc126 : v124 = (0 : Int32)
    · refine OwnEnd.go (fun _ k => XS.ifYes X124.here hx rfl (pc0 := 77) (pc' := 107) rfl (hb hby at_77) rfl ((if0 _ _).trans (teq hc126).1) (by decide) (by decide) k) ?_
      show OwnEnd p e below s _ _ _ (T124.setTop (mkF m 107 #[.val (.int p1), .val (.int p2), .val (.long q3), .second, .val (.long q4), .second, .val (.int p5), .val (.ref b101), .val (.int (1 : Int32)), .val (.int (p1 &&& (31 : Int32))), .val (.int (p2 &&& (31 : Int32))), .val (.int v123), .val (.int v124), .val (.int (0 : Int32)), .unset] []))
      refine OwnEnd.go (fun _ k => XS.iload X124.here hx rfl (hb hby at_107) rfl  k) ?_
      show OwnEnd p e below s _ _ _ (T124.setTop (mkF m 109 #[.val (.int p1), .val (.int p2), .val (.long q3), .second, .val (.long q4), .second, .val (.int p5), .val (.ref b101), .val (.int (1 : Int32)), .val (.int (p1 &&& (31 : Int32))), .val (.int (p2 &&& (31 : Int32))), .val (.int v123), .val (.int v124), .val (.int (0 : Int32)), .unset] [(.int (1 : Int32))]))
      refine OwnEnd.go (fun _ k => XS.ifNo X124.here hx rfl (hb hby at_109) rfl ((if0 _ _).trans (feq (by decide : ¬ (1 : Int32) = (0 : Int32))).1) k) ?_
      show OwnEnd p e below s _ _ _ (T124.setTop (mkF m 112 #[.val (.int p1), .val (.int p2), .val (.long q3), .second, .val (.long q4), .second, .val (.int p5), .val (.ref b101), .val (.int (1 : Int32)), .val (.int (p1 &&& (31 : Int32))), .val (.int (p2 &&& (31 : Int32))), .val (.int v123), .val (.int v124), .val (.int (0 : Int32)), .unset] []))
      refine OwnEnd.go (fun _ k => XS.aload X124.here hx rfl (hb hby at_112) rfl rfl k) ?_
      show OwnEnd p e below s _ _ _ (T124.setTop (mkF m 114 #[.val (.int p1), .val (.int p2), .val (.long q3), .second, .val (.long q4), .second, .val (.int p5), .val (.ref b101), .val (.int (1 : Int32)), .val (.int (p1 &&& (31 : Int32))), .val (.int (p2 &&& (31 : Int32))), .val (.int v123), .val (.int v124), .val (.int (0 : Int32)), .unset] [(.ref b101)]))
      obtain ⟨_, T127, L127, X127, hQ127, st127⟩ := ownCallV X124 hx hZ hown ww24 ww25 ww27 ww26 ww2 ww28 (by decide) (rm5z0 l Z a0 hw [] b101 y114 y115 y116 (16 : Int32) (0 : Int32) (0 : Int32) (fun _ => (-1 : Int32)) T106.heap n0 Y106  P113) e124 F117 0 (by decide) (by decide) (by decide) (by decide) (g := (mkF m 114 #[.val (.int p1), .val (.int p2), .val (.long q3), .second, .val (.long q4), .second, .val (.int p5), .val (.ref b101), .val (.int (1 : Int32)), .val (.int (p1 &&& (31 : Int32))), .val (.int (p2 &&& (31 : Int32))), .val (.int v123), .val (.int v124), .val (.int (0 : Int32)), .unset] [(.ref b101)])) rfl (by rw [hml]; rfl) (argsL := []) (rest := []) (lenOf pd0_1 rfl) rfl rfl (by show 2 * 0 + _ ≤ _; exact Nat.le_of_eq rfl) (hb hby at_114)
      obtain ⟨rfl, N127q, e127⟩ := hQ127
      have N127 := Fr.app N122 N127q
      refine OwnEnd.go (fun _ k => st127 _ k) ?_
      show OwnEnd p e below s _ _ _ (T127.setTop (mkF m 117 #[.val (.int p1), .val (.int p2), .val (.long q3), .second, .val (.long q4), .second, .val (.int p5), .val (.ref b101), .val (.int (1 : Int32)), .val (.int (p1 &&& (31 : Int32))), .val (.int (p2 &&& (31 : Int32))), .val (.int v123), .val (.int v124), .val (.int (0 : Int32)), .unset] [(.int (1 : Int32))]))
      refine OwnEnd.go (fun _ k => XS.iload X127.here hx rfl (hb hby at_117) rfl  k) ?_
      show OwnEnd p e below s _ _ _ (T127.setTop (mkF m 119 #[.val (.int p1), .val (.int p2), .val (.long q3), .second, .val (.long q4), .second, .val (.int p5), .val (.ref b101), .val (.int (1 : Int32)), .val (.int (p1 &&& (31 : Int32))), .val (.int (p2 &&& (31 : Int32))), .val (.int v123), .val (.int v124), .val (.int (0 : Int32)), .unset] [(.int (0 : Int32)), (.int (1 : Int32))]))
      refine OwnEnd.go (fun _ k => XS.ifNo X127.here hx rfl (hb hby at_119) rfl ((if0 _ _).trans (teq (by decide : (0 : Int32) = (0 : Int32))).2) k) ?_
      show OwnEnd p e below s _ _ _ (T127.setTop (mkF m 122 #[.val (.int p1), .val (.int p2), .val (.long q3), .second, .val (.long q4), .second, .val (.int p5), .val (.ref b101), .val (.int (1 : Int32)), .val (.int (p1 &&& (31 : Int32))), .val (.int (p2 &&& (31 : Int32))), .val (.int v123), .val (.int v124), .val (.int (0 : Int32)), .unset] [(.int (1 : Int32))]))
      refine OwnEnd.go (fun _ k => XS.iconst X127.here hx rfl (hb hby at_122) k) ?_
      show OwnEnd p e below s _ _ _ (T127.setTop (mkF m 123 #[.val (.int p1), .val (.int p2), .val (.long q3), .second, .val (.long q4), .second, .val (.int p5), .val (.ref b101), .val (.int (1 : Int32)), .val (.int (p1 &&& (31 : Int32))), .val (.int (p2 &&& (31 : Int32))), .val (.int v123), .val (.int v124), .val (.int (0 : Int32)), .unset] [(.int (1 : Int32)), (.int (1 : Int32))]))
      refine OwnEnd.go (fun _ k => XS.goto X127.here hx rfl (pc0 := 123) (pc' := 127) rfl (hb hby at_123) (by decide) (by decide) k) ?_
      show OwnEnd p e below s _ _ _ (T127.setTop (mkF m 127 #[.val (.int p1), .val (.int p2), .val (.long q3), .second, .val (.long q4), .second, .val (.int p5), .val (.ref b101), .val (.int (1 : Int32)), .val (.int (p1 &&& (31 : Int32))), .val (.int (p2 &&& (31 : Int32))), .val (.int v123), .val (.int v124), .val (.int (0 : Int32)), .unset] [(.int (1 : Int32)), (.int (1 : Int32))]))
      refine OwnEnd.go (fun _ k => XS.icmpNo X127.here hx rfl (hb hby at_127) rfl (teq (by decide : (1 : Int32) = (1 : Int32))).2 k) ?_
      show OwnEnd p e below s _ _ _ (T127.setTop (mkF m 130 #[.val (.int p1), .val (.int p2), .val (.long q3), .second, .val (.long q4), .second, .val (.int p5), .val (.ref b101), .val (.int (1 : Int32)), .val (.int (p1 &&& (31 : Int32))), .val (.int (p2 &&& (31 : Int32))), .val (.int v123), .val (.int v124), .val (.int (0 : Int32)), .unset] []))
      refine OwnEnd.go (fun _ k => XS.iconst X127.here hx rfl (hb hby at_130) k) ?_
      show OwnEnd p e below s _ _ _ (T127.setTop (mkF m 131 #[.val (.int p1), .val (.int p2), .val (.long q3), .second, .val (.long q4), .second, .val (.int p5), .val (.ref b101), .val (.int (1 : Int32)), .val (.int (p1 &&& (31 : Int32))), .val (.int (p2 &&& (31 : Int32))), .val (.int v123), .val (.int v124), .val (.int (0 : Int32)), .unset] [(.int (1 : Int32))]))
      refine OwnEnd.go (fun _ k => XS.goto X127.here hx rfl (pc0 := 131) (pc' := 135) rfl (hb hby at_131) (by decide) (by decide) k) ?_
      show OwnEnd p e below s _ _ _ (T127.setTop (mkF m 135 #[.val (.int p1), .val (.int p2), .val (.long q3), .second, .val (.long q4), .second, .val (.int p5), .val (.ref b101), .val (.int (1 : Int32)), .val (.int (p1 &&& (31 : Int32))), .val (.int (p2 &&& (31 : Int32))), .val (.int v123), .val (.int v124), .val (.int (0 : Int32)), .unset] [(.int (1 : Int32))]))
      refine OwnEnd.go (fun _ k => XS.istore X127.here hx rfl (hb hby at_135) rfl  (l' := #[.val (.int p1), .val (.int p2), .val (.long q3), .second, .val (.long q4), .second, .val (.int p5), .val (.ref b101), .val (.int (1 : Int32)), .val (.int (p1 &&& (31 : Int32))), .val (.int (p2 &&& (31 : Int32))), .val (.int v123), .val (.int v124), .val (.int (0 : Int32)), .unset]) rfl k) ?_
      show OwnEnd p e below s _ _ _ (T127.setTop (mkF m 137 #[.val (.int p1), .val (.int p2), .val (.long q3), .second, .val (.long q4), .second, .val (.int p5), .val (.ref b101), .val (.int (1 : Int32)), .val (.int (p1 &&& (31 : Int32))), .val (.int (p2 &&& (31 : Int32))), .val (.int v123), .val (.int v124), .val (.int (0 : Int32)), .unset] []))
      refine OwnEnd.go (fun _ k => XS.iload X127.here hx rfl (hb hby at_137) rfl  k) ?_
      show OwnEnd p e below s _ _ _ (T127.setTop (mkF m 139 #[.val (.int p1), .val (.int p2), .val (.long q3), .second, .val (.long q4), .second, .val (.int p5), .val (.ref b101), .val (.int (1 : Int32)), .val (.int (p1 &&& (31 : Int32))), .val (.int (p2 &&& (31 : Int32))), .val (.int v123), .val (.int v124), .val (.int (0 : Int32)), .unset] [(.int p5)]))
      refine OwnEnd.go (fun _ k => XS.iconst X127.here hx rfl (hb hby at_139) k) ?_
      show OwnEnd p e below s _ _ _ (T127.setTop (mkF m 140 #[.val (.int p1), .val (.int p2), .val (.long q3), .second, .val (.long q4), .second, .val (.int p5), .val (.ref b101), .val (.int (1 : Int32)), .val (.int (p1 &&& (31 : Int32))), .val (.int (p2 &&& (31 : Int32))), .val (.int v123), .val (.int v124), .val (.int (0 : Int32)), .unset] [(.int (2 : Int32)), (.int p5)]))
      refine OwnEnd.go (fun _ k => XS.ishr X127.here hx rfl (hb hby at_140) rfl k) ?_
      show OwnEnd p e below s _ _ _ (T127.setTop (mkF m 141 #[.val (.int p1), .val (.int p2), .val (.long q3), .second, .val (.long q4), .second, .val (.int p5), .val (.ref b101), .val (.int (1 : Int32)), .val (.int (p1 &&& (31 : Int32))), .val (.int (p2 &&& (31 : Int32))), .val (.int v123), .val (.int v124), .val (.int (0 : Int32)), .unset] [(.int (p5 >>> ((2 : Int32) &&& 31)))]))
      refine OwnEnd.go (fun _ k => XS.iconst X127.here hx rfl (hb hby at_141) k) ?_
      show OwnEnd p e below s _ _ _ (T127.setTop (mkF m 142 #[.val (.int p1), .val (.int p2), .val (.long q3), .second, .val (.long q4), .second, .val (.int p5), .val (.ref b101), .val (.int (1 : Int32)), .val (.int (p1 &&& (31 : Int32))), .val (.int (p2 &&& (31 : Int32))), .val (.int v123), .val (.int v124), .val (.int (0 : Int32)), .unset] [(.int (3 : Int32)), (.int (p5 >>> ((2 : Int32) &&& 31)))]))
      refine OwnEnd.go (fun _ k => XS.iand X127.here hx rfl (hb hby at_142) rfl k) ?_
      show OwnEnd p e below s _ _ _ (T127.setTop (mkF m 143 #[.val (.int p1), .val (.int p2), .val (.long q3), .second, .val (.long q4), .second, .val (.int p5), .val (.ref b101), .val (.int (1 : Int32)), .val (.int (p1 &&& (31 : Int32))), .val (.int (p2 &&& (31 : Int32))), .val (.int v123), .val (.int v124), .val (.int (0 : Int32)), .unset] [(.int ((p5 >>> ((2 : Int32) &&& 31)) &&& (3 : Int32)))]))
      refine OwnEnd.go (fun _ k => XS.iload X127.here hx rfl (hb hby at_143) rfl  k) ?_
      show OwnEnd p e below s _ _ _ (T127.setTop (mkF m 145 #[.val (.int p1), .val (.int p2), .val (.long q3), .second, .val (.long q4), .second, .val (.int p5), .val (.ref b101), .val (.int (1 : Int32)), .val (.int (p1 &&& (31 : Int32))), .val (.int (p2 &&& (31 : Int32))), .val (.int v123), .val (.int v124), .val (.int (0 : Int32)), .unset] [(.int (0 : Int32)), (.int ((p5 >>> ((2 : Int32) &&& 31)) &&& (3 : Int32)))]))
      obtain ⟨_, T128, L128, X128, hQ128, st128⟩ := ownCallS X127 hx hZ hown ww44 ww45 ww46 ww47 (by decide) (rm9 l Z a0 hw [] ((p5 >>> ((2 : Int32) &&& 31)) &&& (3 : Int32)) (0 : Int32) T106.heap n0 Y106  ) e127 0 (by decide) (by decide) (by decide) (by decide) (g := (mkF m 145 #[.val (.int p1), .val (.int p2), .val (.long q3), .second, .val (.long q4), .second, .val (.int p5), .val (.ref b101), .val (.int (1 : Int32)), .val (.int (p1 &&& (31 : Int32))), .val (.int (p2 &&& (31 : Int32))), .val (.int v123), .val (.int v124), .val (.int (0 : Int32)), .unset] [(.int (0 : Int32)), (.int ((p5 >>> ((2 : Int32) &&& 31)) &&& (3 : Int32)))])) rfl (by rw [hml]; rfl) (argsL := [(.int ((p5 >>> ((2 : Int32) &&& 31)) &&& (3 : Int32))), (.int (0 : Int32))]) (rest := []) (lenOf pd0_2 rfl) rfl rfl (by show 2 * 0 + _ ≤ _; exact Nat.le_of_eq rfl) (hb hby at_145)
      obtain ⟨rfl, N128q, e128⟩ := hQ128
      have N128 := Fr.app N127 N128q
      refine OwnEnd.go (fun _ k => st128 _ k) ?_
      show OwnEnd p e below s _ _ _ (T128.setTop (mkF m 148 #[.val (.int p1), .val (.int p2), .val (.long q3), .second, .val (.long q4), .second, .val (.int p5), .val (.ref b101), .val (.int (1 : Int32)), .val (.int (p1 &&& (31 : Int32))), .val (.int (p2 &&& (31 : Int32))), .val (.int v123), .val (.int v124), .val (.int (0 : Int32)), .unset] [(.int (own_min ((p5 >>> ((2 : Int32) &&& 31)) &&& (3 : Int32)) (0 : Int32)))]))
      refine OwnEnd.go (fun _ k => XS.istore X128.here hx rfl (hb hby at_148) rfl  (l' := #[.val (.int p1), .val (.int p2), .val (.long q3), .second, .val (.long q4), .second, .val (.int p5), .val (.ref b101), .val (.int (1 : Int32)), .val (.int (p1 &&& (31 : Int32))), .val (.int (p2 &&& (31 : Int32))), .val (.int v123), .val (.int v124), .val (.int (0 : Int32)), .val (.int (own_min ((p5 >>> ((2 : Int32) &&& 31)) &&& (3 : Int32)) (0 : Int32)))]) rfl k) ?_
      show OwnEnd p e below s _ _ _ (T128.setTop (mkF m 150 #[.val (.int p1), .val (.int p2), .val (.long q3), .second, .val (.long q4), .second, .val (.int p5), .val (.ref b101), .val (.int (1 : Int32)), .val (.int (p1 &&& (31 : Int32))), .val (.int (p2 &&& (31 : Int32))), .val (.int v123), .val (.int v124), .val (.int (0 : Int32)), .val (.int (own_min ((p5 >>> ((2 : Int32) &&& 31)) &&& (3 : Int32)) (0 : Int32)))] []))
      refine OwnEnd.go (fun _ k => XS.iload X128.here hx rfl (hb hby at_150) rfl  k) ?_
      show OwnEnd p e below s _ _ _ (T128.setTop (mkF m 152 #[.val (.int p1), .val (.int p2), .val (.long q3), .second, .val (.long q4), .second, .val (.int p5), .val (.ref b101), .val (.int (1 : Int32)), .val (.int (p1 &&& (31 : Int32))), .val (.int (p2 &&& (31 : Int32))), .val (.int v123), .val (.int v124), .val (.int (0 : Int32)), .val (.int (own_min ((p5 >>> ((2 : Int32) &&& 31)) &&& (3 : Int32)) (0 : Int32)))] [(.int (own_min ((p5 >>> ((2 : Int32) &&& 31)) &&& (3 : Int32)) (0 : Int32)))]))
      refine OwnEnd.go (fun _ k => XS.iconst X128.here hx rfl (hb hby at_152) k) ?_
      show OwnEnd p e below s _ _ _ (T128.setTop (mkF m 153 #[.val (.int p1), .val (.int p2), .val (.long q3), .second, .val (.long q4), .second, .val (.int p5), .val (.ref b101), .val (.int (1 : Int32)), .val (.int (p1 &&& (31 : Int32))), .val (.int (p2 &&& (31 : Int32))), .val (.int v123), .val (.int v124), .val (.int (0 : Int32)), .val (.int (own_min ((p5 >>> ((2 : Int32) &&& 31)) &&& (3 : Int32)) (0 : Int32)))] [(.int (1 : Int32)), (.int (own_min ((p5 >>> ((2 : Int32) &&& 31)) &&& (3 : Int32)) (0 : Int32)))]))
      refine OwnEnd.go (fun _ k => XS.icmpYes X128.here hx rfl (pc0 := 153) (pc' := 193) rfl (hb hby at_153) rfl (tlt (own_min0 _)).1 (by decide) (by decide) k) ?_
      show OwnEnd p e below s _ _ _ (T128.setTop (mkF m 193 #[.val (.int p1), .val (.int p2), .val (.long q3), .second, .val (.long q4), .second, .val (.int p5), .val (.ref b101), .val (.int (1 : Int32)), .val (.int (p1 &&& (31 : Int32))), .val (.int (p2 &&& (31 : Int32))), .val (.int v123), .val (.int v124), .val (.int (0 : Int32)), .val (.int (own_min ((p5 >>> ((2 : Int32) &&& 31)) &&& (3 : Int32)) (0 : Int32)))] []))
      refine OwnEnd.go (fun _ k => XS.iload X128.here hx rfl (hb hby at_193) rfl  k) ?_
      show OwnEnd p e below s _ _ _ (T128.setTop (mkF m 195 #[.val (.int p1), .val (.int p2), .val (.long q3), .second, .val (.long q4), .second, .val (.int p5), .val (.ref b101), .val (.int (1 : Int32)), .val (.int (p1 &&& (31 : Int32))), .val (.int (p2 &&& (31 : Int32))), .val (.int v123), .val (.int v124), .val (.int (0 : Int32)), .val (.int (own_min ((p5 >>> ((2 : Int32) &&& 31)) &&& (3 : Int32)) (0 : Int32)))] [(.int (own_min ((p5 >>> ((2 : Int32) &&& 31)) &&& (3 : Int32)) (0 : Int32)))]))
      refine OwnEnd.go (fun _ k => XS.iconst X128.here hx rfl (hb hby at_195) k) ?_
      show OwnEnd p e below s _ _ _ (T128.setTop (mkF m 196 #[.val (.int p1), .val (.int p2), .val (.long q3), .second, .val (.long q4), .second, .val (.int p5), .val (.ref b101), .val (.int (1 : Int32)), .val (.int (p1 &&& (31 : Int32))), .val (.int (p2 &&& (31 : Int32))), .val (.int v123), .val (.int v124), .val (.int (0 : Int32)), .val (.int (own_min ((p5 >>> ((2 : Int32) &&& 31)) &&& (3 : Int32)) (0 : Int32)))] [(.int (2 : Int32)), (.int (own_min ((p5 >>> ((2 : Int32) &&& 31)) &&& (3 : Int32)) (0 : Int32)))]))
      refine OwnEnd.go (fun _ k => XS.icmpYes X128.here hx rfl (pc0 := 196) (pc' := 225) rfl (hb hby at_196) rfl (tlt (own_lt12 (own_min0 _))).1 (by decide) (by decide) k) ?_
      show OwnEnd p e below s _ _ _ (T128.setTop (mkF m 225 #[.val (.int p1), .val (.int p2), .val (.long q3), .second, .val (.long q4), .second, .val (.int p5), .val (.ref b101), .val (.int (1 : Int32)), .val (.int (p1 &&& (31 : Int32))), .val (.int (p2 &&& (31 : Int32))), .val (.int v123), .val (.int v124), .val (.int (0 : Int32)), .val (.int (own_min ((p5 >>> ((2 : Int32) &&& 31)) &&& (3 : Int32)) (0 : Int32)))] []))
      refine OwnEnd.go (fun _ k => XS.iload X128.here hx rfl (hb hby at_225) rfl  k) ?_
      show OwnEnd p e below s _ _ _ (T128.setTop (mkF m 227 #[.val (.int p1), .val (.int p2), .val (.long q3), .second, .val (.long q4), .second, .val (.int p5), .val (.ref b101), .val (.int (1 : Int32)), .val (.int (p1 &&& (31 : Int32))), .val (.int (p2 &&& (31 : Int32))), .val (.int v123), .val (.int v124), .val (.int (0 : Int32)), .val (.int (own_min ((p5 >>> ((2 : Int32) &&& 31)) &&& (3 : Int32)) (0 : Int32)))] [(.int (1 : Int32))]))
      refine ownRetZ X128 hx hlk hret (hb hby at_227) (by decide) (by decide) (1 : Int32) (by decide) ?_
      show Q0 Z p1 p2 q3 q4 p5 h0 n0 _ T128.heap _
      rw [e128]
      exact ⟨rfl, N128⟩
    · refine OwnEnd.go (fun _ k => XS.ifNo X124.here hx rfl (hb hby at_77) rfl ((if0 _ _).trans (feq hc126).1) k) ?_
      show OwnEnd p e below s _ _ _ (T124.setTop (mkF m 80 #[.val (.int p1), .val (.int p2), .val (.long q3), .second, .val (.long q4), .second, .val (.int p5), .val (.ref b101), .val (.int (1 : Int32)), .val (.int (p1 &&& (31 : Int32))), .val (.int (p2 &&& (31 : Int32))), .val (.int v123), .val (.int v124), .val (.int (0 : Int32)), .unset] []))
      by_cases hs129 : (p2 &&& (31 : Int32)) < (16 : Int32)
      · show OwnEnd p e below s _ _ _ (T124.setTop (mkF m 80 #[.val (.int p1), .val (.int p2), .val (.long q3), .second, .val (.long q4), .second, .val (.int p5), .val (.ref b101), .val (.int (1 : Int32)), .val (.int (p1 &&& (31 : Int32))), .val (.int (p2 &&& (31 : Int32))), .val (.int v123), .val (.int v124), .val (.int (0 : Int32)), .unset] []))
        refine OwnEnd.go (fun _ k => XS.aload X124.here hx rfl (hb hby at_80) rfl rfl k) ?_
        show OwnEnd p e below s _ _ _ (T124.setTop (mkF m 82 #[.val (.int p1), .val (.int p2), .val (.long q3), .second, .val (.long q4), .second, .val (.int p5), .val (.ref b101), .val (.int (1 : Int32)), .val (.int (p1 &&& (31 : Int32))), .val (.int (p2 &&& (31 : Int32))), .val (.int v123), .val (.int v124), .val (.int (0 : Int32)), .unset] [(.ref b101)]))
        refine OwnEnd.go (fun _ k => XS.iload X124.here hx rfl (hb hby at_82) rfl  k) ?_
        show OwnEnd p e below s _ _ _ (T124.setTop (mkF m 84 #[.val (.int p1), .val (.int p2), .val (.long q3), .second, .val (.long q4), .second, .val (.int p5), .val (.ref b101), .val (.int (1 : Int32)), .val (.int (p1 &&& (31 : Int32))), .val (.int (p2 &&& (31 : Int32))), .val (.int v123), .val (.int v124), .val (.int (0 : Int32)), .unset] [(.int (p2 &&& (31 : Int32))), (.ref b101)]))
        refine OwnEnd.go (fun _ k => XS.lload X124.here hx rfl (hb hby at_84) rfl  k) ?_
        show OwnEnd p e below s _ _ _ (T124.setTop (mkF m 86 #[.val (.int p1), .val (.int p2), .val (.long q3), .second, .val (.long q4), .second, .val (.int p5), .val (.ref b101), .val (.int (1 : Int32)), .val (.int (p1 &&& (31 : Int32))), .val (.int (p2 &&& (31 : Int32))), .val (.int v123), .val (.int v124), .val (.int (0 : Int32)), .unset] [(.long q4), (.int (p2 &&& (31 : Int32))), (.ref b101)]))
        obtain ⟨_, T130, L130, X130, hQ130, st130⟩ := ownCallV X124 hx hZ hown ww31 ww32 ww34 ww33 ww2 ww35 (by decide) (rm6s0c16 l Z a0 hw [] b101 (p2 &&& (31 : Int32)) q4 y114 y115 y116 (0 : Int32) (0 : Int32) (fun _ => (-1 : Int32)) T106.heap n0 Y106  P113 ⟨(own_rng _).1, hs129⟩ rfl) e124 F117 0 (by decide) (by decide) (by decide) (by decide) (g := (mkF m 86 #[.val (.int p1), .val (.int p2), .val (.long q3), .second, .val (.long q4), .second, .val (.int p5), .val (.ref b101), .val (.int (1 : Int32)), .val (.int (p1 &&& (31 : Int32))), .val (.int (p2 &&& (31 : Int32))), .val (.int v123), .val (.int v124), .val (.int (0 : Int32)), .unset] [(.long q4), (.int (p2 &&& (31 : Int32))), (.ref b101)])) rfl (by rw [hml]; rfl) (argsL := [(.int (p2 &&& (31 : Int32))), (.long q4)]) (rest := []) (lenOf pd0_3 rfl) rfl rfl (by show 2 * 0 + _ ≤ _; exact Nat.le_of_eq rfl) (hb hby at_86)
        obtain ⟨rfl, N130q, K130q, P131⟩ := hQ130
        have N130 := Fr.app N122 N130q
        have F132 := F117.keep K130q
        have K130 := K106.trans K130q (allS (Or.inr v101) (allS (Or.inr (Nat.le_trans K101.1 P110)) (allS (Or.inr (Nat.le_trans K101.1 P111)) (allS (Or.inr (Nat.le_trans K101.1 P112)) all0))))
        have Y130 := Nat.le_trans Y106 K130q.1
        refine OwnEnd.go (fun _ k => st130 _ k) ?_
        show OwnEnd p e below s _ _ _ (T130.setTop (mkF m 89 #[.val (.int p1), .val (.int p2), .val (.long q3), .second, .val (.long q4), .second, .val (.int p5), .val (.ref b101), .val (.int (1 : Int32)), .val (.int (p1 &&& (31 : Int32))), .val (.int (p2 &&& (31 : Int32))), .val (.int v123), .val (.int v124), .val (.int (0 : Int32)), .unset] []))
        refine OwnEnd.go (fun _ k => XS.iload X130.here hx rfl (hb hby at_89) rfl  k) ?_
        show OwnEnd p e below s _ _ _ (T130.setTop (mkF m 91 #[.val (.int p1), .val (.int p2), .val (.long q3), .second, .val (.long q4), .second, .val (.int p5), .val (.ref b101), .val (.int (1 : Int32)), .val (.int (p1 &&& (31 : Int32))), .val (.int (p2 &&& (31 : Int32))), .val (.int v123), .val (.int v124), .val (.int (0 : Int32)), .unset] [(.int v123)]))
        refine OwnEnd.go (fun _ k => XS.ifYes X130.here hx rfl (pc0 := 91) (pc' := 101) rfl (hb hby at_91) rfl ((if0 _ _).trans (teq hc125).1) (by decide) (by decide) k) ?_
        show OwnEnd p e below s _ _ _ (T130.setTop (mkF m 101 #[.val (.int p1), .val (.int p2), .val (.long q3), .second, .val (.long q4), .second, .val (.int p5), .val (.ref b101), .val (.int (1 : Int32)), .val (.int (p1 &&& (31 : Int32))), .val (.int (p2 &&& (31 : Int32))), .val (.int v123), .val (.int v124), .val (.int (0 : Int32)), .unset] []))
        refine OwnEnd.go (fun _ k => XS.iload X130.here hx rfl (hb hby at_101) rfl  k) ?_
        show OwnEnd p e below s _ _ _ (T130.setTop (mkF m 103 #[.val (.int p1), .val (.int p2), .val (.long q3), .second, .val (.long q4), .second, .val (.int p5), .val (.ref b101), .val (.int (1 : Int32)), .val (.int (p1 &&& (31 : Int32))), .val (.int (p2 &&& (31 : Int32))), .val (.int v123), .val (.int v124), .val (.int (0 : Int32)), .unset] [(.int (0 : Int32))]))
        refine OwnEnd.go (fun _ k => XS.iconst X130.here hx rfl (hb hby at_103) k) ?_
        show OwnEnd p e below s _ _ _ (T130.setTop (mkF m 104 #[.val (.int p1), .val (.int p2), .val (.long q3), .second, .val (.long q4), .second, .val (.int p5), .val (.ref b101), .val (.int (1 : Int32)), .val (.int (p1 &&& (31 : Int32))), .val (.int (p2 &&& (31 : Int32))), .val (.int v123), .val (.int v124), .val (.int (0 : Int32)), .unset] [(.int (1 : Int32)), (.int (0 : Int32))]))
        refine OwnEnd.go (fun _ k => XS.iadd X130.here hx rfl (hb hby at_104) rfl k) ?_
        show OwnEnd p e below s _ _ _ (T130.setTop (mkF m 105 #[.val (.int p1), .val (.int p2), .val (.long q3), .second, .val (.long q4), .second, .val (.int p5), .val (.ref b101), .val (.int (1 : Int32)), .val (.int (p1 &&& (31 : Int32))), .val (.int (p2 &&& (31 : Int32))), .val (.int v123), .val (.int v124), .val (.int (0 : Int32)), .unset] [(.int (1 : Int32))]))
        refine OwnEnd.go (fun _ k => XS.istore X130.here hx rfl (hb hby at_105) rfl  (l' := #[.val (.int p1), .val (.int p2), .val (.long q3), .second, .val (.long q4), .second, .val (.int p5), .val (.ref b101), .val (.int (1 : Int32)), .val (.int (p1 &&& (31 : Int32))), .val (.int (p2 &&& (31 : Int32))), .val (.int v123), .val (.int v124), .val (.int (1 : Int32)), .unset]) rfl k) ?_
        show OwnEnd p e below s _ _ _ (T130.setTop (mkF m 107 #[.val (.int p1), .val (.int p2), .val (.long q3), .second, .val (.long q4), .second, .val (.int p5), .val (.ref b101), .val (.int (1 : Int32)), .val (.int (p1 &&& (31 : Int32))), .val (.int (p2 &&& (31 : Int32))), .val (.int v123), .val (.int v124), .val (.int (1 : Int32)), .unset] []))
        refine OwnEnd.go (fun _ k => XS.iload X130.here hx rfl (hb hby at_107) rfl  k) ?_
        show OwnEnd p e below s _ _ _ (T130.setTop (mkF m 109 #[.val (.int p1), .val (.int p2), .val (.long q3), .second, .val (.long q4), .second, .val (.int p5), .val (.ref b101), .val (.int (1 : Int32)), .val (.int (p1 &&& (31 : Int32))), .val (.int (p2 &&& (31 : Int32))), .val (.int v123), .val (.int v124), .val (.int (1 : Int32)), .unset] [(.int (1 : Int32))]))
        refine OwnEnd.go (fun _ k => XS.ifNo X130.here hx rfl (hb hby at_109) rfl ((if0 _ _).trans (feq (by decide : ¬ (1 : Int32) = (0 : Int32))).1) k) ?_
        show OwnEnd p e below s _ _ _ (T130.setTop (mkF m 112 #[.val (.int p1), .val (.int p2), .val (.long q3), .second, .val (.long q4), .second, .val (.int p5), .val (.ref b101), .val (.int (1 : Int32)), .val (.int (p1 &&& (31 : Int32))), .val (.int (p2 &&& (31 : Int32))), .val (.int v123), .val (.int v124), .val (.int (1 : Int32)), .unset] []))
        refine OwnEnd.go (fun _ k => XS.aload X130.here hx rfl (hb hby at_112) rfl rfl k) ?_
        show OwnEnd p e below s _ _ _ (T130.setTop (mkF m 114 #[.val (.int p1), .val (.int p2), .val (.long q3), .second, .val (.long q4), .second, .val (.int p5), .val (.ref b101), .val (.int (1 : Int32)), .val (.int (p1 &&& (31 : Int32))), .val (.int (p2 &&& (31 : Int32))), .val (.int v123), .val (.int v124), .val (.int (1 : Int32)), .unset] [(.ref b101)]))
        obtain ⟨_, T134, L134, X134, hQ134, st134⟩ := ownCallV X130 hx hZ hown ww24 ww25 ww27 ww26 ww2 ww28 (by decide) (rm5z1 l Z a0 hw [] b101 y114 y115 y116 (16 : Int32) (p2 &&& (31 : Int32)) (0 : Int32) (own_upd (fun _ => (-1 : Int32)) (p2 &&& (31 : Int32)) (0 : Int32)) T130.heap n0 Y130  P131) (rfl : T130.heap = T130.heap) F132 0 (by decide) (by decide) (by decide) (by decide) (g := (mkF m 114 #[.val (.int p1), .val (.int p2), .val (.long q3), .second, .val (.long q4), .second, .val (.int p5), .val (.ref b101), .val (.int (1 : Int32)), .val (.int (p1 &&& (31 : Int32))), .val (.int (p2 &&& (31 : Int32))), .val (.int v123), .val (.int v124), .val (.int (1 : Int32)), .unset] [(.ref b101)])) rfl (by rw [hml]; rfl) (argsL := []) (rest := []) (lenOf pd0_1 rfl) rfl rfl (by show 2 * 0 + _ ≤ _; exact Nat.le_of_eq rfl) (hb hby at_114)
        obtain ⟨rfl, N134q, e134⟩ := hQ134
        have N134 := Fr.app N130 N134q
        refine OwnEnd.go (fun _ k => st134 _ k) ?_
        show OwnEnd p e below s _ _ _ (T134.setTop (mkF m 117 #[.val (.int p1), .val (.int p2), .val (.long q3), .second, .val (.long q4), .second, .val (.int p5), .val (.ref b101), .val (.int (1 : Int32)), .val (.int (p1 &&& (31 : Int32))), .val (.int (p2 &&& (31 : Int32))), .val (.int v123), .val (.int v124), .val (.int (1 : Int32)), .unset] [(.int (0 : Int32))]))
        refine OwnEnd.go (fun _ k => XS.iload X134.here hx rfl (hb hby at_117) rfl  k) ?_
        show OwnEnd p e below s _ _ _ (T134.setTop (mkF m 119 #[.val (.int p1), .val (.int p2), .val (.long q3), .second, .val (.long q4), .second, .val (.int p5), .val (.ref b101), .val (.int (1 : Int32)), .val (.int (p1 &&& (31 : Int32))), .val (.int (p2 &&& (31 : Int32))), .val (.int v123), .val (.int v124), .val (.int (1 : Int32)), .unset] [(.int (1 : Int32)), (.int (0 : Int32))]))
        refine OwnEnd.go (fun _ k => XS.ifYes X134.here hx rfl (pc0 := 119) (pc' := 126) rfl (hb hby at_119) rfl ((if0 _ _).trans (feq (by decide : ¬ (1 : Int32) = (0 : Int32))).2) (by decide) (by decide) k) ?_
        show OwnEnd p e below s _ _ _ (T134.setTop (mkF m 126 #[.val (.int p1), .val (.int p2), .val (.long q3), .second, .val (.long q4), .second, .val (.int p5), .val (.ref b101), .val (.int (1 : Int32)), .val (.int (p1 &&& (31 : Int32))), .val (.int (p2 &&& (31 : Int32))), .val (.int v123), .val (.int v124), .val (.int (1 : Int32)), .unset] [(.int (0 : Int32))]))
        refine OwnEnd.go (fun _ k => XS.iconst X134.here hx rfl (hb hby at_126) k) ?_
        show OwnEnd p e below s _ _ _ (T134.setTop (mkF m 127 #[.val (.int p1), .val (.int p2), .val (.long q3), .second, .val (.long q4), .second, .val (.int p5), .val (.ref b101), .val (.int (1 : Int32)), .val (.int (p1 &&& (31 : Int32))), .val (.int (p2 &&& (31 : Int32))), .val (.int v123), .val (.int v124), .val (.int (1 : Int32)), .unset] [(.int (0 : Int32)), (.int (0 : Int32))]))
        refine OwnEnd.go (fun _ k => XS.icmpNo X134.here hx rfl (hb hby at_127) rfl (teq (by decide : (0 : Int32) = (0 : Int32))).2 k) ?_
        show OwnEnd p e below s _ _ _ (T134.setTop (mkF m 130 #[.val (.int p1), .val (.int p2), .val (.long q3), .second, .val (.long q4), .second, .val (.int p5), .val (.ref b101), .val (.int (1 : Int32)), .val (.int (p1 &&& (31 : Int32))), .val (.int (p2 &&& (31 : Int32))), .val (.int v123), .val (.int v124), .val (.int (1 : Int32)), .unset] []))
        refine OwnEnd.go (fun _ k => XS.iconst X134.here hx rfl (hb hby at_130) k) ?_
        show OwnEnd p e below s _ _ _ (T134.setTop (mkF m 131 #[.val (.int p1), .val (.int p2), .val (.long q3), .second, .val (.long q4), .second, .val (.int p5), .val (.ref b101), .val (.int (1 : Int32)), .val (.int (p1 &&& (31 : Int32))), .val (.int (p2 &&& (31 : Int32))), .val (.int v123), .val (.int v124), .val (.int (1 : Int32)), .unset] [(.int (1 : Int32))]))
        refine OwnEnd.go (fun _ k => XS.goto X134.here hx rfl (pc0 := 131) (pc' := 135) rfl (hb hby at_131) (by decide) (by decide) k) ?_
        show OwnEnd p e below s _ _ _ (T134.setTop (mkF m 135 #[.val (.int p1), .val (.int p2), .val (.long q3), .second, .val (.long q4), .second, .val (.int p5), .val (.ref b101), .val (.int (1 : Int32)), .val (.int (p1 &&& (31 : Int32))), .val (.int (p2 &&& (31 : Int32))), .val (.int v123), .val (.int v124), .val (.int (1 : Int32)), .unset] [(.int (1 : Int32))]))
        refine OwnEnd.go (fun _ k => XS.istore X134.here hx rfl (hb hby at_135) rfl  (l' := #[.val (.int p1), .val (.int p2), .val (.long q3), .second, .val (.long q4), .second, .val (.int p5), .val (.ref b101), .val (.int (1 : Int32)), .val (.int (p1 &&& (31 : Int32))), .val (.int (p2 &&& (31 : Int32))), .val (.int v123), .val (.int v124), .val (.int (1 : Int32)), .unset]) rfl k) ?_
        show OwnEnd p e below s _ _ _ (T134.setTop (mkF m 137 #[.val (.int p1), .val (.int p2), .val (.long q3), .second, .val (.long q4), .second, .val (.int p5), .val (.ref b101), .val (.int (1 : Int32)), .val (.int (p1 &&& (31 : Int32))), .val (.int (p2 &&& (31 : Int32))), .val (.int v123), .val (.int v124), .val (.int (1 : Int32)), .unset] []))
        refine OwnEnd.go (fun _ k => XS.iload X134.here hx rfl (hb hby at_137) rfl  k) ?_
        show OwnEnd p e below s _ _ _ (T134.setTop (mkF m 139 #[.val (.int p1), .val (.int p2), .val (.long q3), .second, .val (.long q4), .second, .val (.int p5), .val (.ref b101), .val (.int (1 : Int32)), .val (.int (p1 &&& (31 : Int32))), .val (.int (p2 &&& (31 : Int32))), .val (.int v123), .val (.int v124), .val (.int (1 : Int32)), .unset] [(.int p5)]))
        refine OwnEnd.go (fun _ k => XS.iconst X134.here hx rfl (hb hby at_139) k) ?_
        show OwnEnd p e below s _ _ _ (T134.setTop (mkF m 140 #[.val (.int p1), .val (.int p2), .val (.long q3), .second, .val (.long q4), .second, .val (.int p5), .val (.ref b101), .val (.int (1 : Int32)), .val (.int (p1 &&& (31 : Int32))), .val (.int (p2 &&& (31 : Int32))), .val (.int v123), .val (.int v124), .val (.int (1 : Int32)), .unset] [(.int (2 : Int32)), (.int p5)]))
        refine OwnEnd.go (fun _ k => XS.ishr X134.here hx rfl (hb hby at_140) rfl k) ?_
        show OwnEnd p e below s _ _ _ (T134.setTop (mkF m 141 #[.val (.int p1), .val (.int p2), .val (.long q3), .second, .val (.long q4), .second, .val (.int p5), .val (.ref b101), .val (.int (1 : Int32)), .val (.int (p1 &&& (31 : Int32))), .val (.int (p2 &&& (31 : Int32))), .val (.int v123), .val (.int v124), .val (.int (1 : Int32)), .unset] [(.int (p5 >>> ((2 : Int32) &&& 31)))]))
        refine OwnEnd.go (fun _ k => XS.iconst X134.here hx rfl (hb hby at_141) k) ?_
        show OwnEnd p e below s _ _ _ (T134.setTop (mkF m 142 #[.val (.int p1), .val (.int p2), .val (.long q3), .second, .val (.long q4), .second, .val (.int p5), .val (.ref b101), .val (.int (1 : Int32)), .val (.int (p1 &&& (31 : Int32))), .val (.int (p2 &&& (31 : Int32))), .val (.int v123), .val (.int v124), .val (.int (1 : Int32)), .unset] [(.int (3 : Int32)), (.int (p5 >>> ((2 : Int32) &&& 31)))]))
        refine OwnEnd.go (fun _ k => XS.iand X134.here hx rfl (hb hby at_142) rfl k) ?_
        show OwnEnd p e below s _ _ _ (T134.setTop (mkF m 143 #[.val (.int p1), .val (.int p2), .val (.long q3), .second, .val (.long q4), .second, .val (.int p5), .val (.ref b101), .val (.int (1 : Int32)), .val (.int (p1 &&& (31 : Int32))), .val (.int (p2 &&& (31 : Int32))), .val (.int v123), .val (.int v124), .val (.int (1 : Int32)), .unset] [(.int ((p5 >>> ((2 : Int32) &&& 31)) &&& (3 : Int32)))]))
        refine OwnEnd.go (fun _ k => XS.iload X134.here hx rfl (hb hby at_143) rfl  k) ?_
        show OwnEnd p e below s _ _ _ (T134.setTop (mkF m 145 #[.val (.int p1), .val (.int p2), .val (.long q3), .second, .val (.long q4), .second, .val (.int p5), .val (.ref b101), .val (.int (1 : Int32)), .val (.int (p1 &&& (31 : Int32))), .val (.int (p2 &&& (31 : Int32))), .val (.int v123), .val (.int v124), .val (.int (1 : Int32)), .unset] [(.int (1 : Int32)), (.int ((p5 >>> ((2 : Int32) &&& 31)) &&& (3 : Int32)))]))
        obtain ⟨_, T135, L135, X135, hQ135, st135⟩ := ownCallS X134 hx hZ hown ww44 ww45 ww46 ww47 (by decide) (rm9 l Z a0 hw [] ((p5 >>> ((2 : Int32) &&& 31)) &&& (3 : Int32)) (1 : Int32) T130.heap n0 Y130  ) e134 0 (by decide) (by decide) (by decide) (by decide) (g := (mkF m 145 #[.val (.int p1), .val (.int p2), .val (.long q3), .second, .val (.long q4), .second, .val (.int p5), .val (.ref b101), .val (.int (1 : Int32)), .val (.int (p1 &&& (31 : Int32))), .val (.int (p2 &&& (31 : Int32))), .val (.int v123), .val (.int v124), .val (.int (1 : Int32)), .unset] [(.int (1 : Int32)), (.int ((p5 >>> ((2 : Int32) &&& 31)) &&& (3 : Int32)))])) rfl (by rw [hml]; rfl) (argsL := [(.int ((p5 >>> ((2 : Int32) &&& 31)) &&& (3 : Int32))), (.int (1 : Int32))]) (rest := []) (lenOf pd0_2 rfl) rfl rfl (by show 2 * 0 + _ ≤ _; exact Nat.le_of_eq rfl) (hb hby at_145)
        obtain ⟨rfl, N135q, e135⟩ := hQ135
        have N135 := Fr.app N134 N135q
        refine OwnEnd.go (fun _ k => st135 _ k) ?_
        show OwnEnd p e below s _ _ _ (T135.setTop (mkF m 148 #[.val (.int p1), .val (.int p2), .val (.long q3), .second, .val (.long q4), .second, .val (.int p5), .val (.ref b101), .val (.int (1 : Int32)), .val (.int (p1 &&& (31 : Int32))), .val (.int (p2 &&& (31 : Int32))), .val (.int v123), .val (.int v124), .val (.int (1 : Int32)), .unset] [(.int (own_min ((p5 >>> ((2 : Int32) &&& 31)) &&& (3 : Int32)) (1 : Int32)))]))
        refine OwnEnd.go (fun _ k => XS.istore X135.here hx rfl (hb hby at_148) rfl  (l' := #[.val (.int p1), .val (.int p2), .val (.long q3), .second, .val (.long q4), .second, .val (.int p5), .val (.ref b101), .val (.int (1 : Int32)), .val (.int (p1 &&& (31 : Int32))), .val (.int (p2 &&& (31 : Int32))), .val (.int v123), .val (.int v124), .val (.int (1 : Int32)), .val (.int (own_min ((p5 >>> ((2 : Int32) &&& 31)) &&& (3 : Int32)) (1 : Int32)))]) rfl k) ?_
        show OwnEnd p e below s _ _ _ (T135.setTop (mkF m 150 #[.val (.int p1), .val (.int p2), .val (.long q3), .second, .val (.long q4), .second, .val (.int p5), .val (.ref b101), .val (.int (1 : Int32)), .val (.int (p1 &&& (31 : Int32))), .val (.int (p2 &&& (31 : Int32))), .val (.int v123), .val (.int v124), .val (.int (1 : Int32)), .val (.int (own_min ((p5 >>> ((2 : Int32) &&& 31)) &&& (3 : Int32)) (1 : Int32)))] []))
        refine OwnEnd.go (fun _ k => XS.iload X135.here hx rfl (hb hby at_150) rfl  k) ?_
        show OwnEnd p e below s _ _ _ (T135.setTop (mkF m 152 #[.val (.int p1), .val (.int p2), .val (.long q3), .second, .val (.long q4), .second, .val (.int p5), .val (.ref b101), .val (.int (1 : Int32)), .val (.int (p1 &&& (31 : Int32))), .val (.int (p2 &&& (31 : Int32))), .val (.int v123), .val (.int v124), .val (.int (1 : Int32)), .val (.int (own_min ((p5 >>> ((2 : Int32) &&& 31)) &&& (3 : Int32)) (1 : Int32)))] [(.int (own_min ((p5 >>> ((2 : Int32) &&& 31)) &&& (3 : Int32)) (1 : Int32)))]))
        refine OwnEnd.go (fun _ k => XS.iconst X135.here hx rfl (hb hby at_152) k) ?_
        show OwnEnd p e below s _ _ _ (T135.setTop (mkF m 153 #[.val (.int p1), .val (.int p2), .val (.long q3), .second, .val (.long q4), .second, .val (.int p5), .val (.ref b101), .val (.int (1 : Int32)), .val (.int (p1 &&& (31 : Int32))), .val (.int (p2 &&& (31 : Int32))), .val (.int v123), .val (.int v124), .val (.int (1 : Int32)), .val (.int (own_min ((p5 >>> ((2 : Int32) &&& 31)) &&& (3 : Int32)) (1 : Int32)))] [(.int (1 : Int32)), (.int (own_min ((p5 >>> ((2 : Int32) &&& 31)) &&& (3 : Int32)) (1 : Int32)))]))
        by_cases hc136 : (own_min ((p5 >>> ((2 : Int32) &&& 31)) &&& (3 : Int32)) (1 : Int32)) < (1 : Int32)
        · refine OwnEnd.go (fun _ k => XS.icmpYes X135.here hx rfl (pc0 := 153) (pc' := 193) rfl (hb hby at_153) rfl (tlt hc136).1 (by decide) (by decide) k) ?_
          show OwnEnd p e below s _ _ _ (T135.setTop (mkF m 193 #[.val (.int p1), .val (.int p2), .val (.long q3), .second, .val (.long q4), .second, .val (.int p5), .val (.ref b101), .val (.int (1 : Int32)), .val (.int (p1 &&& (31 : Int32))), .val (.int (p2 &&& (31 : Int32))), .val (.int v123), .val (.int v124), .val (.int (1 : Int32)), .val (.int (own_min ((p5 >>> ((2 : Int32) &&& 31)) &&& (3 : Int32)) (1 : Int32)))] []))
          refine OwnEnd.go (fun _ k => XS.iload X135.here hx rfl (hb hby at_193) rfl  k) ?_
          show OwnEnd p e below s _ _ _ (T135.setTop (mkF m 195 #[.val (.int p1), .val (.int p2), .val (.long q3), .second, .val (.long q4), .second, .val (.int p5), .val (.ref b101), .val (.int (1 : Int32)), .val (.int (p1 &&& (31 : Int32))), .val (.int (p2 &&& (31 : Int32))), .val (.int v123), .val (.int v124), .val (.int (1 : Int32)), .val (.int (own_min ((p5 >>> ((2 : Int32) &&& 31)) &&& (3 : Int32)) (1 : Int32)))] [(.int (own_min ((p5 >>> ((2 : Int32) &&& 31)) &&& (3 : Int32)) (1 : Int32)))]))
          refine OwnEnd.go (fun _ k => XS.iconst X135.here hx rfl (hb hby at_195) k) ?_
          show OwnEnd p e below s _ _ _ (T135.setTop (mkF m 196 #[.val (.int p1), .val (.int p2), .val (.long q3), .second, .val (.long q4), .second, .val (.int p5), .val (.ref b101), .val (.int (1 : Int32)), .val (.int (p1 &&& (31 : Int32))), .val (.int (p2 &&& (31 : Int32))), .val (.int v123), .val (.int v124), .val (.int (1 : Int32)), .val (.int (own_min ((p5 >>> ((2 : Int32) &&& 31)) &&& (3 : Int32)) (1 : Int32)))] [(.int (2 : Int32)), (.int (own_min ((p5 >>> ((2 : Int32) &&& 31)) &&& (3 : Int32)) (1 : Int32)))]))
          refine OwnEnd.go (fun _ k => XS.icmpYes X135.here hx rfl (pc0 := 196) (pc' := 225) rfl (hb hby at_196) rfl (tlt (own_min1 _)).1 (by decide) (by decide) k) ?_
          show OwnEnd p e below s _ _ _ (T135.setTop (mkF m 225 #[.val (.int p1), .val (.int p2), .val (.long q3), .second, .val (.long q4), .second, .val (.int p5), .val (.ref b101), .val (.int (1 : Int32)), .val (.int (p1 &&& (31 : Int32))), .val (.int (p2 &&& (31 : Int32))), .val (.int v123), .val (.int v124), .val (.int (1 : Int32)), .val (.int (own_min ((p5 >>> ((2 : Int32) &&& 31)) &&& (3 : Int32)) (1 : Int32)))] []))
          refine OwnEnd.go (fun _ k => XS.iload X135.here hx rfl (hb hby at_225) rfl  k) ?_
          show OwnEnd p e below s _ _ _ (T135.setTop (mkF m 227 #[.val (.int p1), .val (.int p2), .val (.long q3), .second, .val (.long q4), .second, .val (.int p5), .val (.ref b101), .val (.int (1 : Int32)), .val (.int (p1 &&& (31 : Int32))), .val (.int (p2 &&& (31 : Int32))), .val (.int v123), .val (.int v124), .val (.int (1 : Int32)), .val (.int (own_min ((p5 >>> ((2 : Int32) &&& 31)) &&& (3 : Int32)) (1 : Int32)))] [(.int (1 : Int32))]))
          refine ownRetZ X135 hx hlk hret (hb hby at_227) (by decide) (by decide) (1 : Int32) (by decide) ?_
          show Q0 Z p1 p2 q3 q4 p5 h0 n0 _ T135.heap _
          rw [e135]
          exact ⟨rfl, N135⟩
        · refine OwnEnd.go (fun _ k => XS.icmpNo X135.here hx rfl (hb hby at_153) rfl (flt hc136).1 k) ?_
          show OwnEnd p e below s _ _ _ (T135.setTop (mkF m 156 #[.val (.int p1), .val (.int p2), .val (.long q3), .second, .val (.long q4), .second, .val (.int p5), .val (.ref b101), .val (.int (1 : Int32)), .val (.int (p1 &&& (31 : Int32))), .val (.int (p2 &&& (31 : Int32))), .val (.int v123), .val (.int v124), .val (.int (1 : Int32)), .val (.int (own_min ((p5 >>> ((2 : Int32) &&& 31)) &&& (3 : Int32)) (1 : Int32)))] []))
          refine OwnEnd.go (fun _ k => XS.aload X135.here hx rfl (hb hby at_156) rfl rfl k) ?_
          show OwnEnd p e below s _ _ _ (T135.setTop (mkF m 158 #[.val (.int p1), .val (.int p2), .val (.long q3), .second, .val (.long q4), .second, .val (.int p5), .val (.ref b101), .val (.int (1 : Int32)), .val (.int (p1 &&& (31 : Int32))), .val (.int (p2 &&& (31 : Int32))), .val (.int v123), .val (.int v124), .val (.int (1 : Int32)), .val (.int (own_min ((p5 >>> ((2 : Int32) &&& 31)) &&& (3 : Int32)) (1 : Int32)))] [(.ref b101)]))
          obtain ⟨_, T137, L137, X137, hQ137, st137⟩ := ownCallV X135 hx hZ hown ww68 ww69 ww71 ww70 ww2 ww72 (by decide) (rm14z1 l Z a0 hw [] b101 y114 y115 y116 (16 : Int32) (p2 &&& (31 : Int32)) (0 : Int32) (own_upd (fun _ => (-1 : Int32)) (p2 &&& (31 : Int32)) (0 : Int32)) T130.heap n0 Y130  P131 ⟨(own_rng _).1, hs129⟩) e135 F132 0 (by decide) (by decide) (by decide) (by decide) (g := (mkF m 158 #[.val (.int p1), .val (.int p2), .val (.long q3), .second, .val (.long q4), .second, .val (.int p5), .val (.ref b101), .val (.int (1 : Int32)), .val (.int (p1 &&& (31 : Int32))), .val (.int (p2 &&& (31 : Int32))), .val (.int v123), .val (.int v124), .val (.int (1 : Int32)), .val (.int (own_min ((p5 >>> ((2 : Int32) &&& 31)) &&& (3 : Int32)) (1 : Int32)))] [(.ref b101)])) rfl (by rw [hml]; rfl) (argsL := []) (rest := []) (lenOf pd0_4 rfl) rfl rfl (by show 2 * 0 + _ ≤ _; exact Nat.le_of_eq rfl) (hb hby at_158)
          obtain ⟨rfl, N137q, K137q, P138⟩ := hQ137
          have N137 := Fr.app N135 N137q
          have F139 := F132.keep K137q
          have K137 := K130.trans K137q (allS (Or.inr v101) (allS (Or.inr (Nat.le_trans K101.1 P110)) (allS (Or.inr (Nat.le_trans K101.1 P111)) (allS (Or.inr (Nat.le_trans K101.1 P112)) all0))))
          have Y137 := Nat.le_trans Y130 K137q.1
          refine OwnEnd.go (fun _ k => st137 _ k) ?_
          show OwnEnd p e below s _ _ _ (T137.setTop (mkF m 161 #[.val (.int p1), .val (.int p2), .val (.long q3), .second, .val (.long q4), .second, .val (.int p5), .val (.ref b101), .val (.int (1 : Int32)), .val (.int (p1 &&& (31 : Int32))), .val (.int (p2 &&& (31 : Int32))), .val (.int v123), .val (.int v124), .val (.int (1 : Int32)), .val (.int (own_min ((p5 >>> ((2 : Int32) &&& 31)) &&& (3 : Int32)) (1 : Int32)))] [(.int (p2 &&& (31 : Int32)))]))
          refine OwnEnd.go (fun _ k => XS.pop X137.here hx rfl (hb hby at_161) rfl rfl k) ?_
          show OwnEnd p e below s _ _ _ (T137.setTop (mkF m 162 #[.val (.int p1), .val (.int p2), .val (.long q3), .second, .val (.long q4), .second, .val (.int p5), .val (.ref b101), .val (.int (1 : Int32)), .val (.int (p1 &&& (31 : Int32))), .val (.int (p2 &&& (31 : Int32))), .val (.int v123), .val (.int v124), .val (.int (1 : Int32)), .val (.int (own_min ((p5 >>> ((2 : Int32) &&& 31)) &&& (3 : Int32)) (1 : Int32)))] []))
          refine OwnEnd.go (fun _ k => XS.iload X137.here hx rfl (hb hby at_162) rfl  k) ?_
          show OwnEnd p e below s _ _ _ (T137.setTop (mkF m 164 #[.val (.int p1), .val (.int p2), .val (.long q3), .second, .val (.long q4), .second, .val (.int p5), .val (.ref b101), .val (.int (1 : Int32)), .val (.int (p1 &&& (31 : Int32))), .val (.int (p2 &&& (31 : Int32))), .val (.int v123), .val (.int v124), .val (.int (1 : Int32)), .val (.int (own_min ((p5 >>> ((2 : Int32) &&& 31)) &&& (3 : Int32)) (1 : Int32)))] [(.int (1 : Int32))]))
          refine OwnEnd.go (fun _ k => XS.ifNo X137.here hx rfl (hb hby at_164) rfl ((if0 _ _).trans (feq (by decide : ¬ (1 : Int32) = (0 : Int32))).1) k) ?_
          show OwnEnd p e below s _ _ _ (T137.setTop (mkF m 167 #[.val (.int p1), .val (.int p2), .val (.long q3), .second, .val (.long q4), .second, .val (.int p5), .val (.ref b101), .val (.int (1 : Int32)), .val (.int (p1 &&& (31 : Int32))), .val (.int (p2 &&& (31 : Int32))), .val (.int v123), .val (.int v124), .val (.int (1 : Int32)), .val (.int (own_min ((p5 >>> ((2 : Int32) &&& 31)) &&& (3 : Int32)) (1 : Int32)))] []))
          refine OwnEnd.go (fun _ k => XS.aload X137.here hx rfl (hb hby at_167) rfl rfl k) ?_
          show OwnEnd p e below s _ _ _ (T137.setTop (mkF m 169 #[.val (.int p1), .val (.int p2), .val (.long q3), .second, .val (.long q4), .second, .val (.int p5), .val (.ref b101), .val (.int (1 : Int32)), .val (.int (p1 &&& (31 : Int32))), .val (.int (p2 &&& (31 : Int32))), .val (.int v123), .val (.int v124), .val (.int (1 : Int32)), .val (.int (own_min ((p5 >>> ((2 : Int32) &&& 31)) &&& (3 : Int32)) (1 : Int32)))] [(.ref b101)]))
          obtain ⟨_, T141, L141, X141, hQ141, st141⟩ := ownCallV X137 hx hZ hown ww24 ww25 ww27 ww26 ww2 ww28 (by decide) (rm5z0 l Z a0 hw [] b101 y114 y115 y116 (16 : Int32) (p2 &&& (31 : Int32)) (0 : Int32) (own_upd (own_upd (fun _ => (-1 : Int32)) (p2 &&& (31 : Int32)) (0 : Int32)) (p2 &&& (31 : Int32)) (-1 : Int32)) T137.heap n0 Y137  P138) (rfl : T137.heap = T137.heap) F139 0 (by decide) (by decide) (by decide) (by decide) (g := (mkF m 169 #[.val (.int p1), .val (.int p2), .val (.long q3), .second, .val (.long q4), .second, .val (.int p5), .val (.ref b101), .val (.int (1 : Int32)), .val (.int (p1 &&& (31 : Int32))), .val (.int (p2 &&& (31 : Int32))), .val (.int v123), .val (.int v124), .val (.int (1 : Int32)), .val (.int (own_min ((p5 >>> ((2 : Int32) &&& 31)) &&& (3 : Int32)) (1 : Int32)))] [(.ref b101)])) rfl (by rw [hml]; rfl) (argsL := []) (rest := []) (lenOf pd0_1 rfl) rfl rfl (by show 2 * 0 + _ ≤ _; exact Nat.le_of_eq rfl) (hb hby at_169)
          obtain ⟨rfl, N141q, e141⟩ := hQ141
          have N141 := Fr.app N137 N141q
          refine OwnEnd.go (fun _ k => st141 _ k) ?_
          show OwnEnd p e below s _ _ _ (T141.setTop (mkF m 172 #[.val (.int p1), .val (.int p2), .val (.long q3), .second, .val (.long q4), .second, .val (.int p5), .val (.ref b101), .val (.int (1 : Int32)), .val (.int (p1 &&& (31 : Int32))), .val (.int (p2 &&& (31 : Int32))), .val (.int v123), .val (.int v124), .val (.int (1 : Int32)), .val (.int (own_min ((p5 >>> ((2 : Int32) &&& 31)) &&& (3 : Int32)) (1 : Int32)))] [(.int (1 : Int32))]))
          refine OwnEnd.go (fun _ k => XS.iload X141.here hx rfl (hb hby at_172) rfl  k) ?_
          show OwnEnd p e below s _ _ _ (T141.setTop (mkF m 174 #[.val (.int p1), .val (.int p2), .val (.long q3), .second, .val (.long q4), .second, .val (.int p5), .val (.ref b101), .val (.int (1 : Int32)), .val (.int (p1 &&& (31 : Int32))), .val (.int (p2 &&& (31 : Int32))), .val (.int v123), .val (.int v124), .val (.int (1 : Int32)), .val (.int (own_min ((p5 >>> ((2 : Int32) &&& 31)) &&& (3 : Int32)) (1 : Int32)))] [(.int (1 : Int32)), (.int (1 : Int32))]))
          refine OwnEnd.go (fun _ k => XS.iconst X141.here hx rfl (hb hby at_174) k) ?_
          show OwnEnd p e below s _ _ _ (T141.setTop (mkF m 175 #[.val (.int p1), .val (.int p2), .val (.long q3), .second, .val (.long q4), .second, .val (.int p5), .val (.ref b101), .val (.int (1 : Int32)), .val (.int (p1 &&& (31 : Int32))), .val (.int (p2 &&& (31 : Int32))), .val (.int v123), .val (.int v124), .val (.int (1 : Int32)), .val (.int (own_min ((p5 >>> ((2 : Int32) &&& 31)) &&& (3 : Int32)) (1 : Int32)))] [(.int (1 : Int32)), (.int (1 : Int32)), (.int (1 : Int32))]))
          refine OwnEnd.go (fun _ k => XS.icmpNo X141.here hx rfl (hb hby at_175) rfl (teq (by decide : (1 : Int32) = (1 : Int32))).2 k) ?_
          show OwnEnd p e below s _ _ _ (T141.setTop (mkF m 178 #[.val (.int p1), .val (.int p2), .val (.long q3), .second, .val (.long q4), .second, .val (.int p5), .val (.ref b101), .val (.int (1 : Int32)), .val (.int (p1 &&& (31 : Int32))), .val (.int (p2 &&& (31 : Int32))), .val (.int v123), .val (.int v124), .val (.int (1 : Int32)), .val (.int (own_min ((p5 >>> ((2 : Int32) &&& 31)) &&& (3 : Int32)) (1 : Int32)))] [(.int (1 : Int32))]))
          refine OwnEnd.go (fun _ k => XS.iconst X141.here hx rfl (hb hby at_178) k) ?_
          show OwnEnd p e below s _ _ _ (T141.setTop (mkF m 179 #[.val (.int p1), .val (.int p2), .val (.long q3), .second, .val (.long q4), .second, .val (.int p5), .val (.ref b101), .val (.int (1 : Int32)), .val (.int (p1 &&& (31 : Int32))), .val (.int (p2 &&& (31 : Int32))), .val (.int v123), .val (.int v124), .val (.int (1 : Int32)), .val (.int (own_min ((p5 >>> ((2 : Int32) &&& 31)) &&& (3 : Int32)) (1 : Int32)))] [(.int (1 : Int32)), (.int (1 : Int32))]))
          refine OwnEnd.go (fun _ k => XS.goto X141.here hx rfl (pc0 := 179) (pc' := 183) rfl (hb hby at_179) (by decide) (by decide) k) ?_
          show OwnEnd p e below s _ _ _ (T141.setTop (mkF m 183 #[.val (.int p1), .val (.int p2), .val (.long q3), .second, .val (.long q4), .second, .val (.int p5), .val (.ref b101), .val (.int (1 : Int32)), .val (.int (p1 &&& (31 : Int32))), .val (.int (p2 &&& (31 : Int32))), .val (.int v123), .val (.int v124), .val (.int (1 : Int32)), .val (.int (own_min ((p5 >>> ((2 : Int32) &&& 31)) &&& (3 : Int32)) (1 : Int32)))] [(.int (1 : Int32)), (.int (1 : Int32))]))
          refine OwnEnd.go (fun _ k => XS.icmpNo X141.here hx rfl (hb hby at_183) rfl (teq (by decide : (1 : Int32) = (1 : Int32))).2 k) ?_
          show OwnEnd p e below s _ _ _ (T141.setTop (mkF m 186 #[.val (.int p1), .val (.int p2), .val (.long q3), .second, .val (.long q4), .second, .val (.int p5), .val (.ref b101), .val (.int (1 : Int32)), .val (.int (p1 &&& (31 : Int32))), .val (.int (p2 &&& (31 : Int32))), .val (.int v123), .val (.int v124), .val (.int (1 : Int32)), .val (.int (own_min ((p5 >>> ((2 : Int32) &&& 31)) &&& (3 : Int32)) (1 : Int32)))] []))
          refine OwnEnd.go (fun _ k => XS.iconst X141.here hx rfl (hb hby at_186) k) ?_
          show OwnEnd p e below s _ _ _ (T141.setTop (mkF m 187 #[.val (.int p1), .val (.int p2), .val (.long q3), .second, .val (.long q4), .second, .val (.int p5), .val (.ref b101), .val (.int (1 : Int32)), .val (.int (p1 &&& (31 : Int32))), .val (.int (p2 &&& (31 : Int32))), .val (.int v123), .val (.int v124), .val (.int (1 : Int32)), .val (.int (own_min ((p5 >>> ((2 : Int32) &&& 31)) &&& (3 : Int32)) (1 : Int32)))] [(.int (1 : Int32))]))
          refine OwnEnd.go (fun _ k => XS.goto X141.here hx rfl (pc0 := 187) (pc' := 191) rfl (hb hby at_187) (by decide) (by decide) k) ?_
          show OwnEnd p e below s _ _ _ (T141.setTop (mkF m 191 #[.val (.int p1), .val (.int p2), .val (.long q3), .second, .val (.long q4), .second, .val (.int p5), .val (.ref b101), .val (.int (1 : Int32)), .val (.int (p1 &&& (31 : Int32))), .val (.int (p2 &&& (31 : Int32))), .val (.int v123), .val (.int v124), .val (.int (1 : Int32)), .val (.int (own_min ((p5 >>> ((2 : Int32) &&& 31)) &&& (3 : Int32)) (1 : Int32)))] [(.int (1 : Int32))]))
          refine OwnEnd.go (fun _ k => XS.istore X141.here hx rfl (hb hby at_191) rfl  (l' := #[.val (.int p1), .val (.int p2), .val (.long q3), .second, .val (.long q4), .second, .val (.int p5), .val (.ref b101), .val (.int (1 : Int32)), .val (.int (p1 &&& (31 : Int32))), .val (.int (p2 &&& (31 : Int32))), .val (.int v123), .val (.int v124), .val (.int (1 : Int32)), .val (.int (own_min ((p5 >>> ((2 : Int32) &&& 31)) &&& (3 : Int32)) (1 : Int32)))]) rfl k) ?_
          show OwnEnd p e below s _ _ _ (T141.setTop (mkF m 193 #[.val (.int p1), .val (.int p2), .val (.long q3), .second, .val (.long q4), .second, .val (.int p5), .val (.ref b101), .val (.int (1 : Int32)), .val (.int (p1 &&& (31 : Int32))), .val (.int (p2 &&& (31 : Int32))), .val (.int v123), .val (.int v124), .val (.int (1 : Int32)), .val (.int (own_min ((p5 >>> ((2 : Int32) &&& 31)) &&& (3 : Int32)) (1 : Int32)))] []))
          refine OwnEnd.go (fun _ k => XS.iload X141.here hx rfl (hb hby at_193) rfl  k) ?_
          show OwnEnd p e below s _ _ _ (T141.setTop (mkF m 195 #[.val (.int p1), .val (.int p2), .val (.long q3), .second, .val (.long q4), .second, .val (.int p5), .val (.ref b101), .val (.int (1 : Int32)), .val (.int (p1 &&& (31 : Int32))), .val (.int (p2 &&& (31 : Int32))), .val (.int v123), .val (.int v124), .val (.int (1 : Int32)), .val (.int (own_min ((p5 >>> ((2 : Int32) &&& 31)) &&& (3 : Int32)) (1 : Int32)))] [(.int (own_min ((p5 >>> ((2 : Int32) &&& 31)) &&& (3 : Int32)) (1 : Int32)))]))
          refine OwnEnd.go (fun _ k => XS.iconst X141.here hx rfl (hb hby at_195) k) ?_
          show OwnEnd p e below s _ _ _ (T141.setTop (mkF m 196 #[.val (.int p1), .val (.int p2), .val (.long q3), .second, .val (.long q4), .second, .val (.int p5), .val (.ref b101), .val (.int (1 : Int32)), .val (.int (p1 &&& (31 : Int32))), .val (.int (p2 &&& (31 : Int32))), .val (.int v123), .val (.int v124), .val (.int (1 : Int32)), .val (.int (own_min ((p5 >>> ((2 : Int32) &&& 31)) &&& (3 : Int32)) (1 : Int32)))] [(.int (2 : Int32)), (.int (own_min ((p5 >>> ((2 : Int32) &&& 31)) &&& (3 : Int32)) (1 : Int32)))]))
          refine OwnEnd.go (fun _ k => XS.icmpYes X141.here hx rfl (pc0 := 196) (pc' := 225) rfl (hb hby at_196) rfl (tlt (own_min1 _)).1 (by decide) (by decide) k) ?_
          show OwnEnd p e below s _ _ _ (T141.setTop (mkF m 225 #[.val (.int p1), .val (.int p2), .val (.long q3), .second, .val (.long q4), .second, .val (.int p5), .val (.ref b101), .val (.int (1 : Int32)), .val (.int (p1 &&& (31 : Int32))), .val (.int (p2 &&& (31 : Int32))), .val (.int v123), .val (.int v124), .val (.int (1 : Int32)), .val (.int (own_min ((p5 >>> ((2 : Int32) &&& 31)) &&& (3 : Int32)) (1 : Int32)))] []))
          refine OwnEnd.go (fun _ k => XS.iload X141.here hx rfl (hb hby at_225) rfl  k) ?_
          show OwnEnd p e below s _ _ _ (T141.setTop (mkF m 227 #[.val (.int p1), .val (.int p2), .val (.long q3), .second, .val (.long q4), .second, .val (.int p5), .val (.ref b101), .val (.int (1 : Int32)), .val (.int (p1 &&& (31 : Int32))), .val (.int (p2 &&& (31 : Int32))), .val (.int v123), .val (.int v124), .val (.int (1 : Int32)), .val (.int (own_min ((p5 >>> ((2 : Int32) &&& 31)) &&& (3 : Int32)) (1 : Int32)))] [(.int (1 : Int32))]))
          refine ownRetZ X141 hx hlk hret (hb hby at_227) (by decide) (by decide) (1 : Int32) (by decide) ?_
          show Q0 Z p1 p2 q3 q4 p5 h0 n0 _ T141.heap _
          rw [e141]
          exact ⟨rfl, N141⟩
      · show OwnEnd p e below s _ _ _ (T124.setTop (mkF m 80 #[.val (.int p1), .val (.int p2), .val (.long q3), .second, .val (.long q4), .second, .val (.int p5), .val (.ref b101), .val (.int (1 : Int32)), .val (.int (p1 &&& (31 : Int32))), .val (.int (p2 &&& (31 : Int32))), .val (.int v123), .val (.int v124), .val (.int (0 : Int32)), .unset] []))
        refine OwnEnd.go (fun _ k => XS.aload X124.here hx rfl (hb hby at_80) rfl rfl k) ?_
        show OwnEnd p e below s _ _ _ (T124.setTop (mkF m 82 #[.val (.int p1), .val (.int p2), .val (.long q3), .second, .val (.long q4), .second, .val (.int p5), .val (.ref b101), .val (.int (1 : Int32)), .val (.int (p1 &&& (31 : Int32))), .val (.int (p2 &&& (31 : Int32))), .val (.int v123), .val (.int v124), .val (.int (0 : Int32)), .unset] [(.ref b101)]))
        refine OwnEnd.go (fun _ k => XS.iload X124.here hx rfl (hb hby at_82) rfl  k) ?_
        show OwnEnd p e below s _ _ _ (T124.setTop (mkF m 84 #[.val (.int p1), .val (.int p2), .val (.long q3), .second, .val (.long q4), .second, .val (.int p5), .val (.ref b101), .val (.int (1 : Int32)), .val (.int (p1 &&& (31 : Int32))), .val (.int (p2 &&& (31 : Int32))), .val (.int v123), .val (.int v124), .val (.int (0 : Int32)), .unset] [(.int (p2 &&& (31 : Int32))), (.ref b101)]))
        refine OwnEnd.go (fun _ k => XS.lload X124.here hx rfl (hb hby at_84) rfl  k) ?_
        show OwnEnd p e below s _ _ _ (T124.setTop (mkF m 86 #[.val (.int p1), .val (.int p2), .val (.long q3), .second, .val (.long q4), .second, .val (.int p5), .val (.ref b101), .val (.int (1 : Int32)), .val (.int (p1 &&& (31 : Int32))), .val (.int (p2 &&& (31 : Int32))), .val (.int v123), .val (.int v124), .val (.int (0 : Int32)), .unset] [(.long q4), (.int (p2 &&& (31 : Int32))), (.ref b101)]))
        obtain ⟨_, T142, L142, X142, hQ142, st142⟩ := ownCallV X124 hx hZ hown ww31 ww32 ww34 ww33 ww2 ww35 (by decide) (rm6s0c16g l Z a0 hw [] b101 (p2 &&& (31 : Int32)) q4 y114 y115 y116 (0 : Int32) (0 : Int32) (fun _ => (-1 : Int32)) T106.heap n0 Y106  P113 (own_rng _) hs129) e124 F117 0 (by decide) (by decide) (by decide) (by decide) (g := (mkF m 86 #[.val (.int p1), .val (.int p2), .val (.long q3), .second, .val (.long q4), .second, .val (.int p5), .val (.ref b101), .val (.int (1 : Int32)), .val (.int (p1 &&& (31 : Int32))), .val (.int (p2 &&& (31 : Int32))), .val (.int v123), .val (.int v124), .val (.int (0 : Int32)), .unset] [(.long q4), (.int (p2 &&& (31 : Int32))), (.ref b101)])) rfl (by rw [hml]; rfl) (argsL := [(.int (p2 &&& (31 : Int32))), (.long q4)]) (rest := []) (lenOf pd0_3 rfl) rfl rfl (by show 2 * 0 + _ ≤ _; exact Nat.le_of_eq rfl) (hb hby at_86)
        obtain ⟨y148, y149, hQ142⟩ := hQ142
        obtain ⟨rfl, N142q, K142q, P143, P144, P145, P146, P147⟩ := hQ142
        have N142 := Fr.app N122 N142q
        have F150 := F117.keep K142q
        have K142 := K106.trans K142q (allS (Or.inr v101) (allS (Or.inr (Nat.le_trans K101.1 P110)) (allS (Or.inr (Nat.le_trans K101.1 P111)) (allS (Or.inr (Nat.le_trans K101.1 P112)) all0))))
        have Y142 := Nat.le_trans Y106 K142q.1
        refine OwnEnd.go (fun _ k => st142 _ k) ?_
        show OwnEnd p e below s _ _ _ (T142.setTop (mkF m 89 #[.val (.int p1), .val (.int p2), .val (.long q3), .second, .val (.long q4), .second, .val (.int p5), .val (.ref b101), .val (.int (1 : Int32)), .val (.int (p1 &&& (31 : Int32))), .val (.int (p2 &&& (31 : Int32))), .val (.int v123), .val (.int v124), .val (.int (0 : Int32)), .unset] []))
        refine OwnEnd.go (fun _ k => XS.iload X142.here hx rfl (hb hby at_89) rfl  k) ?_
        show OwnEnd p e below s _ _ _ (T142.setTop (mkF m 91 #[.val (.int p1), .val (.int p2), .val (.long q3), .second, .val (.long q4), .second, .val (.int p5), .val (.ref b101), .val (.int (1 : Int32)), .val (.int (p1 &&& (31 : Int32))), .val (.int (p2 &&& (31 : Int32))), .val (.int v123), .val (.int v124), .val (.int (0 : Int32)), .unset] [(.int v123)]))
        refine OwnEnd.go (fun _ k => XS.ifYes X142.here hx rfl (pc0 := 91) (pc' := 101) rfl (hb hby at_91) rfl ((if0 _ _).trans (teq hc125).1) (by decide) (by decide) k) ?_
        show OwnEnd p e below s _ _ _ (T142.setTop (mkF m 101 #[.val (.int p1), .val (.int p2), .val (.long q3), .second, .val (.long q4), .second, .val (.int p5), .val (.ref b101), .val (.int (1 : Int32)), .val (.int (p1 &&& (31 : Int32))), .val (.int (p2 &&& (31 : Int32))), .val (.int v123), .val (.int v124), .val (.int (0 : Int32)), .unset] []))
        refine OwnEnd.go (fun _ k => XS.iload X142.here hx rfl (hb hby at_101) rfl  k) ?_
        show OwnEnd p e below s _ _ _ (T142.setTop (mkF m 103 #[.val (.int p1), .val (.int p2), .val (.long q3), .second, .val (.long q4), .second, .val (.int p5), .val (.ref b101), .val (.int (1 : Int32)), .val (.int (p1 &&& (31 : Int32))), .val (.int (p2 &&& (31 : Int32))), .val (.int v123), .val (.int v124), .val (.int (0 : Int32)), .unset] [(.int (0 : Int32))]))
        refine OwnEnd.go (fun _ k => XS.iconst X142.here hx rfl (hb hby at_103) k) ?_
        show OwnEnd p e below s _ _ _ (T142.setTop (mkF m 104 #[.val (.int p1), .val (.int p2), .val (.long q3), .second, .val (.long q4), .second, .val (.int p5), .val (.ref b101), .val (.int (1 : Int32)), .val (.int (p1 &&& (31 : Int32))), .val (.int (p2 &&& (31 : Int32))), .val (.int v123), .val (.int v124), .val (.int (0 : Int32)), .unset] [(.int (1 : Int32)), (.int (0 : Int32))]))
        refine OwnEnd.go (fun _ k => XS.iadd X142.here hx rfl (hb hby at_104) rfl k) ?_
        show OwnEnd p e below s _ _ _ (T142.setTop (mkF m 105 #[.val (.int p1), .val (.int p2), .val (.long q3), .second, .val (.long q4), .second, .val (.int p5), .val (.ref b101), .val (.int (1 : Int32)), .val (.int (p1 &&& (31 : Int32))), .val (.int (p2 &&& (31 : Int32))), .val (.int v123), .val (.int v124), .val (.int (0 : Int32)), .unset] [(.int (1 : Int32))]))
        refine OwnEnd.go (fun _ k => XS.istore X142.here hx rfl (hb hby at_105) rfl  (l' := #[.val (.int p1), .val (.int p2), .val (.long q3), .second, .val (.long q4), .second, .val (.int p5), .val (.ref b101), .val (.int (1 : Int32)), .val (.int (p1 &&& (31 : Int32))), .val (.int (p2 &&& (31 : Int32))), .val (.int v123), .val (.int v124), .val (.int (1 : Int32)), .unset]) rfl k) ?_
        show OwnEnd p e below s _ _ _ (T142.setTop (mkF m 107 #[.val (.int p1), .val (.int p2), .val (.long q3), .second, .val (.long q4), .second, .val (.int p5), .val (.ref b101), .val (.int (1 : Int32)), .val (.int (p1 &&& (31 : Int32))), .val (.int (p2 &&& (31 : Int32))), .val (.int v123), .val (.int v124), .val (.int (1 : Int32)), .unset] []))
        refine OwnEnd.go (fun _ k => XS.iload X142.here hx rfl (hb hby at_107) rfl  k) ?_
        show OwnEnd p e below s _ _ _ (T142.setTop (mkF m 109 #[.val (.int p1), .val (.int p2), .val (.long q3), .second, .val (.long q4), .second, .val (.int p5), .val (.ref b101), .val (.int (1 : Int32)), .val (.int (p1 &&& (31 : Int32))), .val (.int (p2 &&& (31 : Int32))), .val (.int v123), .val (.int v124), .val (.int (1 : Int32)), .unset] [(.int (1 : Int32))]))
        refine OwnEnd.go (fun _ k => XS.ifNo X142.here hx rfl (hb hby at_109) rfl ((if0 _ _).trans (feq (by decide : ¬ (1 : Int32) = (0 : Int32))).1) k) ?_
        show OwnEnd p e below s _ _ _ (T142.setTop (mkF m 112 #[.val (.int p1), .val (.int p2), .val (.long q3), .second, .val (.long q4), .second, .val (.int p5), .val (.ref b101), .val (.int (1 : Int32)), .val (.int (p1 &&& (31 : Int32))), .val (.int (p2 &&& (31 : Int32))), .val (.int v123), .val (.int v124), .val (.int (1 : Int32)), .unset] []))
        refine OwnEnd.go (fun _ k => XS.aload X142.here hx rfl (hb hby at_112) rfl rfl k) ?_
        show OwnEnd p e below s _ _ _ (T142.setTop (mkF m 114 #[.val (.int p1), .val (.int p2), .val (.long q3), .second, .val (.long q4), .second, .val (.int p5), .val (.ref b101), .val (.int (1 : Int32)), .val (.int (p1 &&& (31 : Int32))), .val (.int (p2 &&& (31 : Int32))), .val (.int v123), .val (.int v124), .val (.int (1 : Int32)), .unset] [(.ref b101)]))
        obtain ⟨_, T152, L152, X152, hQ152, st152⟩ := ownCallV X142 hx hZ hown ww24 ww25 ww27 ww26 ww2 ww28 (by decide) (rm5z1 l Z a0 hw [] b101 y114 y148 y149 (32 : Int32) (p2 &&& (31 : Int32)) (0 : Int32) (own_upd (own_cp 16 (fun _ => (-1 : Int32)) (fun _ => (-1 : Int32))) (p2 &&& (31 : Int32)) (0 : Int32)) T142.heap n0 Y142  P147) (rfl : T142.heap = T142.heap) F150 0 (by decide) (by decide) (by decide) (by decide) (g := (mkF m 114 #[.val (.int p1), .val (.int p2), .val (.long q3), .second, .val (.long q4), .second, .val (.int p5), .val (.ref b101), .val (.int (1 : Int32)), .val (.int (p1 &&& (31 : Int32))), .val (.int (p2 &&& (31 : Int32))), .val (.int v123), .val (.int v124), .val (.int (1 : Int32)), .unset] [(.ref b101)])) rfl (by rw [hml]; rfl) (argsL := []) (rest := []) (lenOf pd0_1 rfl) rfl rfl (by show 2 * 0 + _ ≤ _; exact Nat.le_of_eq rfl) (hb hby at_114)
        obtain ⟨rfl, N152q, e152⟩ := hQ152
        have N152 := Fr.app N142 N152q
        refine OwnEnd.go (fun _ k => st152 _ k) ?_
        show OwnEnd p e below s _ _ _ (T152.setTop (mkF m 117 #[.val (.int p1), .val (.int p2), .val (.long q3), .second, .val (.long q4), .second, .val (.int p5), .val (.ref b101), .val (.int (1 : Int32)), .val (.int (p1 &&& (31 : Int32))), .val (.int (p2 &&& (31 : Int32))), .val (.int v123), .val (.int v124), .val (.int (1 : Int32)), .unset] [(.int (0 : Int32))]))
        refine OwnEnd.go (fun _ k => XS.iload X152.here hx rfl (hb hby at_117) rfl  k) ?_
        show OwnEnd p e below s _ _ _ (T152.setTop (mkF m 119 #[.val (.int p1), .val (.int p2), .val (.long q3), .second, .val (.long q4), .second, .val (.int p5), .val (.ref b101), .val (.int (1 : Int32)), .val (.int (p1 &&& (31 : Int32))), .val (.int (p2 &&& (31 : Int32))), .val (.int v123), .val (.int v124), .val (.int (1 : Int32)), .unset] [(.int (1 : Int32)), (.int (0 : Int32))]))
        refine OwnEnd.go (fun _ k => XS.ifYes X152.here hx rfl (pc0 := 119) (pc' := 126) rfl (hb hby at_119) rfl ((if0 _ _).trans (feq (by decide : ¬ (1 : Int32) = (0 : Int32))).2) (by decide) (by decide) k) ?_
        show OwnEnd p e below s _ _ _ (T152.setTop (mkF m 126 #[.val (.int p1), .val (.int p2), .val (.long q3), .second, .val (.long q4), .second, .val (.int p5), .val (.ref b101), .val (.int (1 : Int32)), .val (.int (p1 &&& (31 : Int32))), .val (.int (p2 &&& (31 : Int32))), .val (.int v123), .val (.int v124), .val (.int (1 : Int32)), .unset] [(.int (0 : Int32))]))
        refine OwnEnd.go (fun _ k => XS.iconst X152.here hx rfl (hb hby at_126) k) ?_
        show OwnEnd p e below s _ _ _ (T152.setTop (mkF m 127 #[.val (.int p1), .val (.int p2), .val (.long q3), .second, .val (.long q4), .second, .val (.int p5), .val (.ref b101), .val (.int (1 : Int32)), .val (.int (p1 &&& (31 : Int32))), .val (.int (p2 &&& (31 : Int32))), .val (.int v123), .val (.int v124), .val (.int (1 : Int32)), .unset] [(.int (0 : Int32)), (.int (0 : Int32))]))
        refine OwnEnd.go (fun _ k => XS.icmpNo X152.here hx rfl (hb hby at_127) rfl (teq (by decide : (0 : Int32) = (0 : Int32))).2 k) ?_
        show OwnEnd p e below s _ _ _ (T152.setTop (mkF m 130 #[.val (.int p1), .val (.int p2), .val (.long q3), .second, .val (.long q4), .second, .val (.int p5), .val (.ref b101), .val (.int (1 : Int32)), .val (.int (p1 &&& (31 : Int32))), .val (.int (p2 &&& (31 : Int32))), .val (.int v123), .val (.int v124), .val (.int (1 : Int32)), .unset] []))
        refine OwnEnd.go (fun _ k => XS.iconst X152.here hx rfl (hb hby at_130) k) ?_
        show OwnEnd p e below s _ _ _ (T152.setTop (mkF m 131 #[.val (.int p1), .val (.int p2), .val (.long q3), .second, .val (.long q4), .second, .val (.int p5), .val (.ref b101), .val (.int (1 : Int32)), .val (.int (p1 &&& (31 : Int32))), .val (.int (p2 &&& (31 : Int32))), .val (.int v123), .val (.int v124), .val (.int (1 : Int32)), .unset] [(.int (1 : Int32))]))
        refine OwnEnd.go (fun _ k => XS.goto X152.here hx rfl (pc0 := 131) (pc' := 135) rfl (hb hby at_131) (by decide) (by decide) k) ?_
        show OwnEnd p e below s _ _ _ (T152.setTop (mkF m 135 #[.val (.int p1), .val (.int p2), .val (.long q3), .second, .val (.long q4), .second, .val (.int p5), .val (.ref b101), .val (.int (1 : Int32)), .val (.int (p1 &&& (31 : Int32))), .val (.int (p2 &&& (31 : Int32))), .val (.int v123), .val (.int v124), .val (.int (1 : Int32)), .unset] [(.int (1 : Int32))]))
        refine OwnEnd.go (fun _ k => XS.istore X152.here hx rfl (hb hby at_135) rfl  (l' := #[.val (.int p1), .val (.int p2), .val (.long q3), .second, .val (.long q4), .second, .val (.int p5), .val (.ref b101), .val (.int (1 : Int32)), .val (.int (p1 &&& (31 : Int32))), .val (.int (p2 &&& (31 : Int32))), .val (.int v123), .val (.int v124), .val (.int (1 : Int32)), .unset]) rfl k) ?_
        show OwnEnd p e below s _ _ _ (T152.setTop (mkF m 137 #[.val (.int p1), .val (.int p2), .val (.long q3), .second, .val (.long q4), .second, .val (.int p5), .val (.ref b101), .val (.int (1 : Int32)), .val (.int (p1 &&& (31 : Int32))), .val (.int (p2 &&& (31 : Int32))), .val (.int v123), .val (.int v124), .val (.int (1 : Int32)), .unset] []))
        refine OwnEnd.go (fun _ k => XS.iload X152.here hx rfl (hb hby at_137) rfl  k) ?_
        show OwnEnd p e below s _ _ _ (T152.setTop (mkF m 139 #[.val (.int p1), .val (.int p2), .val (.long q3), .second, .val (.long q4), .second, .val (.int p5), .val (.ref b101), .val (.int (1 : Int32)), .val (.int (p1 &&& (31 : Int32))), .val (.int (p2 &&& (31 : Int32))), .val (.int v123), .val (.int v124), .val (.int (1 : Int32)), .unset] [(.int p5)]))
        refine OwnEnd.go (fun _ k => XS.iconst X152.here hx rfl (hb hby at_139) k) ?_
        show OwnEnd p e below s _ _ _ (T152.setTop (mkF m 140 #[.val (.int p1), .val (.int p2), .val (.long q3), .second, .val (.long q4), .second, .val (.int p5), .val (.ref b101), .val (.int (1 : Int32)), .val (.int (p1 &&& (31 : Int32))), .val (.int (p2 &&& (31 : Int32))), .val (.int v123), .val (.int v124), .val (.int (1 : Int32)), .unset] [(.int (2 : Int32)), (.int p5)]))
        refine OwnEnd.go (fun _ k => XS.ishr X152.here hx rfl (hb hby at_140) rfl k) ?_
        show OwnEnd p e below s _ _ _ (T152.setTop (mkF m 141 #[.val (.int p1), .val (.int p2), .val (.long q3), .second, .val (.long q4), .second, .val (.int p5), .val (.ref b101), .val (.int (1 : Int32)), .val (.int (p1 &&& (31 : Int32))), .val (.int (p2 &&& (31 : Int32))), .val (.int v123), .val (.int v124), .val (.int (1 : Int32)), .unset] [(.int (p5 >>> ((2 : Int32) &&& 31)))]))
        refine OwnEnd.go (fun _ k => XS.iconst X152.here hx rfl (hb hby at_141) k) ?_
        show OwnEnd p e below s _ _ _ (T152.setTop (mkF m 142 #[.val (.int p1), .val (.int p2), .val (.long q3), .second, .val (.long q4), .second, .val (.int p5), .val (.ref b101), .val (.int (1 : Int32)), .val (.int (p1 &&& (31 : Int32))), .val (.int (p2 &&& (31 : Int32))), .val (.int v123), .val (.int v124), .val (.int (1 : Int32)), .unset] [(.int (3 : Int32)), (.int (p5 >>> ((2 : Int32) &&& 31)))]))
        refine OwnEnd.go (fun _ k => XS.iand X152.here hx rfl (hb hby at_142) rfl k) ?_
        show OwnEnd p e below s _ _ _ (T152.setTop (mkF m 143 #[.val (.int p1), .val (.int p2), .val (.long q3), .second, .val (.long q4), .second, .val (.int p5), .val (.ref b101), .val (.int (1 : Int32)), .val (.int (p1 &&& (31 : Int32))), .val (.int (p2 &&& (31 : Int32))), .val (.int v123), .val (.int v124), .val (.int (1 : Int32)), .unset] [(.int ((p5 >>> ((2 : Int32) &&& 31)) &&& (3 : Int32)))]))
        refine OwnEnd.go (fun _ k => XS.iload X152.here hx rfl (hb hby at_143) rfl  k) ?_
        show OwnEnd p e below s _ _ _ (T152.setTop (mkF m 145 #[.val (.int p1), .val (.int p2), .val (.long q3), .second, .val (.long q4), .second, .val (.int p5), .val (.ref b101), .val (.int (1 : Int32)), .val (.int (p1 &&& (31 : Int32))), .val (.int (p2 &&& (31 : Int32))), .val (.int v123), .val (.int v124), .val (.int (1 : Int32)), .unset] [(.int (1 : Int32)), (.int ((p5 >>> ((2 : Int32) &&& 31)) &&& (3 : Int32)))]))
        obtain ⟨_, T153, L153, X153, hQ153, st153⟩ := ownCallS X152 hx hZ hown ww44 ww45 ww46 ww47 (by decide) (rm9 l Z a0 hw [] ((p5 >>> ((2 : Int32) &&& 31)) &&& (3 : Int32)) (1 : Int32) T142.heap n0 Y142  ) e152 0 (by decide) (by decide) (by decide) (by decide) (g := (mkF m 145 #[.val (.int p1), .val (.int p2), .val (.long q3), .second, .val (.long q4), .second, .val (.int p5), .val (.ref b101), .val (.int (1 : Int32)), .val (.int (p1 &&& (31 : Int32))), .val (.int (p2 &&& (31 : Int32))), .val (.int v123), .val (.int v124), .val (.int (1 : Int32)), .unset] [(.int (1 : Int32)), (.int ((p5 >>> ((2 : Int32) &&& 31)) &&& (3 : Int32)))])) rfl (by rw [hml]; rfl) (argsL := [(.int ((p5 >>> ((2 : Int32) &&& 31)) &&& (3 : Int32))), (.int (1 : Int32))]) (rest := []) (lenOf pd0_2 rfl) rfl rfl (by show 2 * 0 + _ ≤ _; exact Nat.le_of_eq rfl) (hb hby at_145)
        obtain ⟨rfl, N153q, e153⟩ := hQ153
        have N153 := Fr.app N152 N153q
        refine OwnEnd.go (fun _ k => st153 _ k) ?_
        show OwnEnd p e below s _ _ _ (T153.setTop (mkF m 148 #[.val (.int p1), .val (.int p2), .val (.long q3), .second, .val (.long q4), .second, .val (.int p5), .val (.ref b101), .val (.int (1 : Int32)), .val (.int (p1 &&& (31 : Int32))), .val (.int (p2 &&& (31 : Int32))), .val (.int v123), .val (.int v124), .val (.int (1 : Int32)), .unset] [(.int (own_min ((p5 >>> ((2 : Int32) &&& 31)) &&& (3 : Int32)) (1 : Int32)))]))
        refine OwnEnd.go (fun _ k => XS.istore X153.here hx rfl (hb hby at_148) rfl  (l' := #[.val (.int p1), .val (.int p2), .val (.long q3), .second, .val (.long q4), .second, .val (.int p5), .val (.ref b101), .val (.int (1 : Int32)), .val (.int (p1 &&& (31 : Int32))), .val (.int (p2 &&& (31 : Int32))), .val (.int v123), .val (.int v124), .val (.int (1 : Int32)), .val (.int (own_min ((p5 >>> ((2 : Int32) &&& 31)) &&& (3 : Int32)) (1 : Int32)))]) rfl k) ?_
        show OwnEnd p e below s _ _ _ (T153.setTop (mkF m 150 #[.val (.int p1), .val (.int p2), .val (.long q3), .second, .val (.long q4), .second, .val (.int p5), .val (.ref b101), .val (.int (1 : Int32)), .val (.int (p1 &&& (31 : Int32))), .val (.int (p2 &&& (31 : Int32))), .val (.int v123), .val (.int v124), .val (.int (1 : Int32)), .val (.int (own_min ((p5 >>> ((2 : Int32) &&& 31)) &&& (3 : Int32)) (1 : Int32)))] []))
        refine OwnEnd.go (fun _ k => XS.iload X153.here hx rfl (hb hby at_150) rfl  k) ?_
        show OwnEnd p e below s _ _ _ (T153.setTop (mkF m 152 #[.val (.int p1), .val (.int p2), .val (.long q3), .second, .val (.long q4), .second, .val (.int p5), .val (.ref b101), .val (.int (1 : Int32)), .val (.int (p1 &&& (31 : Int32))), .val (.int (p2 &&& (31 : Int32))), .val (.int v123), .val (.int v124), .val (.int (1 : Int32)), .val (.int (own_min ((p5 >>> ((2 : Int32) &&& 31)) &&& (3 : Int32)) (1 : Int32)))] [(.int (own_min ((p5 >>> ((2 : Int32) &&& 31)) &&& (3 : Int32)) (1 : Int32)))]))
        refine OwnEnd.go (fun _ k => XS.iconst X153.here hx rfl (hb hby at_152) k) ?_
        show OwnEnd p e below s _ _ _ (T153.setTop (mkF m 153 #[.val (.int p1), .val (.int p2), .val (.long q3), .second, .val (.long q4), .second, .val (.int p5), .val (.ref b101), .val (.int (1 : Int32)), .val (.int (p1 &&& (31 : Int32))), .val (.int (p2 &&& (31 : Int32))), .val (.int v123), .val (.int v124), .val (.int (1 : Int32)), .val (.int (own_min ((p5 >>> ((2 : Int32) &&& 31)) &&& (3 : Int32)) (1 : Int32)))] [(.int (1 : Int32)), (.int (own_min ((p5 >>> ((2 : Int32) &&& 31)) &&& (3 : Int32)) (1 : Int32)))]))
        by_cases hc154 : (own_min ((p5 >>> ((2 : Int32) &&& 31)) &&& (3 : Int32)) (1 : Int32)) < (1 : Int32)
        · refine OwnEnd.go (fun _ k => XS.icmpYes X153.here hx rfl (pc0 := 153) (pc' := 193) rfl (hb hby at_153) rfl (tlt hc154).1 (by decide) (by decide) k) ?_
          show OwnEnd p e below s _ _ _ (T153.setTop (mkF m 193 #[.val (.int p1), .val (.int p2), .val (.long q3), .second, .val (.long q4), .second, .val (.int p5), .val (.ref b101), .val (.int (1 : Int32)), .val (.int (p1 &&& (31 : Int32))), .val (.int (p2 &&& (31 : Int32))), .val (.int v123), .val (.int v124), .val (.int (1 : Int32)), .val (.int (own_min ((p5 >>> ((2 : Int32) &&& 31)) &&& (3 : Int32)) (1 : Int32)))] []))
          refine OwnEnd.go (fun _ k => XS.iload X153.here hx rfl (hb hby at_193) rfl  k) ?_
          show OwnEnd p e below s _ _ _ (T153.setTop (mkF m 195 #[.val (.int p1), .val (.int p2), .val (.long q3), .second, .val (.long q4), .second, .val (.int p5), .val (.ref b101), .val (.int (1 : Int32)), .val (.int (p1 &&& (31 : Int32))), .val (.int (p2 &&& (31 : Int32))), .val (.int v123), .val (.int v124), .val (.int (1 : Int32)), .val (.int (own_min ((p5 >>> ((2 : Int32) &&& 31)) &&& (3 : Int32)) (1 : Int32)))] [(.int (own_min ((p5 >>> ((2 : Int32) &&& 31)) &&& (3 : Int32)) (1 : Int32)))]))
          refine OwnEnd.go (fun _ k => XS.iconst X153.here hx rfl (hb hby at_195) k) ?_
          show OwnEnd p e below s _ _ _ (T153.setTop (mkF m 196 #[.val (.int p1), .val (.int p2), .val (.long q3), .second, .val (.long q4), .second, .val (.int p5), .val (.ref b101), .val (.int (1 : Int32)), .val (.int (p1 &&& (31 : Int32))), .val (.int (p2 &&& (31 : Int32))), .val (.int v123), .val (.int v124), .val (.int (1 : Int32)), .val (.int (own_min ((p5 >>> ((2 : Int32) &&& 31)) &&& (3 : Int32)) (1 : Int32)))] [(.int (2 : Int32)), (.int (own_min ((p5 >>> ((2 : Int32) &&& 31)) &&& (3 : Int32)) (1 : Int32)))]))
          refine OwnEnd.go (fun _ k => XS.icmpYes X153.here hx rfl (pc0 := 196) (pc' := 225) rfl (hb hby at_196) rfl (tlt (own_min1 _)).1 (by decide) (by decide) k) ?_
          show OwnEnd p e below s _ _ _ (T153.setTop (mkF m 225 #[.val (.int p1), .val (.int p2), .val (.long q3), .second, .val (.long q4), .second, .val (.int p5), .val (.ref b101), .val (.int (1 : Int32)), .val (.int (p1 &&& (31 : Int32))), .val (.int (p2 &&& (31 : Int32))), .val (.int v123), .val (.int v124), .val (.int (1 : Int32)), .val (.int (own_min ((p5 >>> ((2 : Int32) &&& 31)) &&& (3 : Int32)) (1 : Int32)))] []))
          refine OwnEnd.go (fun _ k => XS.iload X153.here hx rfl (hb hby at_225) rfl  k) ?_
          show OwnEnd p e below s _ _ _ (T153.setTop (mkF m 227 #[.val (.int p1), .val (.int p2), .val (.long q3), .second, .val (.long q4), .second, .val (.int p5), .val (.ref b101), .val (.int (1 : Int32)), .val (.int (p1 &&& (31 : Int32))), .val (.int (p2 &&& (31 : Int32))), .val (.int v123), .val (.int v124), .val (.int (1 : Int32)), .val (.int (own_min ((p5 >>> ((2 : Int32) &&& 31)) &&& (3 : Int32)) (1 : Int32)))] [(.int (1 : Int32))]))
          refine ownRetZ X153 hx hlk hret (hb hby at_227) (by decide) (by decide) (1 : Int32) (by decide) ?_
          show Q0 Z p1 p2 q3 q4 p5 h0 n0 _ T153.heap _
          rw [e153]
          exact ⟨rfl, N153⟩
        · refine OwnEnd.go (fun _ k => XS.icmpNo X153.here hx rfl (hb hby at_153) rfl (flt hc154).1 k) ?_
          show OwnEnd p e below s _ _ _ (T153.setTop (mkF m 156 #[.val (.int p1), .val (.int p2), .val (.long q3), .second, .val (.long q4), .second, .val (.int p5), .val (.ref b101), .val (.int (1 : Int32)), .val (.int (p1 &&& (31 : Int32))), .val (.int (p2 &&& (31 : Int32))), .val (.int v123), .val (.int v124), .val (.int (1 : Int32)), .val (.int (own_min ((p5 >>> ((2 : Int32) &&& 31)) &&& (3 : Int32)) (1 : Int32)))] []))
          refine OwnEnd.go (fun _ k => XS.aload X153.here hx rfl (hb hby at_156) rfl rfl k) ?_
          show OwnEnd p e below s _ _ _ (T153.setTop (mkF m 158 #[.val (.int p1), .val (.int p2), .val (.long q3), .second, .val (.long q4), .second, .val (.int p5), .val (.ref b101), .val (.int (1 : Int32)), .val (.int (p1 &&& (31 : Int32))), .val (.int (p2 &&& (31 : Int32))), .val (.int v123), .val (.int v124), .val (.int (1 : Int32)), .val (.int (own_min ((p5 >>> ((2 : Int32) &&& 31)) &&& (3 : Int32)) (1 : Int32)))] [(.ref b101)]))
          obtain ⟨_, T155, L155, X155, hQ155, st155⟩ := ownCallV X153 hx hZ hown ww68 ww69 ww71 ww70 ww2 ww72 (by decide) (rm14z1 l Z a0 hw [] b101 y114 y148 y149 (32 : Int32) (p2 &&& (31 : Int32)) (0 : Int32) (own_upd (own_cp 16 (fun _ => (-1 : Int32)) (fun _ => (-1 : Int32))) (p2 &&& (31 : Int32)) (0 : Int32)) T142.heap n0 Y142  P147 (own_rng _)) e153 F150 0 (by decide) (by decide) (by decide) (by decide) (g := (mkF m 158 #[.val (.int p1), .val (.int p2), .val (.long q3), .second, .val (.long q4), .second, .val (.int p5), .val (.ref b101), .val (.int (1 : Int32)), .val (.int (p1 &&& (31 : Int32))), .val (.int (p2 &&& (31 : Int32))), .val (.int v123), .val (.int v124), .val (.int (1 : Int32)), .val (.int (own_min ((p5 >>> ((2 : Int32) &&& 31)) &&& (3 : Int32)) (1 : Int32)))] [(.ref b101)])) rfl (by rw [hml]; rfl) (argsL := []) (rest := []) (lenOf pd0_4 rfl) rfl rfl (by show 2 * 0 + _ ≤ _; exact Nat.le_of_eq rfl) (hb hby at_158)
          obtain ⟨rfl, N155q, K155q, P156⟩ := hQ155
          have N155 := Fr.app N153 N155q
          have F157 := F150.keep K155q
          have K155 := K142.trans K155q (allS (Or.inr v101) (allS (Or.inr (Nat.le_trans K101.1 P110)) (allS (Or.inr (Nat.le_trans K106.1 P145)) (allS (Or.inr (Nat.le_trans K106.1 P146)) all0))))
          have Y155 := Nat.le_trans Y142 K155q.1
          refine OwnEnd.go (fun _ k => st155 _ k) ?_
          show OwnEnd p e below s _ _ _ (T155.setTop (mkF m 161 #[.val (.int p1), .val (.int p2), .val (.long q3), .second, .val (.long q4), .second, .val (.int p5), .val (.ref b101), .val (.int (1 : Int32)), .val (.int (p1 &&& (31 : Int32))), .val (.int (p2 &&& (31 : Int32))), .val (.int v123), .val (.int v124), .val (.int (1 : Int32)), .val (.int (own_min ((p5 >>> ((2 : Int32) &&& 31)) &&& (3 : Int32)) (1 : Int32)))] [(.int (p2 &&& (31 : Int32)))]))
          refine OwnEnd.go (fun _ k => XS.pop X155.here hx rfl (hb hby at_161) rfl rfl k) ?_
          show OwnEnd p e below s _ _ _ (T155.setTop (mkF m 162 #[.val (.int p1), .val (.int p2), .val (.long q3), .second, .val (.long q4), .second, .val (.int p5), .val (.ref b101), .val (.int (1 : Int32)), .val (.int (p1 &&& (31 : Int32))), .val (.int (p2 &&& (31 : Int32))), .val (.int v123), .val (.int v124), .val (.int (1 : Int32)), .val (.int (own_min ((p5 >>> ((2 : Int32) &&& 31)) &&& (3 : Int32)) (1 : Int32)))] []))
          refine OwnEnd.go (fun _ k => XS.iload X155.here hx rfl (hb hby at_162) rfl  k) ?_
          show OwnEnd p e below s _ _ _ (T155.setTop (mkF m 164 #[.val (.int p1), .val (.int p2), .val (.long q3), .second, .val (.long q4), .second, .val (.int p5), .val (.ref b101), .val (.int (1 : Int32)), .val (.int (p1 &&& (31 : Int32))), .val (.int (p2 &&& (31 : Int32))), .val (.int v123), .val (.int v124), .val (.int (1 : Int32)), .val (.int (own_min ((p5 >>> ((2 : Int32) &&& 31)) &&& (3 : Int32)) (1 : Int32)))] [(.int (1 : Int32))]))
          refine OwnEnd.go (fun _ k => XS.ifNo X155.here hx rfl (hb hby at_164) rfl ((if0 _ _).trans (feq (by decide : ¬ (1 : Int32) = (0 : Int32))).1) k) ?_
          show OwnEnd p e below s _ _ _ (T155.setTop (mkF m 167 #[.val (.int p1), .val (.int p2), .val (.long q3), .second, .val (.long q4), .second, .val (.int p5), .val (.ref b101), .val (.int (1 : Int32)), .val (.int (p1 &&& (31 : Int32))), .val (.int (p2 &&& (31 : Int32))), .val (.int v123), .val (.int v124), .val (.int (1 : Int32)), .val (.int (own_min ((p5 >>> ((2 : Int32) &&& 31)) &&& (3 : Int32)) (1 : Int32)))] []))
          refine OwnEnd.go (fun _ k => XS.aload X155.here hx rfl (hb hby at_167) rfl rfl k) ?_
          show OwnEnd p e below s _ _ _ (T155.setTop (mkF m 169 #[.val (.int p1), .val (.int p2), .val (.long q3), .second, .val (.long q4), .second, .val (.int p5), .val (.ref b101), .val (.int (1 : Int32)), .val (.int (p1 &&& (31 : Int32))), .val (.int (p2 &&& (31 : Int32))), .val (.int v123), .val (.int v124), .val (.int (1 : Int32)), .val (.int (own_min ((p5 >>> ((2 : Int32) &&& 31)) &&& (3 : Int32)) (1 : Int32)))] [(.ref b101)]))
          obtain ⟨_, T159, L159, X159, hQ159, st159⟩ := ownCallV X155 hx hZ hown ww24 ww25 ww27 ww26 ww2 ww28 (by decide) (rm5z0 l Z a0 hw [] b101 y114 y148 y149 (32 : Int32) (p2 &&& (31 : Int32)) (0 : Int32) (own_upd (own_upd (own_cp 16 (fun _ => (-1 : Int32)) (fun _ => (-1 : Int32))) (p2 &&& (31 : Int32)) (0 : Int32)) (p2 &&& (31 : Int32)) (-1 : Int32)) T155.heap n0 Y155  P156) (rfl : T155.heap = T155.heap) F157 0 (by decide) (by decide) (by decide) (by decide) (g := (mkF m 169 #[.val (.int p1), .val (.int p2), .val (.long q3), .second, .val (.long q4), .second, .val (.int p5), .val (.ref b101), .val (.int (1 : Int32)), .val (.int (p1 &&& (31 : Int32))), .val (.int (p2 &&& (31 : Int32))), .val (.int v123), .val (.int v124), .val (.int (1 : Int32)), .val (.int (own_min ((p5 >>> ((2 : Int32) &&& 31)) &&& (3 : Int32)) (1 : Int32)))] [(.ref b101)])) rfl (by rw [hml]; rfl) (argsL := []) (rest := []) (lenOf pd0_1 rfl) rfl rfl (by show 2 * 0 + _ ≤ _; exact Nat.le_of_eq rfl) (hb hby at_169)
          obtain ⟨rfl, N159q, e159⟩ := hQ159
          have N159 := Fr.app N155 N159q
          refine OwnEnd.go (fun _ k => st159 _ k) ?_
          show OwnEnd p e below s _ _ _ (T159.setTop (mkF m 172 #[.val (.int p1), .val (.int p2), .val (.long q3), .second, .val (.long q4), .second, .val (.int p5), .val (.ref b101), .val (.int (1 : Int32)), .val (.int (p1 &&& (31 : Int32))), .val (.int (p2 &&& (31 : Int32))), .val (.int v123), .val (.int v124), .val (.int (1 : Int32)), .val (.int (own_min ((p5 >>> ((2 : Int32) &&& 31)) &&& (3 : Int32)) (1 : Int32)))] [(.int (1 : Int32))]))
          refine OwnEnd.go (fun _ k => XS.iload X159.here hx rfl (hb hby at_172) rfl  k) ?_
          show OwnEnd p e below s _ _ _ (T159.setTop (mkF m 174 #[.val (.int p1), .val (.int p2), .val (.long q3), .second, .val (.long q4), .second, .val (.int p5), .val (.ref b101), .val (.int (1 : Int32)), .val (.int (p1 &&& (31 : Int32))), .val (.int (p2 &&& (31 : Int32))), .val (.int v123), .val (.int v124), .val (.int (1 : Int32)), .val (.int (own_min ((p5 >>> ((2 : Int32) &&& 31)) &&& (3 : Int32)) (1 : Int32)))] [(.int (1 : Int32)), (.int (1 : Int32))]))
          refine OwnEnd.go (fun _ k => XS.iconst X159.here hx rfl (hb hby at_174) k) ?_
          show OwnEnd p e below s _ _ _ (T159.setTop (mkF m 175 #[.val (.int p1), .val (.int p2), .val (.long q3), .second, .val (.long q4), .second, .val (.int p5), .val (.ref b101), .val (.int (1 : Int32)), .val (.int (p1 &&& (31 : Int32))), .val (.int (p2 &&& (31 : Int32))), .val (.int v123), .val (.int v124), .val (.int (1 : Int32)), .val (.int (own_min ((p5 >>> ((2 : Int32) &&& 31)) &&& (3 : Int32)) (1 : Int32)))] [(.int (1 : Int32)), (.int (1 : Int32)), (.int (1 : Int32))]))
          refine OwnEnd.go (fun _ k => XS.icmpNo X159.here hx rfl (hb hby at_175) rfl (teq (by decide : (1 : Int32) = (1 : Int32))).2 k) ?_
          show OwnEnd p e below s _ _ _ (T159.setTop (mkF m 178 #[.val (.int p1), .val (.int p2), .val (.long q3), .second, .val (.long q4), .second, .val (.int p5), .val (.ref b101), .val (.int (1 : Int32)), .val (.int (p1 &&& (31 : Int32))), .val (.int (p2 &&& (31 : Int32))), .val (.int v123), .val (.int v124), .val (.int (1 : Int32)), .val (.int (own_min ((p5 >>> ((2 : Int32) &&& 31)) &&& (3 : Int32)) (1 : Int32)))] [(.int (1 : Int32))]))
          refine OwnEnd.go (fun _ k => XS.iconst X159.here hx rfl (hb hby at_178) k) ?_
          show OwnEnd p e below s _ _ _ (T159.setTop (mkF m 179 #[.val (.int p1), .val (.int p2), .val (.long q3), .second, .val (.long q4), .second, .val (.int p5), .val (.ref b101), .val (.int (1 : Int32)), .val (.int (p1 &&& (31 : Int32))), .val (.int (p2 &&& (31 : Int32))), .val (.int v123), .val (.int v124), .val (.int (1 : Int32)), .val (.int (own_min ((p5 >>> ((2 : Int32) &&& 31)) &&& (3 : Int32)) (1 : Int32)))] [(.int (1 : Int32)), (.int (1 : Int32))]))
          refine OwnEnd.go (fun _ k => XS.goto X159.here hx rfl (pc0 := 179) (pc' := 183) rfl (hb hby at_179) (by decide) (by decide) k) ?_
          show OwnEnd p e below s _ _ _ (T159.setTop (mkF m 183 #[.val (.int p1), .val (.int p2), .val (.long q3), .second, .val (.long q4), .second, .val (.int p5), .val (.ref b101), .val (.int (1 : Int32)), .val (.int (p1 &&& (31 : Int32))), .val (.int (p2 &&& (31 : Int32))), .val (.int v123), .val (.int v124), .val (.int (1 : Int32)), .val (.int (own_min ((p5 >>> ((2 : Int32) &&& 31)) &&& (3 : Int32)) (1 : Int32)))] [(.int (1 : Int32)), (.int (1 : Int32))]))
          refine OwnEnd.go (fun _ k => XS.icmpNo X159.here hx rfl (hb hby at_183) rfl (teq (by decide : (1 : Int32) = (1 : Int32))).2 k) ?_
          show OwnEnd p e below s _ _ _ (T159.setTop (mkF m 186 #[.val (.int p1), .val (.int p2), .val (.long q3), .second, .val (.long q4), .second, .val (.int p5), .val (.ref b101), .val (.int (1 : Int32)), .val (.int (p1 &&& (31 : Int32))), .val (.int (p2 &&& (31 : Int32))), .val (.int v123), .val (.int v124), .val (.int (1 : Int32)), .val (.int (own_min ((p5 >>> ((2 : Int32) &&& 31)) &&& (3 : Int32)) (1 : Int32)))] []))
          refine OwnEnd.go (fun _ k => XS.iconst X159.here hx rfl (hb hby at_186) k) ?_
          show OwnEnd p e below s _ _ _ (T159.setTop (mkF m 187 #[.val (.int p1), .val (.int p2), .val (.long q3), .second, .val (.long q4), .second, .val (.int p5), .val (.ref b101), .val (.int (1 : Int32)), .val (.int (p1 &&& (31 : Int32))), .val (.int (p2 &&& (31 : Int32))), .val (.int v123), .val (.int v124), .val (.int (1 : Int32)), .val (.int (own_min ((p5 >>> ((2 : Int32) &&& 31)) &&& (3 : Int32)) (1 : Int32)))] [(.int (1 : Int32))]))
          refine OwnEnd.go (fun _ k => XS.goto X159.here hx rfl (pc0 := 187) (pc' := 191) rfl (hb hby at_187) (by decide) (by decide) k) ?_
          show OwnEnd p e below s _ _ _ (T159.setTop (mkF m 191 #[.val (.int p1), .val (.int p2), .val (.long q3), .second, .val (.long q4), .second, .val (.int p5), .val (.ref b101), .val (.int (1 : Int32)), .val (.int (p1 &&& (31 : Int32))), .val (.int (p2 &&& (31 : Int32))), .val (.int v123), .val (.int v124), .val (.int (1 : Int32)), .val (.int (own_min ((p5 >>> ((2 : Int32) &&& 31)) &&& (3 : Int32)) (1 : Int32)))] [(.int (1 : Int32))]))
          refine OwnEnd.go (fun _ k => XS.istore X159.here hx rfl (hb hby at_191) rfl  (l' := #[.val (.int p1), .val (.int p2), .val (.long q3), .second, .val (.long q4), .second, .val (.int p5), .val (.ref b101), .val (.int (1 : Int32)), .val (.int (p1 &&& (31 : Int32))), .val (.int (p2 &&& (31 : Int32))), .val (.int v123), .val (.int v124), .val (.int (1 : Int32)), .val (.int (own_min ((p5 >>> ((2 : Int32) &&& 31)) &&& (3 : Int32)) (1 : Int32)))]) rfl k) ?_
          show OwnEnd p e below s _ _ _ (T159.setTop (mkF m 193 #[.val (.int p1), .val (.int p2), .val (.long q3), .second, .val (.long q4), .second, .val (.int p5), .val (.ref b101), .val (.int (1 : Int32)), .val (.int (p1 &&& (31 : Int32))), .val (.int (p2 &&& (31 : Int32))), .val (.int v123), .val (.int v124), .val (.int (1 : Int32)), .val (.int (own_min ((p5 >>> ((2 : Int32) &&& 31)) &&& (3 : Int32)) (1 : Int32)))] []))
          refine OwnEnd.go (fun _ k => XS.iload X159.here hx rfl (hb hby at_193) rfl  k) ?_
          show OwnEnd p e below s _ _ _ (T159.setTop (mkF m 195 #[.val (.int p1), .val (.int p2), .val (.long q3), .second, .val (.long q4), .second, .val (.int p5), .val (.ref b101), .val (.int (1 : Int32)), .val (.int (p1 &&& (31 : Int32))), .val (.int (p2 &&& (31 : Int32))), .val (.int v123), .val (.int v124), .val (.int (1 : Int32)), .val (.int (own_min ((p5 >>> ((2 : Int32) &&& 31)) &&& (3 : Int32)) (1 : Int32)))] [(.int (own_min ((p5 >>> ((2 : Int32) &&& 31)) &&& (3 : Int32)) (1 : Int32)))]))
          refine OwnEnd.go (fun _ k => XS.iconst X159.here hx rfl (hb hby at_195) k) ?_
          show OwnEnd p e below s _ _ _ (T159.setTop (mkF m 196 #[.val (.int p1), .val (.int p2), .val (.long q3), .second, .val (.long q4), .second, .val (.int p5), .val (.ref b101), .val (.int (1 : Int32)), .val (.int (p1 &&& (31 : Int32))), .val (.int (p2 &&& (31 : Int32))), .val (.int v123), .val (.int v124), .val (.int (1 : Int32)), .val (.int (own_min ((p5 >>> ((2 : Int32) &&& 31)) &&& (3 : Int32)) (1 : Int32)))] [(.int (2 : Int32)), (.int (own_min ((p5 >>> ((2 : Int32) &&& 31)) &&& (3 : Int32)) (1 : Int32)))]))
          refine OwnEnd.go (fun _ k => XS.icmpYes X159.here hx rfl (pc0 := 196) (pc' := 225) rfl (hb hby at_196) rfl (tlt (own_min1 _)).1 (by decide) (by decide) k) ?_
          show OwnEnd p e below s _ _ _ (T159.setTop (mkF m 225 #[.val (.int p1), .val (.int p2), .val (.long q3), .second, .val (.long q4), .second, .val (.int p5), .val (.ref b101), .val (.int (1 : Int32)), .val (.int (p1 &&& (31 : Int32))), .val (.int (p2 &&& (31 : Int32))), .val (.int v123), .val (.int v124), .val (.int (1 : Int32)), .val (.int (own_min ((p5 >>> ((2 : Int32) &&& 31)) &&& (3 : Int32)) (1 : Int32)))] []))
          refine OwnEnd.go (fun _ k => XS.iload X159.here hx rfl (hb hby at_225) rfl  k) ?_
          show OwnEnd p e below s _ _ _ (T159.setTop (mkF m 227 #[.val (.int p1), .val (.int p2), .val (.long q3), .second, .val (.long q4), .second, .val (.int p5), .val (.ref b101), .val (.int (1 : Int32)), .val (.int (p1 &&& (31 : Int32))), .val (.int (p2 &&& (31 : Int32))), .val (.int v123), .val (.int v124), .val (.int (1 : Int32)), .val (.int (own_min ((p5 >>> ((2 : Int32) &&& 31)) &&& (3 : Int32)) (1 : Int32)))] [(.int (1 : Int32))]))
          refine ownRetZ X159 hx hlk hret (hb hby at_227) (by decide) (by decide) (1 : Int32) (by decide) ?_
          show Q0 Z p1 p2 q3 q4 p5 h0 n0 _ T159.heap _
          rw [e159]
          exact ⟨rfl, N159⟩
  · refine OwnEnd.go (fun _ k => XS.ifNo X124.here hx rfl (hb hby at_61) rfl ((if0 _ _).trans (feq hc125).1) k) ?_
    show OwnEnd p e below s _ _ _ (T124.setTop (mkF m 64 #[.val (.int p1), .val (.int p2), .val (.long q3), .second, .val (.long q4), .second, .val (.int p5), .val (.ref b101), .val (.int (1 : Int32)), .val (.int (p1 &&& (31 : Int32))), .val (.int (p2 &&& (31 : Int32))), .val (.int v123), .val (.int v124), .val (.int (0 : Int32)), .unset] []))
    by_cases hs160 : (p1 &&& (31 : Int32)) < (16 : Int32)
    · show OwnEnd p e below s _ _ _ (T124.setTop (mkF m 64 #[.val (.int p1), .val (.int p2), .val (.long q3), .second, .val (.long q4), .second, .val (.int p5), .val (.ref b101), .val (.int (1 : Int32)), .val (.int (p1 &&& (31 : Int32))), .val (.int (p2 &&& (31 : Int32))), .val (.int v123), .val (.int v124), .val (.int (0 : Int32)), .unset] []))
      refine OwnEnd.go (fun _ k => XS.aload X124.here hx rfl (hb hby at_64) rfl rfl k) ?_
      show OwnEnd p e below s _ _ _ (T124.setTop (mkF m 66 #[.val (.int p1), .val (.int p2), .val (.long q3), .second, .val (.long q4), .second, .val (.int p5), .val (.ref b101), .val (.int (1 : Int32)), .val (.int (p1 &&& (31 : Int32))), .val (.int (p2 &&& (31 : Int32))), .val (.int v123), .val (.int v124), .val (.int (0 : Int32)), .unset] [(.ref b101)]))
      refine OwnEnd.go (fun _ k => XS.iload X124.here hx rfl (hb hby at_66) rfl  k) ?_
      show OwnEnd p e below s _ _ _ (T124.setTop (mkF m 68 #[.val (.int p1), .val (.int p2), .val (.long q3), .second, .val (.long q4), .second, .val (.int p5), .val (.ref b101), .val (.int (1 : Int32)), .val (.int (p1 &&& (31 : Int32))), .val (.int (p2 &&& (31 : Int32))), .val (.int v123), .val (.int v124), .val (.int (0 : Int32)), .unset] [(.int (p1 &&& (31 : Int32))), (.ref b101)]))
      refine OwnEnd.go (fun _ k => XS.lloadN X124.here hx rfl (hb hby at_68) rfl  k) ?_
      show OwnEnd p e below s _ _ _ (T124.setTop (mkF m 69 #[.val (.int p1), .val (.int p2), .val (.long q3), .second, .val (.long q4), .second, .val (.int p5), .val (.ref b101), .val (.int (1 : Int32)), .val (.int (p1 &&& (31 : Int32))), .val (.int (p2 &&& (31 : Int32))), .val (.int v123), .val (.int v124), .val (.int (0 : Int32)), .unset] [(.long q3), (.int (p1 &&& (31 : Int32))), (.ref b101)]))
      obtain ⟨_, T161, L161, X161, hQ161, st161⟩ := ownCallV X124 hx hZ hown ww31 ww32 ww34 ww33 ww2 ww35 (by decide) (rm6s0c16 l Z a0 hw [] b101 (p1 &&& (31 : Int32)) q3 y114 y115 y116 (0 : Int32) (0 : Int32) (fun _ => (-1 : Int32)) T106.heap n0 Y106  P113 ⟨(own_rng _).1, hs160⟩ rfl) e124 F117 0 (by decide) (by decide) (by decide) (by decide) (g := (mkF m 69 #[.val (.int p1), .val (.int p2), .val (.long q3), .second, .val (.long q4), .second, .val (.int p5), .val (.ref b101), .val (.int (1 : Int32)), .val (.int (p1 &&& (31 : Int32))), .val (.int (p2 &&& (31 : Int32))), .val (.int v123), .val (.int v124), .val (.int (0 : Int32)), .unset] [(.long q3), (.int (p1 &&& (31 : Int32))), (.ref b101)])) rfl (by rw [hml]; rfl) (argsL := [(.int (p1 &&& (31 : Int32))), (.long q3)]) (rest := []) (lenOf pd0_3 rfl) rfl rfl (by show 2 * 0 + _ ≤ _; exact Nat.le_of_eq rfl) (hb hby at_69)
      obtain ⟨rfl, N161q, K161q, P162⟩ := hQ161
      have N161 := Fr.app N122 N161q
      have F163 := F117.keep K161q
      have K161 := K106.trans K161q (allS (Or.inr v101) (allS (Or.inr (Nat.le_trans K101.1 P110)) (allS (Or.inr (Nat.le_trans K101.1 P111)) (allS (Or.inr (Nat.le_trans K101.1 P112)) all0))))
      have Y161 := Nat.le_trans Y106 K161q.1
      refine OwnEnd.go (fun _ k => st161 _ k) ?_
      show OwnEnd p e below s _ _ _ (T161.setTop (mkF m 72 #[.val (.int p1), .val (.int p2), .val (.long q3), .second, .val (.long q4), .second, .val (.int p5), .val (.ref b101), .val (.int (1 : Int32)), .val (.int (p1 &&& (31 : Int32))), .val (.int (p2 &&& (31 : Int32))), .val (.int v123), .val (.int v124), .val (.int (0 : Int32)), .unset] []))
      refine OwnEnd.go (fun _ k => XS.iconst X161.here hx rfl (hb hby at_72) k) ?_
      show OwnEnd p e below s _ _ _ (T161.setTop (mkF m 73 #[.val (.int p1), .val (.int p2), .val (.long q3), .second, .val (.long q4), .second, .val (.int p5), .val (.ref b101), .val (.int (1 : Int32)), .val (.int (p1 &&& (31 : Int32))), .val (.int (p2 &&& (31 : Int32))), .val (.int v123), .val (.int v124), .val (.int (0 : Int32)), .unset] [(.int (1 : Int32))]))
      refine OwnEnd.go (fun _ k => XS.istore X161.here hx rfl (hb hby at_73) rfl  (l' := #[.val (.int p1), .val (.int p2), .val (.long q3), .second, .val (.long q4), .second, .val (.int p5), .val (.ref b101), .val (.int (1 : Int32)), .val (.int (p1 &&& (31 : Int32))), .val (.int (p2 &&& (31 : Int32))), .val (.int v123), .val (.int v124), .val (.int (1 : Int32)), .unset]) rfl k) ?_
      show OwnEnd p e below s _ _ _ (T161.setTop (mkF m 75 #[.val (.int p1), .val (.int p2), .val (.long q3), .second, .val (.long q4), .second, .val (.int p5), .val (.ref b101), .val (.int (1 : Int32)), .val (.int (p1 &&& (31 : Int32))), .val (.int (p2 &&& (31 : Int32))), .val (.int v123), .val (.int v124), .val (.int (1 : Int32)), .unset] []))
      refine OwnEnd.go (fun _ k => XS.iload X161.here hx rfl (hb hby at_75) rfl  k) ?_
      show OwnEnd p e below s _ _ _ (T161.setTop (mkF m 77 #[.val (.int p1), .val (.int p2), .val (.long q3), .second, .val (.long q4), .second, .val (.int p5), .val (.ref b101), .val (.int (1 : Int32)), .val (.int (p1 &&& (31 : Int32))), .val (.int (p2 &&& (31 : Int32))), .val (.int v123), .val (.int v124), .val (.int (1 : Int32)), .unset] [(.int v124)]))
      by_cases hc165 : v124 = (0 : Int32)
      · refine OwnEnd.go (fun _ k => XS.ifYes X161.here hx rfl (pc0 := 77) (pc' := 107) rfl (hb hby at_77) rfl ((if0 _ _).trans (teq hc165).1) (by decide) (by decide) k) ?_
        show OwnEnd p e below s _ _ _ (T161.setTop (mkF m 107 #[.val (.int p1), .val (.int p2), .val (.long q3), .second, .val (.long q4), .second, .val (.int p5), .val (.ref b101), .val (.int (1 : Int32)), .val (.int (p1 &&& (31 : Int32))), .val (.int (p2 &&& (31 : Int32))), .val (.int v123), .val (.int v124), .val (.int (1 : Int32)), .unset] []))
        refine OwnEnd.go (fun _ k => XS.iload X161.here hx rfl (hb hby at_107) rfl  k) ?_
        show OwnEnd p e below s _ _ _ (T161.setTop (mkF m 109 #[.val (.int p1), .val (.int p2), .val (.long q3), .second, .val (.long q4), .second, .val (.int p5), .val (.ref b101), .val (.int (1 : Int32)), .val (.int (p1 &&& (31 : Int32))), .val (.int (p2 &&& (31 : Int32))), .val (.int v123), .val (.int v124), .val (.int (1 : Int32)), .unset] [(.int (1 : Int32))]))
        refine OwnEnd.go (fun _ k => XS.ifNo X161.here hx rfl (hb hby at_109) rfl ((if0 _ _).trans (feq (by decide : ¬ (1 : Int32) = (0 : Int32))).1) k) ?_
        show OwnEnd p e below s _ _ _ (T161.setTop (mkF m 112 #[.val (.int p1), .val (.int p2), .val (.long q3), .second, .val (.long q4), .second, .val (.int p5), .val (.ref b101), .val (.int (1 : Int32)), .val (.int (p1 &&& (31 : Int32))), .val (.int (p2 &&& (31 : Int32))), .val (.int v123), .val (.int v124), .val (.int (1 : Int32)), .unset] []))
        refine OwnEnd.go (fun _ k => XS.aload X161.here hx rfl (hb hby at_112) rfl rfl k) ?_
        show OwnEnd p e below s _ _ _ (T161.setTop (mkF m 114 #[.val (.int p1), .val (.int p2), .val (.long q3), .second, .val (.long q4), .second, .val (.int p5), .val (.ref b101), .val (.int (1 : Int32)), .val (.int (p1 &&& (31 : Int32))), .val (.int (p2 &&& (31 : Int32))), .val (.int v123), .val (.int v124), .val (.int (1 : Int32)), .unset] [(.ref b101)]))
        obtain ⟨_, T166, L166, X166, hQ166, st166⟩ := ownCallV X161 hx hZ hown ww24 ww25 ww27 ww26 ww2 ww28 (by decide) (rm5z1 l Z a0 hw [] b101 y114 y115 y116 (16 : Int32) (p1 &&& (31 : Int32)) (0 : Int32) (own_upd (fun _ => (-1 : Int32)) (p1 &&& (31 : Int32)) (0 : Int32)) T161.heap n0 Y161  P162) (rfl : T161.heap = T161.heap) F163 0 (by decide) (by decide) (by decide) (by decide) (g := (mkF m 114 #[.val (.int p1), .val (.int p2), .val (.long q3), .second, .val (.long q4), .second, .val (.int p5), .val (.ref b101), .val (.int (1 : Int32)), .val (.int (p1 &&& (31 : Int32))), .val (.int (p2 &&& (31 : Int32))), .val (.int v123), .val (.int v124), .val (.int (1 : Int32)), .unset] [(.ref b101)])) rfl (by rw [hml]; rfl) (argsL := []) (rest := []) (lenOf pd0_1 rfl) rfl rfl (by show 2 * 0 + _ ≤ _; exact Nat.le_of_eq rfl) (hb hby at_114)
        obtain ⟨rfl, N166q, e166⟩ := hQ166
        have N166 := Fr.app N161 N166q
        refine OwnEnd.go (fun _ k => st166 _ k) ?_
        show OwnEnd p e below s _ _ _ (T166.setTop (mkF m 117 #[.val (.int p1), .val (.int p2), .val (.long q3), .second, .val (.long q4), .second, .val (.int p5), .val (.ref b101), .val (.int (1 : Int32)), .val (.int (p1 &&& (31 : Int32))), .val (.int (p2 &&& (31 : Int32))), .val (.int v123), .val (.int v124), .val (.int (1 : Int32)), .unset] [(.int (0 : Int32))]))
        refine OwnEnd.go (fun _ k => XS.iload X166.here hx rfl (hb hby at_117) rfl  k) ?_
        show OwnEnd p e below s _ _ _ (T166.setTop (mkF m 119 #[.val (.int p1), .val (.int p2), .val (.long q3), .second, .val (.long q4), .second, .val (.int p5), .val (.ref b101), .val (.int (1 : Int32)), .val (.int (p1 &&& (31 : Int32))), .val (.int (p2 &&& (31 : Int32))), .val (.int v123), .val (.int v124), .val (.int (1 : Int32)), .unset] [(.int (1 : Int32)), (.int (0 : Int32))]))
        refine OwnEnd.go (fun _ k => XS.ifYes X166.here hx rfl (pc0 := 119) (pc' := 126) rfl (hb hby at_119) rfl ((if0 _ _).trans (feq (by decide : ¬ (1 : Int32) = (0 : Int32))).2) (by decide) (by decide) k) ?_
        show OwnEnd p e below s _ _ _ (T166.setTop (mkF m 126 #[.val (.int p1), .val (.int p2), .val (.long q3), .second, .val (.long q4), .second, .val (.int p5), .val (.ref b101), .val (.int (1 : Int32)), .val (.int (p1 &&& (31 : Int32))), .val (.int (p2 &&& (31 : Int32))), .val (.int v123), .val (.int v124), .val (.int (1 : Int32)), .unset] [(.int (0 : Int32))]))
        refine OwnEnd.go (fun _ k => XS.iconst X166.here hx rfl (hb hby at_126) k) ?_
        show OwnEnd p e below s _ _ _ (T166.setTop (mkF m 127 #[.val (.int p1), .val (.int p2), .val (.long q3), .second, .val (.long q4), .second, .val (.int p5), .val (.ref b101), .val (.int (1 : Int32)), .val (.int (p1 &&& (31 : Int32))), .val (.int (p2 &&& (31 : Int32))), .val (.int v123), .val (.int v124), .val (.int (1 : Int32)), .unset] [(.int (0 : Int32)), (.int (0 : Int32))]))
        refine OwnEnd.go (fun _ k => XS.icmpNo X166.here hx rfl (hb hby at_127) rfl (teq (by decide : (0 : Int32) = (0 : Int32))).2 k) ?_
        show OwnEnd p e below s _ _ _ (T166.setTop (mkF m 130 #[.val (.int p1), .val (.int p2), .val (.long q3), .second, .val (.long q4), .second, .val (.int p5), .val (.ref b101), .val (.int (1 : Int32)), .val (.int (p1 &&& (31 : Int32))), .val (.int (p2 &&& (31 : Int32))), .val (.int v123), .val (.int v124), .val (.int (1 : Int32)), .unset] []))
        refine OwnEnd.go (fun _ k => XS.iconst X166.here hx rfl (hb hby at_130) k) ?_
        show OwnEnd p e below s _ _ _ (T166.setTop (mkF m 131 #[.val (.int p1), .val (.int p2), .val (.long q3), .second, .val (.long q4), .second, .val (.int p5), .val (.ref b101), .val (.int (1 : Int32)), .val (.int (p1 &&& (31 : Int32))), .val (.int (p2 &&& (31 : Int32))), .val (.int v123), .val (.int v124), .val (.int (1 : Int32)), .unset] [(.int (1 : Int32))]))
        refine OwnEnd.go (fun _ k => XS.goto X166.here hx rfl (pc0 := 131) (pc' := 135) rfl (hb hby at_131) (by decide) (by decide) k) ?_
        show OwnEnd p e below s _ _ _ (T166.setTop (mkF m 135 #[.val (.int p1), .val (.int p2), .val (.long q3), .second, .val (.long q4), .second, .val (.int p5), .val (.ref b101), .val (.int (1 : Int32)), .val (.int (p1 &&& (31 : Int32))), .val (.int (p2 &&& (31 : Int32))), .val (.int v123), .val (.int v124), .val (.int (1 : Int32)), .unset] [(.int (1 : Int32))]))
        refine OwnEnd.go (fun _ k => XS.istore X166.here hx rfl (hb hby at_135) rfl  (l' := #[.val (.int p1), .val (.int p2), .val (.long q3), .second, .val (.long q4), .second, .val (.int p5), .val (.ref b101), .val (.int (1 : Int32)), .val (.int (p1 &&& (31 : Int32))), .val (.int (p2 &&& (31 : Int32))), .val (.int v123), .val (.int v124), .val (.int (1 : Int32)), .unset]) rfl k) ?_
        show OwnEnd p e below s _ _ _ (T166.setTop (mkF m 137 #[.val (.int p1), .val (.int p2), .val (.long q3), .second, .val (.long q4), .second, .val (.int p5), .val (.ref b101), .val (.int (1 : Int32)), .val (.int (p1 &&& (31 : Int32))), .val (.int (p2 &&& (31 : Int32))), .val (.int v123), .val (.int v124), .val (.int (1 : Int32)), .unset] []))
        refine OwnEnd.go (fun _ k => XS.iload X166.here hx rfl (hb hby at_137) rfl  k) ?_
        show OwnEnd p e below s _ _ _ (T166.setTop (mkF m 139 #[.val (.int p1), .val (.int p2), .val (.long q3), .second, .val (.long q4), .second, .val (.int p5), .val (.ref b101), .val (.int (1 : Int32)), .val (.int (p1 &&& (31 : Int32))), .val (.int (p2 &&& (31 : Int32))), .val (.int v123), .val (.int v124), .val (.int (1 : Int32)), .unset] [(.int p5)]))
        refine OwnEnd.go (fun _ k => XS.iconst X166.here hx rfl (hb hby at_139) k) ?_
        show OwnEnd p e below s _ _ _ (T166.setTop (mkF m 140 #[.val (.int p1), .val (.int p2), .val (.long q3), .second, .val (.long q4), .second, .val (.int p5), .val (.ref b101), .val (.int (1 : Int32)), .val (.int (p1 &&& (31 : Int32))), .val (.int (p2 &&& (31 : Int32))), .val (.int v123), .val (.int v124), .val (.int (1 : Int32)), .unset] [(.int (2 : Int32)), (.int p5)]))
        refine OwnEnd.go (fun _ k => XS.ishr X166.here hx rfl (hb hby at_140) rfl k) ?_
        show OwnEnd p e below s _ _ _ (T166.setTop (mkF m 141 #[.val (.int p1), .val (.int p2), .val (.long q3), .second, .val (.long q4), .second, .val (.int p5), .val (.ref b101), .val (.int (1 : Int32)), .val (.int (p1 &&& (31 : Int32))), .val (.int (p2 &&& (31 : Int32))), .val (.int v123), .val (.int v124), .val (.int (1 : Int32)), .unset] [(.int (p5 >>> ((2 : Int32) &&& 31)))]))
        refine OwnEnd.go (fun _ k => XS.iconst X166.here hx rfl (hb hby at_141) k) ?_
        show OwnEnd p e below s _ _ _ (T166.setTop (mkF m 142 #[.val (.int p1), .val (.int p2), .val (.long q3), .second, .val (.long q4), .second, .val (.int p5), .val (.ref b101), .val (.int (1 : Int32)), .val (.int (p1 &&& (31 : Int32))), .val (.int (p2 &&& (31 : Int32))), .val (.int v123), .val (.int v124), .val (.int (1 : Int32)), .unset] [(.int (3 : Int32)), (.int (p5 >>> ((2 : Int32) &&& 31)))]))
        refine OwnEnd.go (fun _ k => XS.iand X166.here hx rfl (hb hby at_142) rfl k) ?_
        show OwnEnd p e below s _ _ _ (T166.setTop (mkF m 143 #[.val (.int p1), .val (.int p2), .val (.long q3), .second, .val (.long q4), .second, .val (.int p5), .val (.ref b101), .val (.int (1 : Int32)), .val (.int (p1 &&& (31 : Int32))), .val (.int (p2 &&& (31 : Int32))), .val (.int v123), .val (.int v124), .val (.int (1 : Int32)), .unset] [(.int ((p5 >>> ((2 : Int32) &&& 31)) &&& (3 : Int32)))]))
        refine OwnEnd.go (fun _ k => XS.iload X166.here hx rfl (hb hby at_143) rfl  k) ?_
        show OwnEnd p e below s _ _ _ (T166.setTop (mkF m 145 #[.val (.int p1), .val (.int p2), .val (.long q3), .second, .val (.long q4), .second, .val (.int p5), .val (.ref b101), .val (.int (1 : Int32)), .val (.int (p1 &&& (31 : Int32))), .val (.int (p2 &&& (31 : Int32))), .val (.int v123), .val (.int v124), .val (.int (1 : Int32)), .unset] [(.int (1 : Int32)), (.int ((p5 >>> ((2 : Int32) &&& 31)) &&& (3 : Int32)))]))
        obtain ⟨_, T167, L167, X167, hQ167, st167⟩ := ownCallS X166 hx hZ hown ww44 ww45 ww46 ww47 (by decide) (rm9 l Z a0 hw [] ((p5 >>> ((2 : Int32) &&& 31)) &&& (3 : Int32)) (1 : Int32) T161.heap n0 Y161  ) e166 0 (by decide) (by decide) (by decide) (by decide) (g := (mkF m 145 #[.val (.int p1), .val (.int p2), .val (.long q3), .second, .val (.long q4), .second, .val (.int p5), .val (.ref b101), .val (.int (1 : Int32)), .val (.int (p1 &&& (31 : Int32))), .val (.int (p2 &&& (31 : Int32))), .val (.int v123), .val (.int v124), .val (.int (1 : Int32)), .unset] [(.int (1 : Int32)), (.int ((p5 >>> ((2 : Int32) &&& 31)) &&& (3 : Int32)))])) rfl (by rw [hml]; rfl) (argsL := [(.int ((p5 >>> ((2 : Int32) &&& 31)) &&& (3 : Int32))), (.int (1 : Int32))]) (rest := []) (lenOf pd0_2 rfl) rfl rfl (by show 2 * 0 + _ ≤ _; exact Nat.le_of_eq rfl) (hb hby at_145)
        obtain ⟨rfl, N167q, e167⟩ := hQ167
        have N167 := Fr.app N166 N167q
        refine OwnEnd.go (fun _ k => st167 _ k) ?_
        show OwnEnd p e below s _ _ _ (T167.setTop (mkF m 148 #[.val (.int p1), .val (.int p2), .val (.long q3), .second, .val (.long q4), .second, .val (.int p5), .val (.ref b101), .val (.int (1 : Int32)), .val (.int (p1 &&& (31 : Int32))), .val (.int (p2 &&& (31 : Int32))), .val (.int v123), .val (.int v124), .val (.int (1 : Int32)), .unset] [(.int (own_min ((p5 >>> ((2 : Int32) &&& 31)) &&& (3 : Int32)) (1 : Int32)))]))
        refine OwnEnd.go (fun _ k => XS.istore X167.here hx rfl (hb hby at_148) rfl  (l' := #[.val (.int p1), .val (.int p2), .val (.long q3), .second, .val (.long q4), .second, .val (.int p5), .val (.ref b101), .val (.int (1 : Int32)), .val (.int (p1 &&& (31 : Int32))), .val (.int (p2 &&& (31 : Int32))), .val (.int v123), .val (.int v124), .val (.int (1 : Int32)), .val (.int (own_min ((p5 >>> ((2 : Int32) &&& 31)) &&& (3 : Int32)) (1 : Int32)))]) rfl k) ?_
        show OwnEnd p e below s _ _ _ (T167.setTop (mkF m 150 #[.val (.int p1), .val (.int p2), .val (.long q3), .second, .val (.long q4), .second, .val (.int p5), .val (.ref b101), .val (.int (1 : Int32)), .val (.int (p1 &&& (31 : Int32))), .val (.int (p2 &&& (31 : Int32))), .val (.int v123), .val (.int v124), .val (.int (1 : Int32)), .val (.int (own_min ((p5 >>> ((2 : Int32) &&& 31)) &&& (3 : Int32)) (1 : Int32)))] []))
        refine OwnEnd.go (fun _ k => XS.iload X167.here hx rfl (hb hby at_150) rfl  k) ?_
        show OwnEnd p e below s _ _ _ (T167.setTop (mkF m 152 #[.val (.int p1), .val (.int p2), .val (.long q3), .second, .val (.long q4), .second, .val (.int p5), .val (.ref b101), .val (.int (1 : Int32)), .val (.int (p1 &&& (31 : Int32))), .val (.int (p2 &&& (31 : Int32))), .val (.int v123), .val (.int v124), .val (.int (1 : Int32)), .val (.int (own_min ((p5 >>> ((2 : Int32) &&& 31)) &&& (3 : Int32)) (1 : Int32)))] [(.int (own_min ((p5 >>> ((2 : Int32) &&& 31)) &&& (3 : Int32)) (1 : Int32)))]))
        refine OwnEnd.go (fun _ k => XS.iconst X167.here hx rfl (hb hby at_152) k) ?_
        show OwnEnd p e below s _ _ _ (T167.setTop (mkF m 153 #[.val (.int p1), .val (.int p2), .val (.long q3), .second, .val (.long q4), .second, .val (.int p5), .val (.ref b101), .val (.int (1 : Int32)), .val (.int (p1 &&& (31 : Int32))), .val (.int (p2 &&& (31 : Int32))), .val (.int v123), .val (.int v124), .val (.int (1 : Int32)), .val (.int (own_min ((p5 >>> ((2 : Int32) &&& 31)) &&& (3 : Int32)) (1 : Int32)))] [(.int (1 : Int32)), (.int (own_min ((p5 >>> ((2 : Int32) &&& 31)) &&& (3 : Int32)) (1 : Int32)))]))
        by_cases hc168 : (own_min ((p5 >>> ((2 : Int32) &&& 31)) &&& (3 : Int32)) (1 : Int32)) < (1 : Int32)
        · refine OwnEnd.go (fun _ k => XS.icmpYes X167.here hx rfl (pc0 := 153) (pc' := 193) rfl (hb hby at_153) rfl (tlt hc168).1 (by decide) (by decide) k) ?_
          show OwnEnd p e below s _ _ _ (T167.setTop (mkF m 193 #[.val (.int p1), .val (.int p2), .val (.long q3), .second, .val (.long q4), .second, .val (.int p5), .val (.ref b101), .val (.int (1 : Int32)), .val (.int (p1 &&& (31 : Int32))), .val (.int (p2 &&& (31 : Int32))), .val (.int v123), .val (.int v124), .val (.int (1 : Int32)), .val (.int (own_min ((p5 >>> ((2 : Int32) &&& 31)) &&& (3 : Int32)) (1 : Int32)))] []))
          refine OwnEnd.go (fun _ k => XS.iload X167.here hx rfl (hb hby at_193) rfl  k) ?_
          show OwnEnd p e below s _ _ _ (T167.setTop (mkF m 195 #[.val (.int p1), .val (.int p2), .val (.long q3), .second, .val (.long q4), .second, .val (.int p5), .val (.ref b101), .val (.int (1 : Int32)), .val (.int (p1 &&& (31 : Int32))), .val (.int (p2 &&& (31 : Int32))), .val (.int v123), .val (.int v124), .val (.int (1 : Int32)), .val (.int (own_min ((p5 >>> ((2 : Int32) &&& 31)) &&& (3 : Int32)) (1 : Int32)))] [(.int (own_min ((p5 >>> ((2 : Int32) &&& 31)) &&& (3 : Int32)) (1 : Int32)))]))
          refine OwnEnd.go (fun _ k => XS.iconst X167.here hx rfl (hb hby at_195) k) ?_
          show OwnEnd p e below s _ _ _ (T167.setTop (mkF m 196 #[.val (.int p1), .val (.int p2), .val (.long q3), .second, .val (.long q4), .second, .val (.int p5), .val (.ref b101), .val (.int (1 : Int32)), .val (.int (p1 &&& (31 : Int32))), .val (.int (p2 &&& (31 : Int32))), .val (.int v123), .val (.int v124), .val (.int (1 : Int32)), .val (.int (own_min ((p5 >>> ((2 : Int32) &&& 31)) &&& (3 : Int32)) (1 : Int32)))] [(.int (2 : Int32)), (.int (own_min ((p5 >>> ((2 : Int32) &&& 31)) &&& (3 : Int32)) (1 : Int32)))]))
          refine OwnEnd.go (fun _ k => XS.icmpYes X167.here hx rfl (pc0 := 196) (pc' := 225) rfl (hb hby at_196) rfl (tlt (own_min1 _)).1 (by decide) (by decide) k) ?_
          show OwnEnd p e below s _ _ _ (T167.setTop (mkF m 225 #[.val (.int p1), .val (.int p2), .val (.long q3), .second, .val (.long q4), .second, .val (.int p5), .val (.ref b101), .val (.int (1 : Int32)), .val (.int (p1 &&& (31 : Int32))), .val (.int (p2 &&& (31 : Int32))), .val (.int v123), .val (.int v124), .val (.int (1 : Int32)), .val (.int (own_min ((p5 >>> ((2 : Int32) &&& 31)) &&& (3 : Int32)) (1 : Int32)))] []))
          refine OwnEnd.go (fun _ k => XS.iload X167.here hx rfl (hb hby at_225) rfl  k) ?_
          show OwnEnd p e below s _ _ _ (T167.setTop (mkF m 227 #[.val (.int p1), .val (.int p2), .val (.long q3), .second, .val (.long q4), .second, .val (.int p5), .val (.ref b101), .val (.int (1 : Int32)), .val (.int (p1 &&& (31 : Int32))), .val (.int (p2 &&& (31 : Int32))), .val (.int v123), .val (.int v124), .val (.int (1 : Int32)), .val (.int (own_min ((p5 >>> ((2 : Int32) &&& 31)) &&& (3 : Int32)) (1 : Int32)))] [(.int (1 : Int32))]))
          refine ownRetZ X167 hx hlk hret (hb hby at_227) (by decide) (by decide) (1 : Int32) (by decide) ?_
          show Q0 Z p1 p2 q3 q4 p5 h0 n0 _ T167.heap _
          rw [e167]
          exact ⟨rfl, N167⟩
        · refine OwnEnd.go (fun _ k => XS.icmpNo X167.here hx rfl (hb hby at_153) rfl (flt hc168).1 k) ?_
          show OwnEnd p e below s _ _ _ (T167.setTop (mkF m 156 #[.val (.int p1), .val (.int p2), .val (.long q3), .second, .val (.long q4), .second, .val (.int p5), .val (.ref b101), .val (.int (1 : Int32)), .val (.int (p1 &&& (31 : Int32))), .val (.int (p2 &&& (31 : Int32))), .val (.int v123), .val (.int v124), .val (.int (1 : Int32)), .val (.int (own_min ((p5 >>> ((2 : Int32) &&& 31)) &&& (3 : Int32)) (1 : Int32)))] []))
          refine OwnEnd.go (fun _ k => XS.aload X167.here hx rfl (hb hby at_156) rfl rfl k) ?_
          show OwnEnd p e below s _ _ _ (T167.setTop (mkF m 158 #[.val (.int p1), .val (.int p2), .val (.long q3), .second, .val (.long q4), .second, .val (.int p5), .val (.ref b101), .val (.int (1 : Int32)), .val (.int (p1 &&& (31 : Int32))), .val (.int (p2 &&& (31 : Int32))), .val (.int v123), .val (.int v124), .val (.int (1 : Int32)), .val (.int (own_min ((p5 >>> ((2 : Int32) &&& 31)) &&& (3 : Int32)) (1 : Int32)))] [(.ref b101)]))
          obtain ⟨_, T169, L169, X169, hQ169, st169⟩ := ownCallV X167 hx hZ hown ww68 ww69 ww71 ww70 ww2 ww72 (by decide) (rm14z1 l Z a0 hw [] b101 y114 y115 y116 (16 : Int32) (p1 &&& (31 : Int32)) (0 : Int32) (own_upd (fun _ => (-1 : Int32)) (p1 &&& (31 : Int32)) (0 : Int32)) T161.heap n0 Y161  P162 ⟨(own_rng _).1, hs160⟩) e167 F163 0 (by decide) (by decide) (by decide) (by decide) (g := (mkF m 158 #[.val (.int p1), .val (.int p2), .val (.long q3), .second, .val (.long q4), .second, .val (.int p5), .val (.ref b101), .val (.int (1 : Int32)), .val (.int (p1 &&& (31 : Int32))), .val (.int (p2 &&& (31 : Int32))), .val (.int v123), .val (.int v124), .val (.int (1 : Int32)), .val (.int (own_min ((p5 >>> ((2 : Int32) &&& 31)) &&& (3 : Int32)) (1 : Int32)))] [(.ref b101)])) rfl (by rw [hml]; rfl) (argsL := []) (rest := []) (lenOf pd0_4 rfl) rfl rfl (by show 2 * 0 + _ ≤ _; exact Nat.le_of_eq rfl) (hb hby at_158)
          obtain ⟨rfl, N169q, K169q, P170⟩ := hQ169
          have N169 := Fr.app N167 N169q
          have F171 := F163.keep K169q
          have K169 := K161.trans K169q (allS (Or.inr v101) (allS (Or.inr (Nat.le_trans K101.1 P110)) (allS (Or.inr (Nat.le_trans K101.1 P111)) (allS (Or.inr (Nat.le_trans K101.1 P112)) all0))))
          have Y169 := Nat.le_trans Y161 K169q.1
          refine OwnEnd.go (fun _ k => st169 _ k) ?_
          show OwnEnd p e below s _ _ _ (T169.setTop (mkF m 161 #[.val (.int p1), .val (.int p2), .val (.long q3), .second, .val (.long q4), .second, .val (.int p5), .val (.ref b101), .val (.int (1 : Int32)), .val (.int (p1 &&& (31 : Int32))), .val (.int (p2 &&& (31 : Int32))), .val (.int v123), .val (.int v124), .val (.int (1 : Int32)), .val (.int (own_min ((p5 >>> ((2 : Int32) &&& 31)) &&& (3 : Int32)) (1 : Int32)))] [(.int (p1 &&& (31 : Int32)))]))
          refine OwnEnd.go (fun _ k => XS.pop X169.here hx rfl (hb hby at_161) rfl rfl k) ?_
          show OwnEnd p e below s _ _ _ (T169.setTop (mkF m 162 #[.val (.int p1), .val (.int p2), .val (.long q3), .second, .val (.long q4), .second, .val (.int p5), .val (.ref b101), .val (.int (1 : Int32)), .val (.int (p1 &&& (31 : Int32))), .val (.int (p2 &&& (31 : Int32))), .val (.int v123), .val (.int v124), .val (.int (1 : Int32)), .val (.int (own_min ((p5 >>> ((2 : Int32) &&& 31)) &&& (3 : Int32)) (1 : Int32)))] []))
          refine OwnEnd.go (fun _ k => XS.iload X169.here hx rfl (hb hby at_162) rfl  k) ?_
          show OwnEnd p e below s _ _ _ (T169.setTop (mkF m 164 #[.val (.int p1), .val (.int p2), .val (.long q3), .second, .val (.long q4), .second, .val (.int p5), .val (.ref b101), .val (.int (1 : Int32)), .val (.int (p1 &&& (31 : Int32))), .val (.int (p2 &&& (31 : Int32))), .val (.int v123), .val (.int v124), .val (.int (1 : Int32)), .val (.int (own_min ((p5 >>> ((2 : Int32) &&& 31)) &&& (3 : Int32)) (1 : Int32)))] [(.int (1 : Int32))]))
          refine OwnEnd.go (fun _ k => XS.ifNo X169.here hx rfl (hb hby at_164) rfl ((if0 _ _).trans (feq (by decide : ¬ (1 : Int32) = (0 : Int32))).1) k) ?_
          show OwnEnd p e below s _ _ _ (T169.setTop (mkF m 167 #[.val (.int p1), .val (.int p2), .val (.long q3), .second, .val (.long q4), .second, .val (.int p5), .val (.ref b101), .val (.int (1 : Int32)), .val (.int (p1 &&& (31 : Int32))), .val (.int (p2 &&& (31 : Int32))), .val (.int v123), .val (.int v124), .val (.int (1 : Int32)), .val (.int (own_min ((p5 >>> ((2 : Int32) &&& 31)) &&& (3 : Int32)) (1 : Int32)))] []))
          refine OwnEnd.go (fun _ k => XS.aload X169.here hx rfl (hb hby at_167) rfl rfl k) ?_
          show OwnEnd p e below s _ _ _ (T169.setTop (mkF m 169 #[.val (.int p1), .val (.int p2), .val (.long q3), .second, .val (.long q4), .second, .val (.int p5), .val (.ref b101), .val (.int (1 : Int32)), .val (.int (p1 &&& (31 : Int32))), .val (.int (p2 &&& (31 : Int32))), .val (.int v123), .val (.int v124), .val (.int (1 : Int32)), .val (.int (own_min ((p5 >>> ((2 : Int32) &&& 31)) &&& (3 : Int32)) (1 : Int32)))] [(.ref b101)]))
          obtain ⟨_, T173, L173, X173, hQ173, st173⟩ := ownCallV X169 hx hZ hown ww24 ww25 ww27 ww26 ww2 ww28 (by decide) (rm5z0 l Z a0 hw [] b101 y114 y115 y116 (16 : Int32) (p1 &&& (31 : Int32)) (0 : Int32) (own_upd (own_upd (fun _ => (-1 : Int32)) (p1 &&& (31 : Int32)) (0 : Int32)) (p1 &&& (31 : Int32)) (-1 : Int32)) T169.heap n0 Y169  P170) (rfl : T169.heap = T169.heap) F171 0 (by decide) (by decide) (by decide) (by decide) (g := (mkF m 169 #[.val (.int p1), .val (.int p2), .val (.long q3), .second, .val (.long q4), .second, .val (.int p5), .val (.ref b101), .val (.int (1 : Int32)), .val (.int (p1 &&& (31 : Int32))), .val (.int (p2 &&& (31 : Int32))), .val (.int v123), .val (.int v124), .val (.int (1 : Int32)), .val (.int (own_min ((p5 >>> ((2 : Int32) &&& 31)) &&& (3 : Int32)) (1 : Int32)))] [(.ref b101)])) rfl (by rw [hml]; rfl) (argsL := []) (rest := []) (lenOf pd0_1 rfl) rfl rfl (by show 2 * 0 + _ ≤ _; exact Nat.le_of_eq rfl) (hb hby at_169)
          obtain ⟨rfl, N173q, e173⟩ := hQ173
          have N173 := Fr.app N169 N173q
          refine OwnEnd.go (fun _ k => st173 _ k) ?_
          show OwnEnd p e below s _ _ _ (T173.setTop (mkF m 172 #[.val (.int p1), .val (.int p2), .val (.long q3), .second, .val (.long q4), .second, .val (.int p5), .val (.ref b101), .val (.int (1 : Int32)), .val (.int (p1 &&& (31 : Int32))), .val (.int (p2 &&& (31 : Int32))), .val (.int v123), .val (.int v124), .val (.int (1 : Int32)), .val (.int (own_min ((p5 >>> ((2 : Int32) &&& 31)) &&& (3 : Int32)) (1 : Int32)))] [(.int (1 : Int32))]))
          refine OwnEnd.go (fun _ k => XS.iload X173.here hx rfl (hb hby at_172) rfl  k) ?_
          show OwnEnd p e below s _ _ _ (T173.setTop (mkF m 174 #[.val (.int p1), .val (.int p2), .val (.long q3), .second, .val (.long q4), .second, .val (.int p5), .val (.ref b101), .val (.int (1 : Int32)), .val (.int (p1 &&& (31 : Int32))), .val (.int (p2 &&& (31 : Int32))), .val (.int v123), .val (.int v124), .val (.int (1 : Int32)), .val (.int (own_min ((p5 >>> ((2 : Int32) &&& 31)) &&& (3 : Int32)) (1 : Int32)))] [(.int (1 : Int32)), (.int (1 : Int32))]))
          refine OwnEnd.go (fun _ k => XS.iconst X173.here hx rfl (hb hby at_174) k) ?_
          show OwnEnd p e below s _ _ _ (T173.setTop (mkF m 175 #[.val (.int p1), .val (.int p2), .val (.long q3), .second, .val (.long q4), .second, .val (.int p5), .val (.ref b101), .val (.int (1 : Int32)), .val (.int (p1 &&& (31 : Int32))), .val (.int (p2 &&& (31 : Int32))), .val (.int v123), .val (.int v124), .val (.int (1 : Int32)), .val (.int (own_min ((p5 >>> ((2 : Int32) &&& 31)) &&& (3 : Int32)) (1 : Int32)))] [(.int (1 : Int32)), (.int (1 : Int32)), (.int (1 : Int32))]))
          refine OwnEnd.go (fun _ k => XS.icmpNo X173.here hx rfl (hb hby at_175) rfl (teq (by decide : (1 : Int32) = (1 : Int32))).2 k) ?_
          show OwnEnd p e below s _ _ _ (T173.setTop (mkF m 178 #[.val (.int p1), .val (.int p2), .val (.long q3), .second, .val (.long q4), .second, .val (.int p5), .val (.ref b101), .val (.int (1 : Int32)), .val (.int (p1 &&& (31 : Int32))), .val (.int (p2 &&& (31 : Int32))), .val (.int v123), .val (.int v124), .val (.int (1 : Int32)), .val (.int (own_min ((p5 >>> ((2 : Int32) &&& 31)) &&& (3 : Int32)) (1 : Int32)))] [(.int (1 : Int32))]))
          refine OwnEnd.go (fun _ k => XS.iconst X173.here hx rfl (hb hby at_178) k) ?_
          show OwnEnd p e below s _ _ _ (T173.setTop (mkF m 179 #[.val (.int p1), .val (.int p2), .val (.long q3), .second, .val (.long q4), .second, .val (.int p5), .val (.ref b101), .val (.int (1 : Int32)), .val (.int (p1 &&& (31 : Int32))), .val (.int (p2 &&& (31 : Int32))), .val (.int v123), .val (.int v124), .val (.int (1 : Int32)), .val (.int (own_min ((p5 >>> ((2 : Int32) &&& 31)) &&& (3 : Int32)) (1 : Int32)))] [(.int (1 : Int32)), (.int (1 : Int32))]))
          refine OwnEnd.go (fun _ k => XS.goto X173.here hx rfl (pc0 := 179) (pc' := 183) rfl (hb hby at_179) (by decide) (by decide) k) ?_
          show OwnEnd p e below s _ _ _ (T173.setTop (mkF m 183 #[.val (.int p1), .val (.int p2), .val (.long q3), .second, .val (.long q4), .second, .val (.int p5), .val (.ref b101), .val (.int (1 : Int32)), .val (.int (p1 &&& (31 : Int32))), .val (.int (p2 &&& (31 : Int32))), .val (.int v123), .val (.int v124), .val (.int (1 : Int32)), .val (.int (own_min ((p5 >>> ((2 : Int32) &&& 31)) &&& (3 : Int32)) (1 : Int32)))] [(.int (1 : Int32)), (.int (1 : Int32))]))
          refine OwnEnd.go (fun _ k => XS.icmpNo X173.here hx rfl (hb hby at_183) rfl (teq (by decide : (1 : Int32) = (1 : Int32))).2 k) ?_
          show OwnEnd p e below s _ _ _ (T173.setTop (mkF m 186 #[.val (.int p1), .val (.int p2), .val (.long q3), .second, .val (.long q4), .second, .val (.int p5), .val (.ref b101), .val (.int (1 : Int32)), .val (.int (p1 &&& (31 : Int32))), .val (.int (p2 &&& (31 : Int32))), .val (.int v123), .val (.int v124), .val (.int (1 : Int32)), .val (.int (own_min ((p5 >>> ((2 : Int32) &&& 31)) &&& (3 : Int32)) (1 : Int32)))] []))
          refine OwnEnd.go (fun _ k => XS.iconst X173.here hx rfl (hb hby at_186) k) ?_
          show OwnEnd p e below s _ _ _ (T173.setTop (mkF m 187 #[.val (.int p1), .val (.int p2), .val (.long q3), .second, .val (.long q4), .second, .val (.int p5), .val (.ref b101), .val (.int (1 : Int32)), .val (.int (p1 &&& (31 : Int32))), .val (.int (p2 &&& (31 : Int32))), .val (.int v123), .val (.int v124), .val (.int (1 : Int32)), .val (.int (own_min ((p5 >>> ((2 : Int32) &&& 31)) &&& (3 : Int32)) (1 : Int32)))] [(.int (1 : Int32))]))
          refine OwnEnd.go (fun _ k => XS.goto X173.here hx rfl (pc0 := 187) (pc' := 191) rfl (hb hby at_187) (by decide) (by decide) k) ?_
          show OwnEnd p e below s _ _ _ (T173.setTop (mkF m 191 #[.val (.int p1), .val (.int p2), .val (.long q3), .second, .val (.long q4), .second, .val (.int p5), .val (.ref b101), .val (.int (1 : Int32)), .val (.int (p1 &&& (31 : Int32))), .val (.int (p2 &&& (31 : Int32))), .val (.int v123), .val (.int v124), .val (.int (1 : Int32)), .val (.int (own_min ((p5 >>> ((2 : Int32) &&& 31)) &&& (3 : Int32)) (1 : Int32)))] [(.int (1 : Int32))]))
          refine OwnEnd.go (fun _ k => XS.istore X173.here hx rfl (hb hby at_191) rfl  (l' := #[.val (.int p1), .val (.int p2), .val (.long q3), .second, .val (.long q4), .second, .val (.int p5), .val (.ref b101), .val (.int (1 : Int32)), .val (.int (p1 &&& (31 : Int32))), .val (.int (p2 &&& (31 : Int32))), .val (.int v123), .val (.int v124), .val (.int (1 : Int32)), .val (.int (own_min ((p5 >>> ((2 : Int32) &&& 31)) &&& (3 : Int32)) (1 : Int32)))]) rfl k) ?_
          show OwnEnd p e below s _ _ _ (T173.setTop (mkF m 193 #[.val (.int p1), .val (.int p2), .val (.long q3), .second, .val (.long q4), .second, .val (.int p5), .val (.ref b101), .val (.int (1 : Int32)), .val (.int (p1 &&& (31 : Int32))), .val (.int (p2 &&& (31 : Int32))), .val (.int v123), .val (.int v124), .val (.int (1 : Int32)), .val (.int (own_min ((p5 >>> ((2 : Int32) &&& 31)) &&& (3 : Int32)) (1 : Int32)))] []))
          refine OwnEnd.go (fun _ k => XS.iload X173.here hx rfl (hb hby at_193) rfl  k) ?_
          show OwnEnd p e below s _ _ _ (T173.setTop (mkF m 195 #[.val (.int p1), .val (.int p2), .val (.long q3), .second, .val (.long q4), .second, .val (.int p5), .val (.ref b101), .val (.int (1 : Int32)), .val (.int (p1 &&& (31 : Int32))), .val (.int (p2 &&& (31 : Int32))), .val (.int v123), .val (.int v124), .val (.int (1 : Int32)), .val (.int (own_min ((p5 >>> ((2 : Int32) &&& 31)) &&& (3 : Int32)) (1 : Int32)))] [(.int (own_min ((p5 >>> ((2 : Int32) &&& 31)) &&& (3 : Int32)) (1 : Int32)))]))
          refine OwnEnd.go (fun _ k => XS.iconst X173.here hx rfl (hb hby at_195) k) ?_
          show OwnEnd p e below s _ _ _ (T173.setTop (mkF m 196 #[.val (.int p1), .val (.int p2), .val (.long q3), .second, .val (.long q4), .second, .val (.int p5), .val (.ref b101), .val (.int (1 : Int32)), .val (.int (p1 &&& (31 : Int32))), .val (.int (p2 &&& (31 : Int32))), .val (.int v123), .val (.int v124), .val (.int (1 : Int32)), .val (.int (own_min ((p5 >>> ((2 : Int32) &&& 31)) &&& (3 : Int32)) (1 : Int32)))] [(.int (2 : Int32)), (.int (own_min ((p5 >>> ((2 : Int32) &&& 31)) &&& (3 : Int32)) (1 : Int32)))]))
          refine OwnEnd.go (fun _ k => XS.icmpYes X173.here hx rfl (pc0 := 196) (pc' := 225) rfl (hb hby at_196) rfl (tlt (own_min1 _)).1 (by decide) (by decide) k) ?_
          show OwnEnd p e below s _ _ _ (T173.setTop (mkF m 225 #[.val (.int p1), .val (.int p2), .val (.long q3), .second, .val (.long q4), .second, .val (.int p5), .val (.ref b101), .val (.int (1 : Int32)), .val (.int (p1 &&& (31 : Int32))), .val (.int (p2 &&& (31 : Int32))), .val (.int v123), .val (.int v124), .val (.int (1 : Int32)), .val (.int (own_min ((p5 >>> ((2 : Int32) &&& 31)) &&& (3 : Int32)) (1 : Int32)))] []))
          refine OwnEnd.go (fun _ k => XS.iload X173.here hx rfl (hb hby at_225) rfl  k) ?_
          show OwnEnd p e below s _ _ _ (T173.setTop (mkF m 227 #[.val (.int p1), .val (.int p2), .val (.long q3), .second, .val (.long q4), .second, .val (.int p5), .val (.ref b101), .val (.int (1 : Int32)), .val (.int (p1 &&& (31 : Int32))), .val (.int (p2 &&& (31 : Int32))), .val (.int v123), .val (.int v124), .val (.int (1 : Int32)), .val (.int (own_min ((p5 >>> ((2 : Int32) &&& 31)) &&& (3 : Int32)) (1 : Int32)))] [(.int (1 : Int32))]))
          refine ownRetZ X173 hx hlk hret (hb hby at_227) (by decide) (by decide) (1 : Int32) (by decide) ?_
          show Q0 Z p1 p2 q3 q4 p5 h0 n0 _ T173.heap _
          rw [e173]
          exact ⟨rfl, N173⟩
      · refine OwnEnd.go (fun _ k => XS.ifNo X161.here hx rfl (hb hby at_77) rfl ((if0 _ _).trans (feq hc165).1) k) ?_
        show OwnEnd p e below s _ _ _ (T161.setTop (mkF m 80 #[.val (.int p1), .val (.int p2), .val (.long q3), .second, .val (.long q4), .second, .val (.int p5), .val (.ref b101), .val (.int (1 : Int32)), .val (.int (p1 &&& (31 : Int32))), .val (.int (p2 &&& (31 : Int32))), .val (.int v123), .val (.int v124), .val (.int (1 : Int32)), .unset] []))
        by_cases hs174 : (p2 &&& (31 : Int32)) = (p1 &&& (31 : Int32))
        · show OwnEnd p e below s _ _ _ (T161.setTop (mkF m 80 #[.val (.int p1), .val (.int p2), .val (.long q3), .second, .val (.long q4), .second, .val (.int p5), .val (.ref b101), .val (.int (1 : Int32)), .val (.int (p1 &&& (31 : Int32))), .val (.int (p2 &&& (31 : Int32))), .val (.int v123), .val (.int v124), .val (.int (1 : Int32)), .unset] []))
          refine OwnEnd.go (fun _ k => XS.aload X161.here hx rfl (hb hby at_80) rfl rfl k) ?_
          show OwnEnd p e below s _ _ _ (T161.setTop (mkF m 82 #[.val (.int p1), .val (.int p2), .val (.long q3), .second, .val (.long q4), .second, .val (.int p5), .val (.ref b101), .val (.int (1 : Int32)), .val (.int (p1 &&& (31 : Int32))), .val (.int (p2 &&& (31 : Int32))), .val (.int v123), .val (.int v124), .val (.int (1 : Int32)), .unset] [(.ref b101)]))
          refine OwnEnd.go (fun _ k => XS.iload X161.here hx rfl (hb hby at_82) rfl  k) ?_
          show OwnEnd p e below s _ _ _ (T161.setTop (mkF m 84 #[.val (.int p1), .val (.int p2), .val (.long q3), .second, .val (.long q4), .second, .val (.int p5), .val (.ref b101), .val (.int (1 : Int32)), .val (.int (p1 &&& (31 : Int32))), .val (.int (p2 &&& (31 : Int32))), .val (.int v123), .val (.int v124), .val (.int (1 : Int32)), .unset] [(.int (p2 &&& (31 : Int32))), (.ref b101)]))
          refine OwnEnd.go (fun _ k => XS.lload X161.here hx rfl (hb hby at_84) rfl  k) ?_
          show OwnEnd p e below s _ _ _ (T161.setTop (mkF m 86 #[.val (.int p1), .val (.int p2), .val (.long q3), .second, .val (.long q4), .second, .val (.int p5), .val (.ref b101), .val (.int (1 : Int32)), .val (.int (p1 &&& (31 : Int32))), .val (.int (p2 &&& (31 : Int32))), .val (.int v123), .val (.int v124), .val (.int (1 : Int32)), .unset] [(.long q4), (.int (p2 &&& (31 : Int32))), (.ref b101)]))
          obtain ⟨_, T175, L175, X175, hQ175, st175⟩ := ownCallV X161 hx hZ hown ww31 ww32 ww34 ww33 ww2 ww35 (by decide) (rm6s1c16s l Z a0 hw [] b101 (p2 &&& (31 : Int32)) q4 y114 y115 y116 (p1 &&& (31 : Int32)) (0 : Int32) (own_upd (fun _ => (-1 : Int32)) (p1 &&& (31 : Int32)) (0 : Int32)) T161.heap n0 Y161  P162 ⟨(own_rng _).1, by rw [hs174]; exact hs160⟩ (by rw [hs174]; exact own_upd_eq _ _ _) ⟨(own_rng _).1, hs160⟩) (rfl : T161.heap = T161.heap) F163 0 (by decide) (by decide) (by decide) (by decide) (g := (mkF m 86 #[.val (.int p1), .val (.int p2), .val (.long q3), .second, .val (.long q4), .second, .val (.int p5), .val (.ref b101), .val (.int (1 : Int32)), .val (.int (p1 &&& (31 : Int32))), .val (.int (p2 &&& (31 : Int32))), .val (.int v123), .val (.int v124), .val (.int (1 : Int32)), .unset] [(.long q4), (.int (p2 &&& (31 : Int32))), (.ref b101)])) rfl (by rw [hml]; rfl) (argsL := [(.int (p2 &&& (31 : Int32))), (.long q4)]) (rest := []) (lenOf pd0_3 rfl) rfl rfl (by show 2 * 0 + _ ≤ _; exact Nat.le_of_eq rfl) (hb hby at_86)
          obtain ⟨y178, y179, hQ175⟩ := hQ175
          obtain ⟨rfl, N175q, K175q, P176, P177⟩ := hQ175
          have N175 := Fr.app N161 N175q
          have F180 := F163.keep K175q
          have K175 := K161.trans K175q (allS (Or.inr v101) (allS (Or.inr (Nat.le_trans K101.1 P110)) (allS (Or.inr (Nat.le_trans K101.1 P111)) (allS (Or.inr (Nat.le_trans K101.1 P112)) all0))))
          have Y175 := Nat.le_trans Y161 K175q.1
          refine OwnEnd.go (fun _ k => st175 _ k) ?_
          show OwnEnd p e below s _ _ _ (T175.setTop (mkF m 89 #[.val (.int p1), .val (.int p2), .val (.long q3), .second, .val (.long q4), .second, .val (.int p5), .val (.ref b101), .val (.int (1 : Int32)), .val (.int (p1 &&& (31 : Int32))), .val (.int (p2 &&& (31 : Int32))), .val (.int v123), .val (.int v124), .val (.int (1 : Int32)), .unset] []))
          refine OwnEnd.go (fun _ k => XS.iload X175.here hx rfl (hb hby at_89) rfl  k) ?_
          show OwnEnd p e below s _ _ _ (T175.setTop (mkF m 91 #[.val (.int p1), .val (.int p2), .val (.long q3), .second, .val (.long q4), .second, .val (.int p5), .val (.ref b101), .val (.int (1 : Int32)), .val (.int (p1 &&& (31 : Int32))), .val (.int (p2 &&& (31 : Int32))), .val (.int v123), .val (.int v124), .val (.int (1 : Int32)), .unset] [(.int v123)]))
          refine OwnEnd.go (fun _ k => XS.ifNo X175.here hx rfl (hb hby at_91) rfl ((if0 _ _).trans (feq hc125).1) k) ?_
          show OwnEnd p e below s _ _ _ (T175.setTop (mkF m 94 #[.val (.int p1), .val (.int p2), .val (.long q3), .second, .val (.long q4), .second, .val (.int p5), .val (.ref b101), .val (.int (1 : Int32)), .val (.int (p1 &&& (31 : Int32))), .val (.int (p2 &&& (31 : Int32))), .val (.int v123), .val (.int v124), .val (.int (1 : Int32)), .unset] []))
          refine OwnEnd.go (fun _ k => XS.iload X175.here hx rfl (hb hby at_94) rfl  k) ?_
          show OwnEnd p e below s _ _ _ (T175.setTop (mkF m 96 #[.val (.int p1), .val (.int p2), .val (.long q3), .second, .val (.long q4), .second, .val (.int p5), .val (.ref b101), .val (.int (1 : Int32)), .val (.int (p1 &&& (31 : Int32))), .val (.int (p2 &&& (31 : Int32))), .val (.int v123), .val (.int v124), .val (.int (1 : Int32)), .unset] [(.int (p2 &&& (31 : Int32)))]))
          refine OwnEnd.go (fun _ k => XS.iload X175.here hx rfl (hb hby at_96) rfl  k) ?_
          show OwnEnd p e below s _ _ _ (T175.setTop (mkF m 98 #[.val (.int p1), .val (.int p2), .val (.long q3), .second, .val (.long q4), .second, .val (.int p5), .val (.ref b101), .val (.int (1 : Int32)), .val (.int (p1 &&& (31 : Int32))), .val (.int (p2 &&& (31 : Int32))), .val (.int v123), .val (.int v124), .val (.int (1 : Int32)), .unset] [(.int (p1 &&& (31 : Int32))), (.int (p2 &&& (31 : Int32)))]))
          refine OwnEnd.go (fun _ k => XS.icmpYes X175.here hx rfl (pc0 := 98) (pc' := 107) rfl (hb hby at_98) rfl (teq hs174).1 (by decide) (by decide) k) ?_
          show OwnEnd p e below s _ _ _ (T175.setTop (mkF m 107 #[.val (.int p1), .val (.int p2), .val (.long q3), .second, .val (.long q4), .second, .val (.int p5), .val (.ref b101), .val (.int (1 : Int32)), .val (.int (p1 &&& (31 : Int32))), .val (.int (p2 &&& (31 : Int32))), .val (.int v123), .val (.int v124), .val (.int (1 : Int32)), .unset] []))
          refine OwnEnd.go (fun _ k => XS.iload X175.here hx rfl (hb hby at_107) rfl  k) ?_
          show OwnEnd p e below s _ _ _ (T175.setTop (mkF m 109 #[.val (.int p1), .val (.int p2), .val (.long q3), .second, .val (.long q4), .second, .val (.int p5), .val (.ref b101), .val (.int (1 : Int32)), .val (.int (p1 &&& (31 : Int32))), .val (.int (p2 &&& (31 : Int32))), .val (.int v123), .val (.int v124), .val (.int (1 : Int32)), .unset] [(.int (1 : Int32))]))
          refine OwnEnd.go (fun _ k => XS.ifNo X175.here hx rfl (hb hby at_109) rfl ((if0 _ _).trans (feq (by decide : ¬ (1 : Int32) = (0 : Int32))).1) k) ?_
          show OwnEnd p e below s _ _ _ (T175.setTop (mkF m 112 #[.val (.int p1), .val (.int p2), .val (.long q3), .second, .val (.long q4), .second, .val (.int p5), .val (.ref b101), .val (.int (1 : Int32)), .val (.int (p1 &&& (31 : Int32))), .val (.int (p2 &&& (31 : Int32))), .val (.int v123), .val (.int v124), .val (.int (1 : Int32)), .unset] []))
          refine OwnEnd.go (fun _ k => XS.aload X175.here hx rfl (hb hby at_112) rfl rfl k) ?_
          show OwnEnd p e below s _ _ _ (T175.setTop (mkF m 114 #[.val (.int p1), .val (.int p2), .val (.long q3), .second, .val (.long q4), .second, .val (.int p5), .val (.ref b101), .val (.int (1 : Int32)), .val (.int (p1 &&& (31 : Int32))), .val (.int (p2 &&& (31 : Int32))), .val (.int v123), .val (.int v124), .val (.int (1 : Int32)), .unset] [(.ref b101)]))
          obtain ⟨_, T182, L182, X182, hQ182, st182⟩ := ownCallV X175 hx hZ hown ww24 ww25 ww27 ww26 ww2 ww28 (by decide) (rm5z1 l Z a0 hw [] b101 y114 y115 y116 (16 : Int32) y178 (0 : Int32) y179 T175.heap n0 Y175  P176) (rfl : T175.heap = T175.heap) F180 0 (by decide) (by decide) (by decide) (by decide) (g := (mkF m 114 #[.val (.int p1), .val (.int p2), .val (.long q3), .second, .val (.long q4), .second, .val (.int p5), .val (.ref b101), .val (.int (1 : Int32)), .val (.int (p1 &&& (31 : Int32))), .val (.int (p2 &&& (31 : Int32))), .val (.int v123), .val (.int v124), .val (.int (1 : Int32)), .unset] [(.ref b101)])) rfl (by rw [hml]; rfl) (argsL := []) (rest := []) (lenOf pd0_1 rfl) rfl rfl (by show 2 * 0 + _ ≤ _; exact Nat.le_of_eq rfl) (hb hby at_114)
          obtain ⟨rfl, N182q, e182⟩ := hQ182
          have N182 := Fr.app N175 N182q
          refine OwnEnd.go (fun _ k => st182 _ k) ?_
          show OwnEnd p e below s _ _ _ (T182.setTop (mkF m 117 #[.val (.int p1), .val (.int p2), .val (.long q3), .second, .val (.long q4), .second, .val (.int p5), .val (.ref b101), .val (.int (1 : Int32)), .val (.int (p1 &&& (31 : Int32))), .val (.int (p2 &&& (31 : Int32))), .val (.int v123), .val (.int v124), .val (.int (1 : Int32)), .unset] [(.int (0 : Int32))]))
          refine OwnEnd.go (fun _ k => XS.iload X182.here hx rfl (hb hby at_117) rfl  k) ?_
          show OwnEnd p e below s _ _ _ (T182.setTop (mkF m 119 #[.val (.int p1), .val (.int p2), .val (.long q3), .second, .val (.long q4), .second, .val (.int p5), .val (.ref b101), .val (.int (1 : Int32)), .val (.int (p1 &&& (31 : Int32))), .val (.int (p2 &&& (31 : Int32))), .val (.int v123), .val (.int v124), .val (.int (1 : Int32)), .unset] [(.int (1 : Int32)), (.int (0 : Int32))]))
          refine OwnEnd.go (fun _ k => XS.ifYes X182.here hx rfl (pc0 := 119) (pc' := 126) rfl (hb hby at_119) rfl ((if0 _ _).trans (feq (by decide : ¬ (1 : Int32) = (0 : Int32))).2) (by decide) (by decide) k) ?_
          show OwnEnd p e below s _ _ _ (T182.setTop (mkF m 126 #[.val (.int p1), .val (.int p2), .val (.long q3), .second, .val (.long q4), .second, .val (.int p5), .val (.ref b101), .val (.int (1 : Int32)), .val (.int (p1 &&& (31 : Int32))), .val (.int (p2 &&& (31 : Int32))), .val (.int v123), .val (.int v124), .val (.int (1 : Int32)), .unset] [(.int (0 : Int32))]))
          refine OwnEnd.go (fun _ k => XS.iconst X182.here hx rfl (hb hby at_126) k) ?_
          show OwnEnd p e below s _ _ _ (T182.setTop (mkF m 127 #[.val (.int p1), .val (.int p2), .val (.long q3), .second, .val (.long q4), .second, .val (.int p5), .val (.ref b101), .val (.int (1 : Int32)), .val (.int (p1 &&& (31 : Int32))), .val (.int (p2 &&& (31 : Int32))), .val (.int v123), .val (.int v124), .val (.int (1 : Int32)), .unset] [(.int (0 : Int32)), (.int (0 : Int32))]))
          refine OwnEnd.go (fun _ k => XS.icmpNo X182.here hx rfl (hb hby at_127) rfl (teq (by decide : (0 : Int32) = (0 : Int32))).2 k) ?_
          show OwnEnd p e below s _ _ _ (T182.setTop (mkF m 130 #[.val (.int p1), .val (.int p2), .val (.long q3), .second, .val (.long q4), .second, .val (.int p5), .val (.ref b101), .val (.int (1 : Int32)), .val (.int (p1 &&& (31 : Int32))), .val (.int (p2 &&& (31 : Int32))), .val (.int v123), .val (.int v124), .val (.int (1 : Int32)), .unset] []))
          refine OwnEnd.go (fun _ k => XS.iconst X182.here hx rfl (hb hby at_130) k) ?_
          show OwnEnd p e below s _ _ _ (T182.setTop (mkF m 131 #[.val (.int p1), .val (.int p2), .val (.long q3), .second, .val (.long q4), .second, .val (.int p5), .val (.ref b101), .val (.int (1 : Int32)), .val (.int (p1 &&& (31 : Int32))), .val (.int (p2 &&& (31 : Int32))), .val (.int v123), .val (.int v124), .val (.int (1 : Int32)), .unset] [(.int (1 : Int32))]))
          refine OwnEnd.go (fun _ k => XS.goto X182.here hx rfl (pc0 := 131) (pc' := 135) rfl (hb hby at_131) (by decide) (by decide) k) ?_
          show OwnEnd p e below s _ _ _ (T182.setTop (mkF m 135 #[.val (.int p1), .val (.int p2), .val (.long q3), .second, .val (.long q4), .second, .val (.int p5), .val (.ref b101), .val (.int (1 : Int32)), .val (.int (p1 &&& (31 : Int32))), .val (.int (p2 &&& (31 : Int32))), .val (.int v123), .val (.int v124), .val (.int (1 : Int32)), .unset] [(.int (1 : Int32))]))
          refine OwnEnd.go (fun _ k => XS.istore X182.here hx rfl (hb hby at_135) rfl  (l' := #[.val (.int p1), .val (.int p2), .val (.long q3), .second, .val (.long q4), .second, .val (.int p5), .val (.ref b101), .val (.int (1 : Int32)), .val (.int (p1 &&& (31 : Int32))), .val (.int (p2 &&& (31 : Int32))), .val (.int v123), .val (.int v124), .val (.int (1 : Int32)), .unset]) rfl k) ?_
          show OwnEnd p e below s _ _ _ (T182.setTop (mkF m 137 #[.val (.int p1), .val (.int p2), .val (.long q3), .second, .val (.long q4), .second, .val (.int p5), .val (.ref b101), .val (.int (1 : Int32)), .val (.int (p1 &&& (31 : Int32))), .val (.int (p2 &&& (31 : Int32))), .val (.int v123), .val (.int v124), .val (.int (1 : Int32)), .unset] []))
          refine OwnEnd.go (fun _ k => XS.iload X182.here hx rfl (hb hby at_137) rfl  k) ?_
          show OwnEnd p e below s _ _ _ (T182.setTop (mkF m 139 #[.val (.int p1), .val (.int p2), .val (.long q3), .second, .val (.long q4), .second, .val (.int p5), .val (.ref b101), .val (.int (1 : Int32)), .val (.int (p1 &&& (31 : Int32))), .val (.int (p2 &&& (31 : Int32))), .val (.int v123), .val (.int v124), .val (.int (1 : Int32)), .unset] [(.int p5)]))
          refine OwnEnd.go (fun _ k => XS.iconst X182.here hx rfl (hb hby at_139) k) ?_
          show OwnEnd p e below s _ _ _ (T182.setTop (mkF m 140 #[.val (.int p1), .val (.int p2), .val (.long q3), .second, .val (.long q4), .second, .val (.int p5), .val (.ref b101), .val (.int (1 : Int32)), .val (.int (p1 &&& (31 : Int32))), .val (.int (p2 &&& (31 : Int32))), .val (.int v123), .val (.int v124), .val (.int (1 : Int32)), .unset] [(.int (2 : Int32)), (.int p5)]))
          refine OwnEnd.go (fun _ k => XS.ishr X182.here hx rfl (hb hby at_140) rfl k) ?_
          show OwnEnd p e below s _ _ _ (T182.setTop (mkF m 141 #[.val (.int p1), .val (.int p2), .val (.long q3), .second, .val (.long q4), .second, .val (.int p5), .val (.ref b101), .val (.int (1 : Int32)), .val (.int (p1 &&& (31 : Int32))), .val (.int (p2 &&& (31 : Int32))), .val (.int v123), .val (.int v124), .val (.int (1 : Int32)), .unset] [(.int (p5 >>> ((2 : Int32) &&& 31)))]))
          refine OwnEnd.go (fun _ k => XS.iconst X182.here hx rfl (hb hby at_141) k) ?_
          show OwnEnd p e below s _ _ _ (T182.setTop (mkF m 142 #[.val (.int p1), .val (.int p2), .val (.long q3), .second, .val (.long q4), .second, .val (.int p5), .val (.ref b101), .val (.int (1 : Int32)), .val (.int (p1 &&& (31 : Int32))), .val (.int (p2 &&& (31 : Int32))), .val (.int v123), .val (.int v124), .val (.int (1 : Int32)), .unset] [(.int (3 : Int32)), (.int (p5 >>> ((2 : Int32) &&& 31)))]))
          refine OwnEnd.go (fun _ k => XS.iand X182.here hx rfl (hb hby at_142) rfl k) ?_
          show OwnEnd p e below s _ _ _ (T182.setTop (mkF m 143 #[.val (.int p1), .val (.int p2), .val (.long q3), .second, .val (.long q4), .second, .val (.int p5), .val (.ref b101), .val (.int (1 : Int32)), .val (.int (p1 &&& (31 : Int32))), .val (.int (p2 &&& (31 : Int32))), .val (.int v123), .val (.int v124), .val (.int (1 : Int32)), .unset] [(.int ((p5 >>> ((2 : Int32) &&& 31)) &&& (3 : Int32)))]))
          refine OwnEnd.go (fun _ k => XS.iload X182.here hx rfl (hb hby at_143) rfl  k) ?_
          show OwnEnd p e below s _ _ _ (T182.setTop (mkF m 145 #[.val (.int p1), .val (.int p2), .val (.long q3), .second, .val (.long q4), .second, .val (.int p5), .val (.ref b101), .val (.int (1 : Int32)), .val (.int (p1 &&& (31 : Int32))), .val (.int (p2 &&& (31 : Int32))), .val (.int v123), .val (.int v124), .val (.int (1 : Int32)), .unset] [(.int (1 : Int32)), (.int ((p5 >>> ((2 : Int32) &&& 31)) &&& (3 : Int32)))]))
          obtain ⟨_, T183, L183, X183, hQ183, st183⟩ := ownCallS X182 hx hZ hown ww44 ww45 ww46 ww47 (by decide) (rm9 l Z a0 hw [] ((p5 >>> ((2 : Int32) &&& 31)) &&& (3 : Int32)) (1 : Int32) T175.heap n0 Y175  ) e182 0 (by decide) (by decide) (by decide) (by decide) (g := (mkF m 145 #[.val (.int p1), .val (.int p2), .val (.long q3), .second, .val (.long q4), .second, .val (.int p5), .val (.ref b101), .val (.int (1 : Int32)), .val (.int (p1 &&& (31 : Int32))), .val (.int (p2 &&& (31 : Int32))), .val (.int v123), .val (.int v124), .val (.int (1 : Int32)), .unset] [(.int (1 : Int32)), (.int ((p5 >>> ((2 : Int32) &&& 31)) &&& (3 : Int32)))])) rfl (by rw [hml]; rfl) (argsL := [(.int ((p5 >>> ((2 : Int32) &&& 31)) &&& (3 : Int32))), (.int (1 : Int32))]) (rest := []) (lenOf pd0_2 rfl) rfl rfl (by show 2 * 0 + _ ≤ _; exact Nat.le_of_eq rfl) (hb hby at_145)
          obtain ⟨rfl, N183q, e183⟩ := hQ183
          have N183 := Fr.app N182 N183q
          refine OwnEnd.go (fun _ k => st183 _ k) ?_
          show OwnEnd p e below s _ _ _ (T183.setTop (mkF m 148 #[.val (.int p1), .val (.int p2), .val (.long q3), .second, .val (.long q4), .second, .val (.int p5), .val (.ref b101), .val (.int (1 : Int32)), .val (.int (p1 &&& (31 : Int32))), .val (.int (p2 &&& (31 : Int32))), .val (.int v123), .val (.int v124), .val (.int (1 : Int32)), .unset] [(.int (own_min ((p5 >>> ((2 : Int32) &&& 31)) &&& (3 : Int32)) (1 : Int32)))]))
          refine OwnEnd.go (fun _ k => XS.istore X183.here hx rfl (hb hby at_148) rfl  (l' := #[.val (.int p1), .val (.int p2), .val (.long q3), .second, .val (.long q4), .second, .val (.int p5), .val (.ref b101), .val (.int (1 : Int32)), .val (.int (p1 &&& (31 : Int32))), .val (.int (p2 &&& (31 : Int32))), .val (.int v123), .val (.int v124), .val (.int (1 : Int32)), .val (.int (own_min ((p5 >>> ((2 : Int32) &&& 31)) &&& (3 : Int32)) (1 : Int32)))]) rfl k) ?_
          show OwnEnd p e below s _ _ _ (T183.setTop (mkF m 150 #[.val (.int p1), .val (.int p2), .val (.long q3), .second, .val (.long q4), .second, .val (.int p5), .val (.ref b101), .val (.int (1 : Int32)), .val (.int (p1 &&& (31 : Int32))), .val (.int (p2 &&& (31 : Int32))), .val (.int v123), .val (.int v124), .val (.int (1 : Int32)), .val (.int (own_min ((p5 >>> ((2 : Int32) &&& 31)) &&& (3 : Int32)) (1 : Int32)))] []))
          refine OwnEnd.go (fun _ k => XS.iload X183.here hx rfl (hb hby at_150) rfl  k) ?_
          show OwnEnd p e below s _ _ _ (T183.setTop (mkF m 152 #[.val (.int p1), .val (.int p2), .val (.long q3), .second, .val (.long q4), .second, .val (.int p5), .val (.ref b101), .val (.int (1 : Int32)), .val (.int (p1 &&& (31 : Int32))), .val (.int (p2 &&& (31 : Int32))), .val (.int v123), .val (.int v124), .val (.int (1 : Int32)), .val (.int (own_min ((p5 >>> ((2 : Int32) &&& 31)) &&& (3 : Int32)) (1 : Int32)))] [(.int (own_min ((p5 >>> ((2 : Int32) &&& 31)) &&& (3 : Int32)) (1 : Int32)))]))
          refine OwnEnd.go (fun _ k => XS.iconst X183.here hx rfl (hb hby at_152) k) ?_
          show OwnEnd p e below s _ _ _ (T183.setTop (mkF m 153 #[.val (.int p1), .val (.int p2), .val (.long q3), .second, .val (.long q4), .second, .val (.int p5), .val (.ref b101), .val (.int (1 : Int32)), .val (.int (p1 &&& (31 : Int32))), .val (.int (p2 &&& (31 : Int32))), .val (.int v123), .val (.int v124), .val (.int (1 : Int32)), .val (.int (own_min ((p5 >>> ((2 : Int32) &&& 31)) &&& (3 : Int32)) (1 : Int32)))] [(.int (1 : Int32)), (.int (own_min ((p5 >>> ((2 : Int32) &&& 31)) &&& (3 : Int32)) (1 : Int32)))]))
          by_cases hc184 : (own_min ((p5 >>> ((2 : Int32) &&& 31)) &&& (3 : Int32)) (1 : Int32)) < (1 : Int32)
          · refine OwnEnd.go (fun _ k => XS.icmpYes X183.here hx rfl (pc0 := 153) (pc' := 193) rfl (hb hby at_153) rfl (tlt hc184).1 (by decide) (by decide) k) ?_
            show OwnEnd p e below s _ _ _ (T183.setTop (mkF m 193 #[.val (.int p1), .val (.int p2), .val (.long q3), .second, .val (.long q4), .second, .val (.int p5), .val (.ref b101), .val (.int (1 : Int32)), .val (.int (p1 &&& (31 : Int32))), .val (.int (p2 &&& (31 : Int32))), .val (.int v123), .val (.int v124), .val (.int (1 : Int32)), .val (.int (own_min ((p5 >>> ((2 : Int32) &&& 31)) &&& (3 : Int32)) (1 : Int32)))] []))
            refine OwnEnd.go (fun _ k => XS.iload X183.here hx rfl (hb hby at_193) rfl  k) ?_
            show OwnEnd p e below s _ _ _ (T183.setTop (mkF m 195 #[.val (.int p1), .val (.int p2), .val (.long q3), .second, .val (.long q4), .second, .val (.int p5), .val (.ref b101), .val (.int (1 : Int32)), .val (.int (p1 &&& (31 : Int32))), .val (.int (p2 &&& (31 : Int32))), .val (.int v123), .val (.int v124), .val (.int (1 : Int32)), .val (.int (own_min ((p5 >>> ((2 : Int32) &&& 31)) &&& (3 : Int32)) (1 : Int32)))] [(.int (own_min ((p5 >>> ((2 : Int32) &&& 31)) &&& (3 : Int32)) (1 : Int32)))]))
            refine OwnEnd.go (fun _ k => XS.iconst X183.here hx rfl (hb hby at_195) k) ?_
            show OwnEnd p e below s _ _ _ (T183.setTop (mkF m 196 #[.val (.int p1), .val (.int p2), .val (.long q3), .second, .val (.long q4), .second, .val (.int p5), .val (.ref b101), .val (.int (1 : Int32)), .val (.int (p1 &&& (31 : Int32))), .val (.int (p2 &&& (31 : Int32))), .val (.int v123), .val (.int v124), .val (.int (1 : Int32)), .val (.int (own_min ((p5 >>> ((2 : Int32) &&& 31)) &&& (3 : Int32)) (1 : Int32)))] [(.int (2 : Int32)), (.int (own_min ((p5 >>> ((2 : Int32) &&& 31)) &&& (3 : Int32)) (1 : Int32)))]))
            refine OwnEnd.go (fun _ k => XS.icmpYes X183.here hx rfl (pc0 := 196) (pc' := 225) rfl (hb hby at_196) rfl (tlt (own_min1 _)).1 (by decide) (by decide) k) ?_
            show OwnEnd p e below s _ _ _ (T183.setTop (mkF m 225 #[.val (.int p1), .val (.int p2), .val (.long q3), .second, .val (.long q4), .second, .val (.int p5), .val (.ref b101), .val (.int (1 : Int32)), .val (.int (p1 &&& (31 : Int32))), .val (.int (p2 &&& (31 : Int32))), .val (.int v123), .val (.int v124), .val (.int (1 : Int32)), .val (.int (own_min ((p5 >>> ((2 : Int32) &&& 31)) &&& (3 : Int32)) (1 : Int32)))] []))
            refine OwnEnd.go (fun _ k => XS.iload X183.here hx rfl (hb hby at_225) rfl  k) ?_
            show OwnEnd p e below s _ _ _ (T183.setTop (mkF m 227 #[.val (.int p1), .val (.int p2), .val (.long q3), .second, .val (.long q4), .second, .val (.int p5), .val (.ref b101), .val (.int (1 : Int32)), .val (.int (p1 &&& (31 : Int32))), .val (.int (p2 &&& (31 : Int32))), .val (.int v123), .val (.int v124), .val (.int (1 : Int32)), .val (.int (own_min ((p5 >>> ((2 : Int32) &&& 31)) &&& (3 : Int32)) (1 : Int32)))] [(.int (1 : Int32))]))
            refine ownRetZ X183 hx hlk hret (hb hby at_227) (by decide) (by decide) (1 : Int32) (by decide) ?_
            show Q0 Z p1 p2 q3 q4 p5 h0 n0 _ T183.heap _
            rw [e183]
            exact ⟨rfl, N183⟩
          · refine OwnEnd.go (fun _ k => XS.icmpNo X183.here hx rfl (hb hby at_153) rfl (flt hc184).1 k) ?_
            show OwnEnd p e below s _ _ _ (T183.setTop (mkF m 156 #[.val (.int p1), .val (.int p2), .val (.long q3), .second, .val (.long q4), .second, .val (.int p5), .val (.ref b101), .val (.int (1 : Int32)), .val (.int (p1 &&& (31 : Int32))), .val (.int (p2 &&& (31 : Int32))), .val (.int v123), .val (.int v124), .val (.int (1 : Int32)), .val (.int (own_min ((p5 >>> ((2 : Int32) &&& 31)) &&& (3 : Int32)) (1 : Int32)))] []))
            refine OwnEnd.go (fun _ k => XS.aload X183.here hx rfl (hb hby at_156) rfl rfl k) ?_
            show OwnEnd p e below s _ _ _ (T183.setTop (mkF m 158 #[.val (.int p1), .val (.int p2), .val (.long q3), .second, .val (.long q4), .second, .val (.int p5), .val (.ref b101), .val (.int (1 : Int32)), .val (.int (p1 &&& (31 : Int32))), .val (.int (p2 &&& (31 : Int32))), .val (.int v123), .val (.int v124), .val (.int (1 : Int32)), .val (.int (own_min ((p5 >>> ((2 : Int32) &&& 31)) &&& (3 : Int32)) (1 : Int32)))] [(.ref b101)]))
            obtain ⟨_, T185, L185, X185, hQ185, st185⟩ := ownCallV X183 hx hZ hown ww68 ww69 ww71 ww70 ww2 ww72 (by decide) (rm14z1 l Z a0 hw [] b101 y114 y115 y116 (16 : Int32) y178 (0 : Int32) y179 T175.heap n0 Y175  P176 P177) e183 F180 0 (by decide) (by decide) (by decide) (by decide) (g := (mkF m 158 #[.val (.int p1), .val (.int p2), .val (.long q3), .second, .val (.long q4), .second, .val (.int p5), .val (.ref b101), .val (.int (1 : Int32)), .val (.int (p1 &&& (31 : Int32))), .val (.int (p2 &&& (31 : Int32))), .val (.int v123), .val (.int v124), .val (.int (1 : Int32)), .val (.int (own_min ((p5 >>> ((2 : Int32) &&& 31)) &&& (3 : Int32)) (1 : Int32)))] [(.ref b101)])) rfl (by rw [hml]; rfl) (argsL := []) (rest := []) (lenOf pd0_4 rfl) rfl rfl (by show 2 * 0 + _ ≤ _; exact Nat.le_of_eq rfl) (hb hby at_158)
            obtain ⟨rfl, N185q, K185q, P186⟩ := hQ185
            have N185 := Fr.app N183 N185q
            have F187 := F180.keep K185q
            have K185 := K175.trans K185q (allS (Or.inr v101) (allS (Or.inr (Nat.le_trans K101.1 P110)) (allS (Or.inr (Nat.le_trans K101.1 P111)) (allS (Or.inr (Nat.le_trans K101.1 P112)) all0))))
            have Y185 := Nat.le_trans Y175 K185q.1
            refine OwnEnd.go (fun _ k => st185 _ k) ?_
            show OwnEnd p e below s _ _ _ (T185.setTop (mkF m 161 #[.val (.int p1), .val (.int p2), .val (.long q3), .second, .val (.long q4), .second, .val (.int p5), .val (.ref b101), .val (.int (1 : Int32)), .val (.int (p1 &&& (31 : Int32))), .val (.int (p2 &&& (31 : Int32))), .val (.int v123), .val (.int v124), .val (.int (1 : Int32)), .val (.int (own_min ((p5 >>> ((2 : Int32) &&& 31)) &&& (3 : Int32)) (1 : Int32)))] [(.int y178)]))
            refine OwnEnd.go (fun _ k => XS.pop X185.here hx rfl (hb hby at_161) rfl rfl k) ?_
            show OwnEnd p e below s _ _ _ (T185.setTop (mkF m 162 #[.val (.int p1), .val (.int p2), .val (.long q3), .second, .val (.long q4), .second, .val (.int p5), .val (.ref b101), .val (.int (1 : Int32)), .val (.int (p1 &&& (31 : Int32))), .val (.int (p2 &&& (31 : Int32))), .val (.int v123), .val (.int v124), .val (.int (1 : Int32)), .val (.int (own_min ((p5 >>> ((2 : Int32) &&& 31)) &&& (3 : Int32)) (1 : Int32)))] []))
            refine OwnEnd.go (fun _ k => XS.iload X185.here hx rfl (hb hby at_162) rfl  k) ?_
            show OwnEnd p e below s _ _ _ (T185.setTop (mkF m 164 #[.val (.int p1), .val (.int p2), .val (.long q3), .second, .val (.long q4), .second, .val (.int p5), .val (.ref b101), .val (.int (1 : Int32)), .val (.int (p1 &&& (31 : Int32))), .val (.int (p2 &&& (31 : Int32))), .val (.int v123), .val (.int v124), .val (.int (1 : Int32)), .val (.int (own_min ((p5 >>> ((2 : Int32) &&& 31)) &&& (3 : Int32)) (1 : Int32)))] [(.int (1 : Int32))]))
            refine OwnEnd.go (fun _ k => XS.ifNo X185.here hx rfl (hb hby at_164) rfl ((if0 _ _).trans (feq (by decide : ¬ (1 : Int32) = (0 : Int32))).1) k) ?_
            show OwnEnd p e below s _ _ _ (T185.setTop (mkF m 167 #[.val (.int p1), .val (.int p2), .val (.long q3), .second, .val (.long q4), .second, .val (.int p5), .val (.ref b101), .val (.int (1 : Int32)), .val (.int (p1 &&& (31 : Int32))), .val (.int (p2 &&& (31 : Int32))), .val (.int v123), .val (.int v124), .val (.int (1 : Int32)), .val (.int (own_min ((p5 >>> ((2 : Int32) &&& 31)) &&& (3 : Int32)) (1 : Int32)))] []))
            refine OwnEnd.go (fun _ k => XS.aload X185.here hx rfl (hb hby at_167) rfl rfl k) ?_
            show OwnEnd p e below s _ _ _ (T185.setTop (mkF m 169 #[.val (.int p1), .val (.int p2), .val (.long q3), .second, .val (.long q4), .second, .val (.int p5), .val (.ref b101), .val (.int (1 : Int32)), .val (.int (p1 &&& (31 : Int32))), .val (.int (p2 &&& (31 : Int32))), .val (.int v123), .val (.int v124), .val (.int (1 : Int32)), .val (.int (own_min ((p5 >>> ((2 : Int32) &&& 31)) &&& (3 : Int32)) (1 : Int32)))] [(.ref b101)]))
            obtain ⟨_, T189, L189, X189, hQ189, st189⟩ := ownCallV X185 hx hZ hown ww24 ww25 ww27 ww26 ww2 ww28 (by decide) (rm5z0 l Z a0 hw [] b101 y114 y115 y116 (16 : Int32) y178 (0 : Int32) (own_upd y179 y178 (-1 : Int32)) T185.heap n0 Y185  P186) (rfl : T185.heap = T185.heap) F187 0 (by decide) (by decide) (by decide) (by decide) (g := (mkF m 169 #[.val (.int p1), .val (.int p2), .val (.long q3), .second, .val (.long q4), .second, .val (.int p5), .val (.ref b101), .val (.int (1 : Int32)), .val (.int (p1 &&& (31 : Int32))), .val (.int (p2 &&& (31 : Int32))), .val (.int v123), .val (.int v124), .val (.int (1 : Int32)), .val (.int (own_min ((p5 >>> ((2 : Int32) &&& 31)) &&& (3 : Int32)) (1 : Int32)))] [(.ref b101)])) rfl (by rw [hml]; rfl) (argsL := []) (rest := []) (lenOf pd0_1 rfl) rfl rfl (by show 2 * 0 + _ ≤ _; exact Nat.le_of_eq rfl) (hb hby at_169)
            obtain ⟨rfl, N189q, e189⟩ := hQ189
            have N189 := Fr.app N185 N189q
            refine OwnEnd.go (fun _ k => st189 _ k) ?_
            show OwnEnd p e below s _ _ _ (T189.setTop (mkF m 172 #[.val (.int p1), .val (.int p2), .val (.long q3), .second, .val (.long q4), .second, .val (.int p5), .val (.ref b101), .val (.int (1 : Int32)), .val (.int (p1 &&& (31 : Int32))), .val (.int (p2 &&& (31 : Int32))), .val (.int v123), .val (.int v124), .val (.int (1 : Int32)), .val (.int (own_min ((p5 >>> ((2 : Int32) &&& 31)) &&& (3 : Int32)) (1 : Int32)))] [(.int (1 : Int32))]))
            refine OwnEnd.go (fun _ k => XS.iload X189.here hx rfl (hb hby at_172) rfl  k) ?_
            show OwnEnd p e below s _ _ _ (T189.setTop (mkF m 174 #[.val (.int p1), .val (.int p2), .val (.long q3), .second, .val (.long q4), .second, .val (.int p5), .val (.ref b101), .val (.int (1 : Int32)), .val (.int (p1 &&& (31 : Int32))), .val (.int (p2 &&& (31 : Int32))), .val (.int v123), .val (.int v124), .val (.int (1 : Int32)), .val (.int (own_min ((p5 >>> ((2 : Int32) &&& 31)) &&& (3 : Int32)) (1 : Int32)))] [(.int (1 : Int32)), (.int (1 : Int32))]))
            refine OwnEnd.go (fun _ k => XS.iconst X189.here hx rfl (hb hby at_174) k) ?_
            show OwnEnd p e below s _ _ _ (T189.setTop (mkF m 175 #[.val (.int p1), .val (.int p2), .val (.long q3), .second, .val (.long q4), .second, .val (.int p5), .val (.ref b101), .val (.int (1 : Int32)), .val (.int (p1 &&& (31 : Int32))), .val (.int (p2 &&& (31 : Int32))), .val (.int v123), .val (.int v124), .val (.int (1 : Int32)), .val (.int (own_min ((p5 >>> ((2 : Int32) &&& 31)) &&& (3 : Int32)) (1 : Int32)))] [(.int (1 : Int32)), (.int (1 : Int32)), (.int (1 : Int32))]))
            refine OwnEnd.go (fun _ k => XS.icmpNo X189.here hx rfl (hb hby at_175) rfl (teq (by decide : (1 : Int32) = (1 : Int32))).2 k) ?_
            show OwnEnd p e below s _ _ _ (T189.setTop (mkF m 178 #[.val (.int p1), .val (.int p2), .val (.long q3), .second, .val (.long q4), .second, .val (.int p5), .val (.ref b101), .val (.int (1 : Int32)), .val (.int (p1 &&& (31 : Int32))), .val (.int (p2 &&& (31 : Int32))), .val (.int v123), .val (.int v124), .val (.int (1 : Int32)), .val (.int (own_min ((p5 >>> ((2 : Int32) &&& 31)) &&& (3 : Int32)) (1 : Int32)))] [(.int (1 : Int32))]))
            refine OwnEnd.go (fun _ k => XS.iconst X189.here hx rfl (hb hby at_178) k) ?_
            show OwnEnd p e below s _ _ _ (T189.setTop (mkF m 179 #[.val (.int p1), .val (.int p2), .val (.long q3), .second, .val (.long q4), .second, .val (.int p5), .val (.ref b101), .val (.int (1 : Int32)), .val (.int (p1 &&& (31 : Int32))), .val (.int (p2 &&& (31 : Int32))), .val (.int v123), .val (.int v124), .val (.int (1 : Int32)), .val (.int (own_min ((p5 >>> ((2 : Int32) &&& 31)) &&& (3 : Int32)) (1 : Int32)))] [(.int (1 : Int32)), (.int (1 : Int32))]))
            refine OwnEnd.go (fun _ k => XS.goto X189.here hx rfl (pc0 := 179) (pc' := 183) rfl (hb hby at_179) (by decide) (by decide) k) ?_
            show OwnEnd p e below s _ _ _ (T189.setTop (mkF m 183 #[.val (.int p1), .val (.int p2), .val (.long q3), .second, .val (.long q4), .second, .val (.int p5), .val (.ref b101), .val (.int (1 : Int32)), .val (.int (p1 &&& (31 : Int32))), .val (.int (p2 &&& (31 : Int32))), .val (.int v123), .val (.int v124), .val (.int (1 : Int32)), .val (.int (own_min ((p5 >>> ((2 : Int32) &&& 31)) &&& (3 : Int32)) (1 : Int32)))] [(.int (1 : Int32)), (.int (1 : Int32))]))
            refine OwnEnd.go (fun _ k => XS.icmpNo X189.here hx rfl (hb hby at_183) rfl (teq (by decide : (1 : Int32) = (1 : Int32))).2 k) ?_
            show OwnEnd p e below s _ _ _ (T189.setTop (mkF m 186 #[.val (.int p1), .val (.int p2), .val (.long q3), .second, .val (.long q4), .second, .val (.int p5), .val (.ref b101), .val (.int (1 : Int32)), .val (.int (p1 &&& (31 : Int32))), .val (.int (p2 &&& (31 : Int32))), .val (.int v123), .val (.int v124), .val (.int (1 : Int32)), .val (.int (own_min ((p5 >>> ((2 : Int32) &&& 31)) &&& (3 : Int32)) (1 : Int32)))] []))
            refine OwnEnd.go (fun _ k => XS.iconst X189.here hx rfl (hb hby at_186) k) ?_
            show OwnEnd p e below s _ _ _ (T189.setTop (mkF m 187 #[.val (.int p1), .val (.int p2), .val (.long q3), .second, .val (.long q4), .second, .val (.int p5), .val (.ref b101), .val (.int (1 : Int32)), .val (.int (p1 &&& (31 : Int32))), .val (.int (p2 &&& (31 : Int32))), .val (.int v123), .val (.int v124), .val (.int (1 : Int32)), .val (.int (own_min ((p5 >>> ((2 : Int32) &&& 31)) &&& (3 : Int32)) (1 : Int32)))] [(.int (1 : Int32))]))
            refine OwnEnd.go (fun _ k => XS.goto X189.here hx rfl (pc0 := 187) (pc' := 191) rfl (hb hby at_187) (by decide) (by decide) k) ?_
            show OwnEnd p e below s _ _ _ (T189.setTop (mkF m 191 #[.val (.int p1), .val (.int p2), .val (.long q3), .second, .val (.long q4), .second, .val (.int p5), .val (.ref b101), .val (.int (1 : Int32)), .val (.int (p1 &&& (31 : Int32))), .val (.int (p2 &&& (31 : Int32))), .val (.int v123), .val (.int v124), .val (.int (1 : Int32)), .val (.int (own_min ((p5 >>> ((2 : Int32) &&& 31)) &&& (3 : Int32)) (1 : Int32)))] [(.int (1 : Int32))]))
            refine OwnEnd.go (fun _ k => XS.istore X189.here hx rfl (hb hby at_191) rfl  (l' := #[.val (.int p1), .val (.int p2), .val (.long q3), .second, .val (.long q4), .second, .val (.int p5), .val (.ref b101), .val (.int (1 : Int32)), .val (.int (p1 &&& (31 : Int32))), .val (.int (p2 &&& (31 : Int32))), .val (.int v123), .val (.int v124), .val (.int (1 : Int32)), .val (.int (own_min ((p5 >>> ((2 : Int32) &&& 31)) &&& (3 : Int32)) (1 : Int32)))]) rfl k) ?_
            show OwnEnd p e below s _ _ _ (T189.setTop (mkF m 193 #[.val (.int p1), .val (.int p2), .val (.long q3), .second, .val (.long q4), .second, .val (.int p5), .val (.ref b101), .val (.int (1 : Int32)), .val (.int (p1 &&& (31 : Int32))), .val (.int (p2 &&& (31 : Int32))), .val (.int v123), .val (.int v124), .val (.int (1 : Int32)), .val (.int (own_min ((p5 >>> ((2 : Int32) &&& 31)) &&& (3 : Int32)) (1 : Int32)))] []))
            refine OwnEnd.go (fun _ k => XS.iload X189.here hx rfl (hb hby at_193) rfl  k) ?_
            show OwnEnd p e below s _ _ _ (T189.setTop (mkF m 195 #[.val (.int p1), .val (.int p2), .val (.long q3), .second, .val (.long q4), .second, .val (.int p5), .val (.ref b101), .val (.int (1 : Int32)), .val (.int (p1 &&& (31 : Int32))), .val (.int (p2 &&& (31 : Int32))), .val (.int v123), .val (.int v124), .val (.int (1 : Int32)), .val (.int (own_min ((p5 >>> ((2 : Int32) &&& 31)) &&& (3 : Int32)) (1 : Int32)))] [(.int (own_min ((p5 >>> ((2 : Int32) &&& 31)) &&& (3 : Int32)) (1 : Int32)))]))
            refine OwnEnd.go (fun _ k => XS.iconst X189.here hx rfl (hb hby at_195) k) ?_
            show OwnEnd p e below s _ _ _ (T189.setTop (mkF m 196 #[.val (.int p1), .val (.int p2), .val (.long q3), .second, .val (.long q4), .second, .val (.int p5), .val (.ref b101), .val (.int (1 : Int32)), .val (.int (p1 &&& (31 : Int32))), .val (.int (p2 &&& (31 : Int32))), .val (.int v123), .val (.int v124), .val (.int (1 : Int32)), .val (.int (own_min ((p5 >>> ((2 : Int32) &&& 31)) &&& (3 : Int32)) (1 : Int32)))] [(.int (2 : Int32)), (.int (own_min ((p5 >>> ((2 : Int32) &&& 31)) &&& (3 : Int32)) (1 : Int32)))]))
            refine OwnEnd.go (fun _ k => XS.icmpYes X189.here hx rfl (pc0 := 196) (pc' := 225) rfl (hb hby at_196) rfl (tlt (own_min1 _)).1 (by decide) (by decide) k) ?_
            show OwnEnd p e below s _ _ _ (T189.setTop (mkF m 225 #[.val (.int p1), .val (.int p2), .val (.long q3), .second, .val (.long q4), .second, .val (.int p5), .val (.ref b101), .val (.int (1 : Int32)), .val (.int (p1 &&& (31 : Int32))), .val (.int (p2 &&& (31 : Int32))), .val (.int v123), .val (.int v124), .val (.int (1 : Int32)), .val (.int (own_min ((p5 >>> ((2 : Int32) &&& 31)) &&& (3 : Int32)) (1 : Int32)))] []))
            refine OwnEnd.go (fun _ k => XS.iload X189.here hx rfl (hb hby at_225) rfl  k) ?_
            show OwnEnd p e below s _ _ _ (T189.setTop (mkF m 227 #[.val (.int p1), .val (.int p2), .val (.long q3), .second, .val (.long q4), .second, .val (.int p5), .val (.ref b101), .val (.int (1 : Int32)), .val (.int (p1 &&& (31 : Int32))), .val (.int (p2 &&& (31 : Int32))), .val (.int v123), .val (.int v124), .val (.int (1 : Int32)), .val (.int (own_min ((p5 >>> ((2 : Int32) &&& 31)) &&& (3 : Int32)) (1 : Int32)))] [(.int (1 : Int32))]))
            refine ownRetZ X189 hx hlk hret (hb hby at_227) (by decide) (by decide) (1 : Int32) (by decide) ?_
            show Q0 Z p1 p2 q3 q4 p5 h0 n0 _ T189.heap _
            rw [e189]
            exact ⟨rfl, N189⟩
        · show OwnEnd p e below s _ _ _ (T161.setTop (mkF m 80 #[.val (.int p1), .val (.int p2), .val (.long q3), .second, .val (.long q4), .second, .val (.int p5), .val (.ref b101), .val (.int (1 : Int32)), .val (.int (p1 &&& (31 : Int32))), .val (.int (p2 &&& (31 : Int32))), .val (.int v123), .val (.int v124), .val (.int (1 : Int32)), .unset] []))
          by_cases hs190 : (p2 &&& (31 : Int32)) < (16 : Int32)
          · show OwnEnd p e below s _ _ _ (T161.setTop (mkF m 80 #[.val (.int p1), .val (.int p2), .val (.long q3), .second, .val (.long q4), .second, .val (.int p5), .val (.ref b101), .val (.int (1 : Int32)), .val (.int (p1 &&& (31 : Int32))), .val (.int (p2 &&& (31 : Int32))), .val (.int v123), .val (.int v124), .val (.int (1 : Int32)), .unset] []))
            refine OwnEnd.go (fun _ k => XS.aload X161.here hx rfl (hb hby at_80) rfl rfl k) ?_
            show OwnEnd p e below s _ _ _ (T161.setTop (mkF m 82 #[.val (.int p1), .val (.int p2), .val (.long q3), .second, .val (.long q4), .second, .val (.int p5), .val (.ref b101), .val (.int (1 : Int32)), .val (.int (p1 &&& (31 : Int32))), .val (.int (p2 &&& (31 : Int32))), .val (.int v123), .val (.int v124), .val (.int (1 : Int32)), .unset] [(.ref b101)]))
            refine OwnEnd.go (fun _ k => XS.iload X161.here hx rfl (hb hby at_82) rfl  k) ?_
            show OwnEnd p e below s _ _ _ (T161.setTop (mkF m 84 #[.val (.int p1), .val (.int p2), .val (.long q3), .second, .val (.long q4), .second, .val (.int p5), .val (.ref b101), .val (.int (1 : Int32)), .val (.int (p1 &&& (31 : Int32))), .val (.int (p2 &&& (31 : Int32))), .val (.int v123), .val (.int v124), .val (.int (1 : Int32)), .unset] [(.int (p2 &&& (31 : Int32))), (.ref b101)]))
            refine OwnEnd.go (fun _ k => XS.lload X161.here hx rfl (hb hby at_84) rfl  k) ?_
            show OwnEnd p e below s _ _ _ (T161.setTop (mkF m 86 #[.val (.int p1), .val (.int p2), .val (.long q3), .second, .val (.long q4), .second, .val (.int p5), .val (.ref b101), .val (.int (1 : Int32)), .val (.int (p1 &&& (31 : Int32))), .val (.int (p2 &&& (31 : Int32))), .val (.int v123), .val (.int v124), .val (.int (1 : Int32)), .unset] [(.long q4), (.int (p2 &&& (31 : Int32))), (.ref b101)]))
            obtain ⟨_, T191, L191, X191, hQ191, st191⟩ := ownCallV X161 hx hZ hown ww31 ww32 ww34 ww33 ww2 ww35 (by decide) (rm6s1c16 l Z a0 hw [] b101 (p2 &&& (31 : Int32)) q4 y114 y115 y116 (p1 &&& (31 : Int32)) (0 : Int32) (own_upd (fun _ => (-1 : Int32)) (p1 &&& (31 : Int32)) (0 : Int32)) T161.heap n0 Y161  P162 ⟨(own_rng _).1, hs190⟩ ((own_upd_ne (own_nat (own_rng _).1 (own_rng _).1 hs174)).trans rfl) ⟨(own_rng _).1, hs160⟩) (rfl : T161.heap = T161.heap) F163 0 (by decide) (by decide) (by decide) (by decide) (g := (mkF m 86 #[.val (.int p1), .val (.int p2), .val (.long q3), .second, .val (.long q4), .second, .val (.int p5), .val (.ref b101), .val (.int (1 : Int32)), .val (.int (p1 &&& (31 : Int32))), .val (.int (p2 &&& (31 : Int32))), .val (.int v123), .val (.int v124), .val (.int (1 : Int32)), .unset] [(.long q4), (.int (p2 &&& (31 : Int32))), (.ref b101)])) rfl (by rw [hml]; rfl) (argsL := [(.int (p2 &&& (31 : Int32))), (.long q4)]) (rest := []) (lenOf pd0_3 rfl) rfl rfl (by show 2 * 0 + _ ≤ _; exact Nat.le_of_eq rfl) (hb hby at_86)
            obtain ⟨y195, y196, y197, hQ191⟩ := hQ191
            obtain ⟨rfl, N191q, K191q, P192, P193, P194⟩ := hQ191
            have N191 := Fr.app N161 N191q
            have F198 := F163.keep K191q
            have K191 := K161.trans K191q (allS (Or.inr v101) (allS (Or.inr (Nat.le_trans K101.1 P110)) (allS (Or.inr (Nat.le_trans K101.1 P111)) (allS (Or.inr (Nat.le_trans K101.1 P112)) all0))))
            have Y191 := Nat.le_trans Y161 K191q.1
            refine OwnEnd.go (fun _ k => st191 _ k) ?_
            show OwnEnd p e below s _ _ _ (T191.setTop (mkF m 89 #[.val (.int p1), .val (.int p2), .val (.long q3), .second, .val (.long q4), .second, .val (.int p5), .val (.ref b101), .val (.int (1 : Int32)), .val (.int (p1 &&& (31 : Int32))), .val (.int (p2 &&& (31 : Int32))), .val (.int v123), .val (.int v124), .val (.int (1 : Int32)), .unset] []))
            refine OwnEnd.go (fun _ k => XS.iload X191.here hx rfl (hb hby at_89) rfl  k) ?_
            show OwnEnd p e below s _ _ _ (T191.setTop (mkF m 91 #[.val (.int p1), .val (.int p2), .val (.long q3), .second, .val (.long q4), .second, .val (.int p5), .val (.ref b101), .val (.int (1 : Int32)), .val (.int (p1 &&& (31 : Int32))), .val (.int (p2 &&& (31 : Int32))), .val (.int v123), .val (.int v124), .val (.int (1 : Int32)), .unset] [(.int v123)]))
            refine OwnEnd.go (fun _ k => XS.ifNo X191.here hx rfl (hb hby at_91) rfl ((if0 _ _).trans (feq hc125).1) k) ?_
            show OwnEnd p e below s _ _ _ (T191.setTop (mkF m 94 #[.val (.int p1), .val (.int p2), .val (.long q3), .second, .val (.long q4), .second, .val (.int p5), .val (.ref b101), .val (.int (1 : Int32)), .val (.int (p1 &&& (31 : Int32))), .val (.int (p2 &&& (31 : Int32))), .val (.int v123), .val (.int v124), .val (.int (1 : Int32)), .unset] []))
            refine OwnEnd.go (fun _ k => XS.iload X191.here hx rfl (hb hby at_94) rfl  k) ?_
            show OwnEnd p e below s _ _ _ (T191.setTop (mkF m 96 #[.val (.int p1), .val (.int p2), .val (.long q3), .second, .val (.long q4), .second, .val (.int p5), .val (.ref b101), .val (.int (1 : Int32)), .val (.int (p1 &&& (31 : Int32))), .val (.int (p2 &&& (31 : Int32))), .val (.int v123), .val (.int v124), .val (.int (1 : Int32)), .unset] [(.int (p2 &&& (31 : Int32)))]))
            refine OwnEnd.go (fun _ k => XS.iload X191.here hx rfl (hb hby at_96) rfl  k) ?_
            show OwnEnd p e below s _ _ _ (T191.setTop (mkF m 98 #[.val (.int p1), .val (.int p2), .val (.long q3), .second, .val (.long q4), .second, .val (.int p5), .val (.ref b101), .val (.int (1 : Int32)), .val (.int (p1 &&& (31 : Int32))), .val (.int (p2 &&& (31 : Int32))), .val (.int v123), .val (.int v124), .val (.int (1 : Int32)), .unset] [(.int (p1 &&& (31 : Int32))), (.int (p2 &&& (31 : Int32)))]))
            refine OwnEnd.go (fun _ k => XS.icmpNo X191.here hx rfl (hb hby at_98) rfl (feq hs174).1 k) ?_
            show OwnEnd p e below s _ _ _ (T191.setTop (mkF m 101 #[.val (.int p1), .val (.int p2), .val (.long q3), .second, .val (.long q4), .second, .val (.int p5), .val (.ref b101), .val (.int (1 : Int32)), .val (.int (p1 &&& (31 : Int32))), .val (.int (p2 &&& (31 : Int32))), .val (.int v123), .val (.int v124), .val (.int (1 : Int32)), .unset] []))
            refine OwnEnd.go (fun _ k => XS.iload X191.here hx rfl (hb hby at_101) rfl  k) ?_
            show OwnEnd p e below s _ _ _ (T191.setTop (mkF m 103 #[.val (.int p1), .val (.int p2), .val (.long q3), .second, .val (.long q4), .second, .val (.int p5), .val (.ref b101), .val (.int (1 : Int32)), .val (.int (p1 &&& (31 : Int32))), .val (.int (p2 &&& (31 : Int32))), .val (.int v123), .val (.int v124), .val (.int (1 : Int32)), .unset] [(.int (1 : Int32))]))
            refine OwnEnd.go (fun _ k => XS.iconst X191.here hx rfl (hb hby at_103) k) ?_
            show OwnEnd p e below s _ _ _ (T191.setTop (mkF m 104 #[.val (.int p1), .val (.int p2), .val (.long q3), .second, .val (.long q4), .second, .val (.int p5), .val (.ref b101), .val (.int (1 : Int32)), .val (.int (p1 &&& (31 : Int32))), .val (.int (p2 &&& (31 : Int32))), .val (.int v123), .val (.int v124), .val (.int (1 : Int32)), .unset] [(.int (1 : Int32)), (.int (1 : Int32))]))
            refine OwnEnd.go (fun _ k => XS.iadd X191.here hx rfl (hb hby at_104) rfl k) ?_
            show OwnEnd p e below s _ _ _ (T191.setTop (mkF m 105 #[.val (.int p1), .val (.int p2), .val (.long q3), .second, .val (.long q4), .second, .val (.int p5), .val (.ref b101), .val (.int (1 : Int32)), .val (.int (p1 &&& (31 : Int32))), .val (.int (p2 &&& (31 : Int32))), .val (.int v123), .val (.int v124), .val (.int (1 : Int32)), .unset] [(.int (2 : Int32))]))
            refine OwnEnd.go (fun _ k => XS.istore X191.here hx rfl (hb hby at_105) rfl  (l' := #[.val (.int p1), .val (.int p2), .val (.long q3), .second, .val (.long q4), .second, .val (.int p5), .val (.ref b101), .val (.int (1 : Int32)), .val (.int (p1 &&& (31 : Int32))), .val (.int (p2 &&& (31 : Int32))), .val (.int v123), .val (.int v124), .val (.int (2 : Int32)), .unset]) rfl k) ?_
            show OwnEnd p e below s _ _ _ (T191.setTop (mkF m 107 #[.val (.int p1), .val (.int p2), .val (.long q3), .second, .val (.long q4), .second, .val (.int p5), .val (.ref b101), .val (.int (1 : Int32)), .val (.int (p1 &&& (31 : Int32))), .val (.int (p2 &&& (31 : Int32))), .val (.int v123), .val (.int v124), .val (.int (2 : Int32)), .unset] []))
            refine OwnEnd.go (fun _ k => XS.iload X191.here hx rfl (hb hby at_107) rfl  k) ?_
            show OwnEnd p e below s _ _ _ (T191.setTop (mkF m 109 #[.val (.int p1), .val (.int p2), .val (.long q3), .second, .val (.long q4), .second, .val (.int p5), .val (.ref b101), .val (.int (1 : Int32)), .val (.int (p1 &&& (31 : Int32))), .val (.int (p2 &&& (31 : Int32))), .val (.int v123), .val (.int v124), .val (.int (2 : Int32)), .unset] [(.int (1 : Int32))]))
            refine OwnEnd.go (fun _ k => XS.ifNo X191.here hx rfl (hb hby at_109) rfl ((if0 _ _).trans (feq (by decide : ¬ (1 : Int32) = (0 : Int32))).1) k) ?_
            show OwnEnd p e below s _ _ _ (T191.setTop (mkF m 112 #[.val (.int p1), .val (.int p2), .val (.long q3), .second, .val (.long q4), .second, .val (.int p5), .val (.ref b101), .val (.int (1 : Int32)), .val (.int (p1 &&& (31 : Int32))), .val (.int (p2 &&& (31 : Int32))), .val (.int v123), .val (.int v124), .val (.int (2 : Int32)), .unset] []))
            refine OwnEnd.go (fun _ k => XS.aload X191.here hx rfl (hb hby at_112) rfl rfl k) ?_
            show OwnEnd p e below s _ _ _ (T191.setTop (mkF m 114 #[.val (.int p1), .val (.int p2), .val (.long q3), .second, .val (.long q4), .second, .val (.int p5), .val (.ref b101), .val (.int (1 : Int32)), .val (.int (p1 &&& (31 : Int32))), .val (.int (p2 &&& (31 : Int32))), .val (.int v123), .val (.int v124), .val (.int (2 : Int32)), .unset] [(.ref b101)]))
            obtain ⟨_, T200, L200, X200, hQ200, st200⟩ := ownCallV X191 hx hZ hown ww24 ww25 ww27 ww26 ww2 ww28 (by decide) (rm5z2 l Z a0 hw [] b101 y114 y115 y116 (16 : Int32) y195 y196 y197 T191.heap n0 Y191  P192) (rfl : T191.heap = T191.heap) F198 0 (by decide) (by decide) (by decide) (by decide) (g := (mkF m 114 #[.val (.int p1), .val (.int p2), .val (.long q3), .second, .val (.long q4), .second, .val (.int p5), .val (.ref b101), .val (.int (1 : Int32)), .val (.int (p1 &&& (31 : Int32))), .val (.int (p2 &&& (31 : Int32))), .val (.int v123), .val (.int v124), .val (.int (2 : Int32)), .unset] [(.ref b101)])) rfl (by rw [hml]; rfl) (argsL := []) (rest := []) (lenOf pd0_1 rfl) rfl rfl (by show 2 * 0 + _ ≤ _; exact Nat.le_of_eq rfl) (hb hby at_114)
            obtain ⟨rfl, N200q, e200⟩ := hQ200
            have N200 := Fr.app N191 N200q
            refine OwnEnd.go (fun _ k => st200 _ k) ?_
            show OwnEnd p e below s _ _ _ (T200.setTop (mkF m 117 #[.val (.int p1), .val (.int p2), .val (.long q3), .second, .val (.long q4), .second, .val (.int p5), .val (.ref b101), .val (.int (1 : Int32)), .val (.int (p1 &&& (31 : Int32))), .val (.int (p2 &&& (31 : Int32))), .val (.int v123), .val (.int v124), .val (.int (2 : Int32)), .unset] [(.int (0 : Int32))]))
            refine OwnEnd.go (fun _ k => XS.iload X200.here hx rfl (hb hby at_117) rfl  k) ?_
            show OwnEnd p e below s _ _ _ (T200.setTop (mkF m 119 #[.val (.int p1), .val (.int p2), .val (.long q3), .second, .val (.long q4), .second, .val (.int p5), .val (.ref b101), .val (.int (1 : Int32)), .val (.int (p1 &&& (31 : Int32))), .val (.int (p2 &&& (31 : Int32))), .val (.int v123), .val (.int v124), .val (.int (2 : Int32)), .unset] [(.int (2 : Int32)), (.int (0 : Int32))]))
            refine OwnEnd.go (fun _ k => XS.ifYes X200.here hx rfl (pc0 := 119) (pc' := 126) rfl (hb hby at_119) rfl ((if0 _ _).trans (feq (by decide : ¬ (2 : Int32) = (0 : Int32))).2) (by decide) (by decide) k) ?_
            show OwnEnd p e below s _ _ _ (T200.setTop (mkF m 126 #[.val (.int p1), .val (.int p2), .val (.long q3), .second, .val (.long q4), .second, .val (.int p5), .val (.ref b101), .val (.int (1 : Int32)), .val (.int (p1 &&& (31 : Int32))), .val (.int (p2 &&& (31 : Int32))), .val (.int v123), .val (.int v124), .val (.int (2 : Int32)), .unset] [(.int (0 : Int32))]))
            refine OwnEnd.go (fun _ k => XS.iconst X200.here hx rfl (hb hby at_126) k) ?_
            show OwnEnd p e below s _ _ _ (T200.setTop (mkF m 127 #[.val (.int p1), .val (.int p2), .val (.long q3), .second, .val (.long q4), .second, .val (.int p5), .val (.ref b101), .val (.int (1 : Int32)), .val (.int (p1 &&& (31 : Int32))), .val (.int (p2 &&& (31 : Int32))), .val (.int v123), .val (.int v124), .val (.int (2 : Int32)), .unset] [(.int (0 : Int32)), (.int (0 : Int32))]))
            refine OwnEnd.go (fun _ k => XS.icmpNo X200.here hx rfl (hb hby at_127) rfl (teq (by decide : (0 : Int32) = (0 : Int32))).2 k) ?_
            show OwnEnd p e below s _ _ _ (T200.setTop (mkF m 130 #[.val (.int p1), .val (.int p2), .val (.long q3), .second, .val (.long q4), .second, .val (.int p5), .val (.ref b101), .val (.int (1 : Int32)), .val (.int (p1 &&& (31 : Int32))), .val (.int (p2 &&& (31 : Int32))), .val (.int v123), .val (.int v124), .val (.int (2 : Int32)), .unset] []))
            refine OwnEnd.go (fun _ k => XS.iconst X200.here hx rfl (hb hby at_130) k) ?_
            show OwnEnd p e below s _ _ _ (T200.setTop (mkF m 131 #[.val (.int p1), .val (.int p2), .val (.long q3), .second, .val (.long q4), .second, .val (.int p5), .val (.ref b101), .val (.int (1 : Int32)), .val (.int (p1 &&& (31 : Int32))), .val (.int (p2 &&& (31 : Int32))), .val (.int v123), .val (.int v124), .val (.int (2 : Int32)), .unset] [(.int (1 : Int32))]))
            refine OwnEnd.go (fun _ k => XS.goto X200.here hx rfl (pc0 := 131) (pc' := 135) rfl (hb hby at_131) (by decide) (by decide) k) ?_
            show OwnEnd p e below s _ _ _ (T200.setTop (mkF m 135 #[.val (.int p1), .val (.int p2), .val (.long q3), .second, .val (.long q4), .second, .val (.int p5), .val (.ref b101), .val (.int (1 : Int32)), .val (.int (p1 &&& (31 : Int32))), .val (.int (p2 &&& (31 : Int32))), .val (.int v123), .val (.int v124), .val (.int (2 : Int32)), .unset] [(.int (1 : Int32))]))
            refine OwnEnd.go (fun _ k => XS.istore X200.here hx rfl (hb hby at_135) rfl  (l' := #[.val (.int p1), .val (.int p2), .val (.long q3), .second, .val (.long q4), .second, .val (.int p5), .val (.ref b101), .val (.int (1 : Int32)), .val (.int (p1 &&& (31 : Int32))), .val (.int (p2 &&& (31 : Int32))), .val (.int v123), .val (.int v124), .val (.int (2 : Int32)), .unset]) rfl k) ?_
            show OwnEnd p e below s _ _ _ (T200.setTop (mkF m 137 #[.val (.int p1), .val (.int p2), .val (.long q3), .second, .val (.long q4), .second, .val (.int p5), .val (.ref b101), .val (.int (1 : Int32)), .val (.int (p1 &&& (31 : Int32))), .val (.int (p2 &&& (31 : Int32))), .val (.int v123), .val (.int v124), .val (.int (2 : Int32)), .unset] []))
            refine OwnEnd.go (fun _ k => XS.iload X200.here hx rfl (hb hby at_137) rfl  k) ?_
            show OwnEnd p e below s _ _ _ (T200.setTop (mkF m 139 #[.val (.int p1), .val (.int p2), .val (.long q3), .second, .val (.long q4), .second, .val (.int p5), .val (.ref b101), .val (.int (1 : Int32)), .val (.int (p1 &&& (31 : Int32))), .val (.int (p2 &&& (31 : Int32))), .val (.int v123), .val (.int v124), .val (.int (2 : Int32)), .unset] [(.int p5)]))
            refine OwnEnd.go (fun _ k => XS.iconst X200.here hx rfl (hb hby at_139) k) ?_
            show OwnEnd p e below s _ _ _ (T200.setTop (mkF m 140 #[.val (.int p1), .val (.int p2), .val (.long q3), .second, .val (.long q4), .second, .val (.int p5), .val (.ref b101), .val (.int (1 : Int32)), .val (.int (p1 &&& (31 : Int32))), .val (.int (p2 &&& (31 : Int32))), .val (.int v123), .val (.int v124), .val (.int (2 : Int32)), .unset] [(.int (2 : Int32)), (.int p5)]))
            refine OwnEnd.go (fun _ k => XS.ishr X200.here hx rfl (hb hby at_140) rfl k) ?_
            show OwnEnd p e below s _ _ _ (T200.setTop (mkF m 141 #[.val (.int p1), .val (.int p2), .val (.long q3), .second, .val (.long q4), .second, .val (.int p5), .val (.ref b101), .val (.int (1 : Int32)), .val (.int (p1 &&& (31 : Int32))), .val (.int (p2 &&& (31 : Int32))), .val (.int v123), .val (.int v124), .val (.int (2 : Int32)), .unset] [(.int (p5 >>> ((2 : Int32) &&& 31)))]))
            refine OwnEnd.go (fun _ k => XS.iconst X200.here hx rfl (hb hby at_141) k) ?_
            show OwnEnd p e below s _ _ _ (T200.setTop (mkF m 142 #[.val (.int p1), .val (.int p2), .val (.long q3), .second, .val (.long q4), .second, .val (.int p5), .val (.ref b101), .val (.int (1 : Int32)), .val (.int (p1 &&& (31 : Int32))), .val (.int (p2 &&& (31 : Int32))), .val (.int v123), .val (.int v124), .val (.int (2 : Int32)), .unset] [(.int (3 : Int32)), (.int (p5 >>> ((2 : Int32) &&& 31)))]))
            refine OwnEnd.go (fun _ k => XS.iand X200.here hx rfl (hb hby at_142) rfl k) ?_
            show OwnEnd p e below s _ _ _ (T200.setTop (mkF m 143 #[.val (.int p1), .val (.int p2), .val (.long q3), .second, .val (.long q4), .second, .val (.int p5), .val (.ref b101), .val (.int (1 : Int32)), .val (.int (p1 &&& (31 : Int32))), .val (.int (p2 &&& (31 : Int32))), .val (.int v123), .val (.int v124), .val (.int (2 : Int32)), .unset] [(.int ((p5 >>> ((2 : Int32) &&& 31)) &&& (3 : Int32)))]))
            refine OwnEnd.go (fun _ k => XS.iload X200.here hx rfl (hb hby at_143) rfl  k) ?_
            show OwnEnd p e below s _ _ _ (T200.setTop (mkF m 145 #[.val (.int p1), .val (.int p2), .val (.long q3), .second, .val (.long q4), .second, .val (.int p5), .val (.ref b101), .val (.int (1 : Int32)), .val (.int (p1 &&& (31 : Int32))), .val (.int (p2 &&& (31 : Int32))), .val (.int v123), .val (.int v124), .val (.int (2 : Int32)), .unset] [(.int (2 : Int32)), (.int ((p5 >>> ((2 : Int32) &&& 31)) &&& (3 : Int32)))]))
            obtain ⟨_, T201, L201, X201, hQ201, st201⟩ := ownCallS X200 hx hZ hown ww44 ww45 ww46 ww47 (by decide) (rm9 l Z a0 hw [] ((p5 >>> ((2 : Int32) &&& 31)) &&& (3 : Int32)) (2 : Int32) T191.heap n0 Y191  ) e200 0 (by decide) (by decide) (by decide) (by decide) (g := (mkF m 145 #[.val (.int p1), .val (.int p2), .val (.long q3), .second, .val (.long q4), .second, .val (.int p5), .val (.ref b101), .val (.int (1 : Int32)), .val (.int (p1 &&& (31 : Int32))), .val (.int (p2 &&& (31 : Int32))), .val (.int v123), .val (.int v124), .val (.int (2 : Int32)), .unset] [(.int (2 : Int32)), (.int ((p5 >>> ((2 : Int32) &&& 31)) &&& (3 : Int32)))])) rfl (by rw [hml]; rfl) (argsL := [(.int ((p5 >>> ((2 : Int32) &&& 31)) &&& (3 : Int32))), (.int (2 : Int32))]) (rest := []) (lenOf pd0_2 rfl) rfl rfl (by show 2 * 0 + _ ≤ _; exact Nat.le_of_eq rfl) (hb hby at_145)
            obtain ⟨rfl, N201q, e201⟩ := hQ201
            have N201 := Fr.app N200 N201q
            refine OwnEnd.go (fun _ k => st201 _ k) ?_
            show OwnEnd p e below s _ _ _ (T201.setTop (mkF m 148 #[.val (.int p1), .val (.int p2), .val (.long q3), .second, .val (.long q4), .second, .val (.int p5), .val (.ref b101), .val (.int (1 : Int32)), .val (.int (p1 &&& (31 : Int32))), .val (.int (p2 &&& (31 : Int32))), .val (.int v123), .val (.int v124), .val (.int (2 : Int32)), .unset] [(.int (own_min ((p5 >>> ((2 : Int32) &&& 31)) &&& (3 : Int32)) (2 : Int32)))]))
            refine OwnEnd.go (fun _ k => XS.istore X201.here hx rfl (hb hby at_148) rfl  (l' := #[.val (.int p1), .val (.int p2), .val (.long q3), .second, .val (.long q4), .second, .val (.int p5), .val (.ref b101), .val (.int (1 : Int32)), .val (.int (p1 &&& (31 : Int32))), .val (.int (p2 &&& (31 : Int32))), .val (.int v123), .val (.int v124), .val (.int (2 : Int32)), .val (.int (own_min ((p5 >>> ((2 : Int32) &&& 31)) &&& (3 : Int32)) (2 : Int32)))]) rfl k) ?_
            show OwnEnd p e below s _ _ _ (T201.setTop (mkF m 150 #[.val (.int p1), .val (.int p2), .val (.long q3), .second, .val (.long q4), .second, .val (.int p5), .val (.ref b101), .val (.int (1 : Int32)), .val (.int (p1 &&& (31 : Int32))), .val (.int (p2 &&& (31 : Int32))), .val (.int v123), .val (.int v124), .val (.int (2 : Int32)), .val (.int (own_min ((p5 >>> ((2 : Int32) &&& 31)) &&& (3 : Int32)) (2 : Int32)))] []))
            refine OwnEnd.go (fun _ k => XS.iload X201.here hx rfl (hb hby at_150) rfl  k) ?_
            show OwnEnd p e below s _ _ _ (T201.setTop (mkF m 152 #[.val (.int p1), .val (.int p2), .val (.long q3), .second, .val (.long q4), .second, .val (.int p5), .val (.ref b101), .val (.int (1 : Int32)), .val (.int (p1 &&& (31 : Int32))), .val (.int (p2 &&& (31 : Int32))), .val (.int v123), .val (.int v124), .val (.int (2 : Int32)), .val (.int (own_min ((p5 >>> ((2 : Int32) &&& 31)) &&& (3 : Int32)) (2 : Int32)))] [(.int (own_min ((p5 >>> ((2 : Int32) &&& 31)) &&& (3 : Int32)) (2 : Int32)))]))
            refine OwnEnd.go (fun _ k => XS.iconst X201.here hx rfl (hb hby at_152) k) ?_
            show OwnEnd p e below s _ _ _ (T201.setTop (mkF m 153 #[.val (.int p1), .val (.int p2), .val (.long q3), .second, .val (.long q4), .second, .val (.int p5), .val (.ref b101), .val (.int (1 : Int32)), .val (.int (p1 &&& (31 : Int32))), .val (.int (p2 &&& (31 : Int32))), .val (.int v123), .val (.int v124), .val (.int (2 : Int32)), .val (.int (own_min ((p5 >>> ((2 : Int32) &&& 31)) &&& (3 : Int32)) (2 : Int32)))] [(.int (1 : Int32)), (.int (own_min ((p5 >>> ((2 : Int32) &&& 31)) &&& (3 : Int32)) (2 : Int32)))]))
            by_cases hc202 : (own_min ((p5 >>> ((2 : Int32) &&& 31)) &&& (3 : Int32)) (2 : Int32)) < (1 : Int32)
            · refine OwnEnd.go (fun _ k => XS.icmpYes X201.here hx rfl (pc0 := 153) (pc' := 193) rfl (hb hby at_153) rfl (tlt hc202).1 (by decide) (by decide) k) ?_
              show OwnEnd p e below s _ _ _ (T201.setTop (mkF m 193 #[.val (.int p1), .val (.int p2), .val (.long q3), .second, .val (.long q4), .second, .val (.int p5), .val (.ref b101), .val (.int (1 : Int32)), .val (.int (p1 &&& (31 : Int32))), .val (.int (p2 &&& (31 : Int32))), .val (.int v123), .val (.int v124), .val (.int (2 : Int32)), .val (.int (own_min ((p5 >>> ((2 : Int32) &&& 31)) &&& (3 : Int32)) (2 : Int32)))] []))
              refine OwnEnd.go (fun _ k => XS.iload X201.here hx rfl (hb hby at_193) rfl  k) ?_
              show OwnEnd p e below s _ _ _ (T201.setTop (mkF m 195 #[.val (.int p1), .val (.int p2), .val (.long q3), .second, .val (.long q4), .second, .val (.int p5), .val (.ref b101), .val (.int (1 : Int32)), .val (.int (p1 &&& (31 : Int32))), .val (.int (p2 &&& (31 : Int32))), .val (.int v123), .val (.int v124), .val (.int (2 : Int32)), .val (.int (own_min ((p5 >>> ((2 : Int32) &&& 31)) &&& (3 : Int32)) (2 : Int32)))] [(.int (own_min ((p5 >>> ((2 : Int32) &&& 31)) &&& (3 : Int32)) (2 : Int32)))]))
              refine OwnEnd.go (fun _ k => XS.iconst X201.here hx rfl (hb hby at_195) k) ?_
              show OwnEnd p e below s _ _ _ (T201.setTop (mkF m 196 #[.val (.int p1), .val (.int p2), .val (.long q3), .second, .val (.long q4), .second, .val (.int p5), .val (.ref b101), .val (.int (1 : Int32)), .val (.int (p1 &&& (31 : Int32))), .val (.int (p2 &&& (31 : Int32))), .val (.int v123), .val (.int v124), .val (.int (2 : Int32)), .val (.int (own_min ((p5 >>> ((2 : Int32) &&& 31)) &&& (3 : Int32)) (2 : Int32)))] [(.int (2 : Int32)), (.int (own_min ((p5 >>> ((2 : Int32) &&& 31)) &&& (3 : Int32)) (2 : Int32)))]))
              refine OwnEnd.go (fun _ k => XS.icmpYes X201.here hx rfl (pc0 := 196) (pc' := 225) rfl (hb hby at_196) rfl (tlt (own_lt12 hc202)).1 (by decide) (by decide) k) ?_
              show OwnEnd p e below s _ _ _ (T201.setTop (mkF m 225 #[.val (.int p1), .val (.int p2), .val (.long q3), .second, .val (.long q4), .second, .val (.int p5), .val (.ref b101), .val (.int (1 : Int32)), .val (.int (p1 &&& (31 : Int32))), .val (.int (p2 &&& (31 : Int32))), .val (.int v123), .val (.int v124), .val (.int (2 : Int32)), .val (.int (own_min ((p5 >>> ((2 : Int32) &&& 31)) &&& (3 : Int32)) (2 : Int32)))] []))
              refine OwnEnd.go (fun _ k => XS.iload X201.here hx rfl (hb hby at_225) rfl  k) ?_
              show OwnEnd p e below s _ _ _ (T201.setTop (mkF m 227 #[.val (.int p1), .val (.int p2), .val (.long q3), .second, .val (.long q4), .second, .val (.int p5), .val (.ref b101), .val (.int (1 : Int32)), .val (.int (p1 &&& (31 : Int32))), .val (.int (p2 &&& (31 : Int32))), .val (.int v123), .val (.int v124), .val (.int (2 : Int32)), .val (.int (own_min ((p5 >>> ((2 : Int32) &&& 31)) &&& (3 : Int32)) (2 : Int32)))] [(.int (1 : Int32))]))
              refine ownRetZ X201 hx hlk hret (hb hby at_227) (by decide) (by decide) (1 : Int32) (by decide) ?_
              show Q0 Z p1 p2 q3 q4 p5 h0 n0 _ T201.heap _
              rw [e201]
              exact ⟨rfl, N201⟩
            · refine OwnEnd.go (fun _ k => XS.icmpNo X201.here hx rfl (hb hby at_153) rfl (flt hc202).1 k) ?_
              show OwnEnd p e below s _ _ _ (T201.setTop (mkF m 156 #[.val (.int p1), .val (.int p2), .val (.long q3), .second, .val (.long q4), .second, .val (.int p5), .val (.ref b101), .val (.int (1 : Int32)), .val (.int (p1 &&& (31 : Int32))), .val (.int (p2 &&& (31 : Int32))), .val (.int v123), .val (.int v124), .val (.int (2 : Int32)), .val (.int (own_min ((p5 >>> ((2 : Int32) &&& 31)) &&& (3 : Int32)) (2 : Int32)))] []))
              refine OwnEnd.go (fun _ k => XS.aload X201.here hx rfl (hb hby at_156) rfl rfl k) ?_
              show OwnEnd p e below s _ _ _ (T201.setTop (mkF m 158 #[.val (.int p1), .val (.int p2), .val (.long q3), .second, .val (.long q4), .second, .val (.int p5), .val (.ref b101), .val (.int (1 : Int32)), .val (.int (p1 &&& (31 : Int32))), .val (.int (p2 &&& (31 : Int32))), .val (.int v123), .val (.int v124), .val (.int (2 : Int32)), .val (.int (own_min ((p5 >>> ((2 : Int32) &&& 31)) &&& (3 : Int32)) (2 : Int32)))] [(.ref b101)]))
              obtain ⟨_, T203, L203, X203, hQ203, st203⟩ := ownCallV X201 hx hZ hown ww68 ww69 ww71 ww70 ww2 ww72 (by decide) (rm14z2 l Z a0 hw [] b101 y114 y115 y116 (16 : Int32) y195 y196 y197 T191.heap n0 Y191  P192 P193 P194) e201 F198 0 (by decide) (by decide) (by decide) (by decide) (g := (mkF m 158 #[.val (.int p1), .val (.int p2), .val (.long q3), .second, .val (.long q4), .second, .val (.int p5), .val (.ref b101), .val (.int (1 : Int32)), .val (.int (p1 &&& (31 : Int32))), .val (.int (p2 &&& (31 : Int32))), .val (.int v123), .val (.int v124), .val (.int (2 : Int32)), .val (.int (own_min ((p5 >>> ((2 : Int32) &&& 31)) &&& (3 : Int32)) (2 : Int32)))] [(.ref b101)])) rfl (by rw [hml]; rfl) (argsL := []) (rest := []) (lenOf pd0_4 rfl) rfl rfl (by show 2 * 0 + _ ≤ _; exact Nat.le_of_eq rfl) (hb hby at_158)
              obtain ⟨rfl, N203q, K203q, P204⟩ := hQ203
              have N203 := Fr.app N201 N203q
              have F205 := F198.keep K203q
              have K203 := K191.trans K203q (allS (Or.inr v101) (allS (Or.inr (Nat.le_trans K101.1 P110)) (allS (Or.inr (Nat.le_trans K101.1 P111)) (allS (Or.inr (Nat.le_trans K101.1 P112)) all0))))
              have Y203 := Nat.le_trans Y191 K203q.1
              refine OwnEnd.go (fun _ k => st203 _ k) ?_
              show OwnEnd p e below s _ _ _ (T203.setTop (mkF m 161 #[.val (.int p1), .val (.int p2), .val (.long q3), .second, .val (.long q4), .second, .val (.int p5), .val (.ref b101), .val (.int (1 : Int32)), .val (.int (p1 &&& (31 : Int32))), .val (.int (p2 &&& (31 : Int32))), .val (.int v123), .val (.int v124), .val (.int (2 : Int32)), .val (.int (own_min ((p5 >>> ((2 : Int32) &&& 31)) &&& (3 : Int32)) (2 : Int32)))] [(.int y195)]))
              refine OwnEnd.go (fun _ k => XS.pop X203.here hx rfl (hb hby at_161) rfl rfl k) ?_
              show OwnEnd p e below s _ _ _ (T203.setTop (mkF m 162 #[.val (.int p1), .val (.int p2), .val (.long q3), .second, .val (.long q4), .second, .val (.int p5), .val (.ref b101), .val (.int (1 : Int32)), .val (.int (p1 &&& (31 : Int32))), .val (.int (p2 &&& (31 : Int32))), .val (.int v123), .val (.int v124), .val (.int (2 : Int32)), .val (.int (own_min ((p5 >>> ((2 : Int32) &&& 31)) &&& (3 : Int32)) (2 : Int32)))] []))
              refine OwnEnd.go (fun _ k => XS.iload X203.here hx rfl (hb hby at_162) rfl  k) ?_
              show OwnEnd p e below s _ _ _ (T203.setTop (mkF m 164 #[.val (.int p1), .val (.int p2), .val (.long q3), .second, .val (.long q4), .second, .val (.int p5), .val (.ref b101), .val (.int (1 : Int32)), .val (.int (p1 &&& (31 : Int32))), .val (.int (p2 &&& (31 : Int32))), .val (.int v123), .val (.int v124), .val (.int (2 : Int32)), .val (.int (own_min ((p5 >>> ((2 : Int32) &&& 31)) &&& (3 : Int32)) (2 : Int32)))] [(.int (1 : Int32))]))
              refine OwnEnd.go (fun _ k => XS.ifNo X203.here hx rfl (hb hby at_164) rfl ((if0 _ _).trans (feq (by decide : ¬ (1 : Int32) = (0 : Int32))).1) k) ?_
              show OwnEnd p e below s _ _ _ (T203.setTop (mkF m 167 #[.val (.int p1), .val (.int p2), .val (.long q3), .second, .val (.long q4), .second, .val (.int p5), .val (.ref b101), .val (.int (1 : Int32)), .val (.int (p1 &&& (31 : Int32))), .val (.int (p2 &&& (31 : Int32))), .val (.int v123), .val (.int v124), .val (.int (2 : Int32)), .val (.int (own_min ((p5 >>> ((2 : Int32) &&& 31)) &&& (3 : Int32)) (2 : Int32)))] []))
              refine OwnEnd.go (fun _ k => XS.aload X203.here hx rfl (hb hby at_167) rfl rfl k) ?_
              show OwnEnd p e below s _ _ _ (T203.setTop (mkF m 169 #[.val (.int p1), .val (.int p2), .val (.long q3), .second, .val (.long q4), .second, .val (.int p5), .val (.ref b101), .val (.int (1 : Int32)), .val (.int (p1 &&& (31 : Int32))), .val (.int (p2 &&& (31 : Int32))), .val (.int v123), .val (.int v124), .val (.int (2 : Int32)), .val (.int (own_min ((p5 >>> ((2 : Int32) &&& 31)) &&& (3 : Int32)) (2 : Int32)))] [(.ref b101)]))
              obtain ⟨_, T207, L207, X207, hQ207, st207⟩ := ownCallV X203 hx hZ hown ww24 ww25 ww27 ww26 ww2 ww28 (by decide) (rm5z1 l Z a0 hw [] b101 y114 y115 y116 (16 : Int32) y196 y196 (own_upd (own_upd y197 y195 (-1 : Int32)) y196 (0 : Int32)) T203.heap n0 Y203  P204) (rfl : T203.heap = T203.heap) F205 0 (by decide) (by decide) (by decide) (by decide) (g := (mkF m 169 #[.val (.int p1), .val (.int p2), .val (.long q3), .second, .val (.long q4), .second, .val (.int p5), .val (.ref b101), .val (.int (1 : Int32)), .val (.int (p1 &&& (31 : Int32))), .val (.int (p2 &&& (31 : Int32))), .val (.int v123), .val (.int v124), .val (.int (2 : Int32)), .val (.int (own_min ((p5 >>> ((2 : Int32) &&& 31)) &&& (3 : Int32)) (2 : Int32)))] [(.ref b101)])) rfl (by rw [hml]; rfl) (argsL := []) (rest := []) (lenOf pd0_1 rfl) rfl rfl (by show 2 * 0 + _ ≤ _; exact Nat.le_of_eq rfl) (hb hby at_169)
              obtain ⟨rfl, N207q, e207⟩ := hQ207
              have N207 := Fr.app N203 N207q
              refine OwnEnd.go (fun _ k => st207 _ k) ?_
              show OwnEnd p e below s _ _ _ (T207.setTop (mkF m 172 #[.val (.int p1), .val (.int p2), .val (.long q3), .second, .val (.long q4), .second, .val (.int p5), .val (.ref b101), .val (.int (1 : Int32)), .val (.int (p1 &&& (31 : Int32))), .val (.int (p2 &&& (31 : Int32))), .val (.int v123), .val (.int v124), .val (.int (2 : Int32)), .val (.int (own_min ((p5 >>> ((2 : Int32) &&& 31)) &&& (3 : Int32)) (2 : Int32)))] [(.int (0 : Int32))]))
              refine OwnEnd.go (fun _ k => XS.iload X207.here hx rfl (hb hby at_172) rfl  k) ?_
              show OwnEnd p e below s _ _ _ (T207.setTop (mkF m 174 #[.val (.int p1), .val (.int p2), .val (.long q3), .second, .val (.long q4), .second, .val (.int p5), .val (.ref b101), .val (.int (1 : Int32)), .val (.int (p1 &&& (31 : Int32))), .val (.int (p2 &&& (31 : Int32))), .val (.int v123), .val (.int v124), .val (.int (2 : Int32)), .val (.int (own_min ((p5 >>> ((2 : Int32) &&& 31)) &&& (3 : Int32)) (2 : Int32)))] [(.int (2 : Int32)), (.int (0 : Int32))]))
              refine OwnEnd.go (fun _ k => XS.iconst X207.here hx rfl (hb hby at_174) k) ?_
              show OwnEnd p e below s _ _ _ (T207.setTop (mkF m 175 #[.val (.int p1), .val (.int p2), .val (.long q3), .second, .val (.long q4), .second, .val (.int p5), .val (.ref b101), .val (.int (1 : Int32)), .val (.int (p1 &&& (31 : Int32))), .val (.int (p2 &&& (31 : Int32))), .val (.int v123), .val (.int v124), .val (.int (2 : Int32)), .val (.int (own_min ((p5 >>> ((2 : Int32) &&& 31)) &&& (3 : Int32)) (2 : Int32)))] [(.int (1 : Int32)), (.int (2 : Int32)), (.int (0 : Int32))]))
              refine OwnEnd.go (fun _ k => XS.icmpYes X207.here hx rfl (pc0 := 175) (pc' := 182) rfl (hb hby at_175) rfl (feq (by decide : ¬ (2 : Int32) = (1 : Int32))).2 (by decide) (by decide) k) ?_
              show OwnEnd p e below s _ _ _ (T207.setTop (mkF m 182 #[.val (.int p1), .val (.int p2), .val (.long q3), .second, .val (.long q4), .second, .val (.int p5), .val (.ref b101), .val (.int (1 : Int32)), .val (.int (p1 &&& (31 : Int32))), .val (.int (p2 &&& (31 : Int32))), .val (.int v123), .val (.int v124), .val (.int (2 : Int32)), .val (.int (own_min ((p5 >>> ((2 : Int32) &&& 31)) &&& (3 : Int32)) (2 : Int32)))] [(.int (0 : Int32))]))
              refine OwnEnd.go (fun _ k => XS.iconst X207.here hx rfl (hb hby at_182) k) ?_
              show OwnEnd p e below s _ _ _ (T207.setTop (mkF m 183 #[.val (.int p1), .val (.int p2), .val (.long q3), .second, .val (.long q4), .second, .val (.int p5), .val (.ref b101), .val (.int (1 : Int32)), .val (.int (p1 &&& (31 : Int32))), .val (.int (p2 &&& (31 : Int32))), .val (.int v123), .val (.int v124), .val (.int (2 : Int32)), .val (.int (own_min ((p5 >>> ((2 : Int32) &&& 31)) &&& (3 : Int32)) (2 : Int32)))] [(.int (0 : Int32)), (.int (0 : Int32))]))
              refine OwnEnd.go (fun _ k => XS.icmpNo X207.here hx rfl (hb hby at_183) rfl (teq (by decide : (0 : Int32) = (0 : Int32))).2 k) ?_
              show OwnEnd p e below s _ _ _ (T207.setTop (mkF m 186 #[.val (.int p1), .val (.int p2), .val (.long q3), .second, .val (.long q4), .second, .val (.int p5), .val (.ref b101), .val (.int (1 : Int32)), .val (.int (p1 &&& (31 : Int32))), .val (.int (p2 &&& (31 : Int32))), .val (.int v123), .val (.int v124), .val (.int (2 : Int32)), .val (.int (own_min ((p5 >>> ((2 : Int32) &&& 31)) &&& (3 : Int32)) (2 : Int32)))] []))
              refine OwnEnd.go (fun _ k => XS.iconst X207.here hx rfl (hb hby at_186) k) ?_
              show OwnEnd p e below s _ _ _ (T207.setTop (mkF m 187 #[.val (.int p1), .val (.int p2), .val (.long q3), .second, .val (.long q4), .second, .val (.int p5), .val (.ref b101), .val (.int (1 : Int32)), .val (.int (p1 &&& (31 : Int32))), .val (.int (p2 &&& (31 : Int32))), .val (.int v123), .val (.int v124), .val (.int (2 : Int32)), .val (.int (own_min ((p5 >>> ((2 : Int32) &&& 31)) &&& (3 : Int32)) (2 : Int32)))] [(.int (1 : Int32))]))
              refine OwnEnd.go (fun _ k => XS.goto X207.here hx rfl (pc0 := 187) (pc' := 191) rfl (hb hby at_187) (by decide) (by decide) k) ?_
              show OwnEnd p e below s _ _ _ (T207.setTop (mkF m 191 #[.val (.int p1), .val (.int p2), .val (.long q3), .second, .val (.long q4), .second, .val (.int p5), .val (.ref b101), .val (.int (1 : Int32)), .val (.int (p1 &&& (31 : Int32))), .val (.int (p2 &&& (31 : Int32))), .val (.int v123), .val (.int v124), .val (.int (2 : Int32)), .val (.int (own_min ((p5 >>> ((2 : Int32) &&& 31)) &&& (3 : Int32)) (2 : Int32)))] [(.int (1 : Int32))]))
              refine OwnEnd.go (fun _ k => XS.istore X207.here hx rfl (hb hby at_191) rfl  (l' := #[.val (.int p1), .val (.int p2), .val (.long q3), .second, .val (.long q4), .second, .val (.int p5), .val (.ref b101), .val (.int (1 : Int32)), .val (.int (p1 &&& (31 : Int32))), .val (.int (p2 &&& (31 : Int32))), .val (.int v123), .val (.int v124), .val (.int (2 : Int32)), .val (.int (own_min ((p5 >>> ((2 : Int32) &&& 31)) &&& (3 : Int32)) (2 : Int32)))]) rfl k) ?_
              show OwnEnd p e below s _ _ _ (T207.setTop (mkF m 193 #[.val (.int p1), .val (.int p2), .val (.long q3), .second, .val (.long q4), .second, .val (.int p5), .val (.ref b101), .val (.int (1 : Int32)), .val (.int (p1 &&& (31 : Int32))), .val (.int (p2 &&& (31 : Int32))), .val (.int v123), .val (.int v124), .val (.int (2 : Int32)), .val (.int (own_min ((p5 >>> ((2 : Int32) &&& 31)) &&& (3 : Int32)) (2 : Int32)))] []))
              refine OwnEnd.go (fun _ k => XS.iload X207.here hx rfl (hb hby at_193) rfl  k) ?_
              show OwnEnd p e below s _ _ _ (T207.setTop (mkF m 195 #[.val (.int p1), .val (.int p2), .val (.long q3), .second, .val (.long q4), .second, .val (.int p5), .val (.ref b101), .val (.int (1 : Int32)), .val (.int (p1 &&& (31 : Int32))), .val (.int (p2 &&& (31 : Int32))), .val (.int v123), .val (.int v124), .val (.int (2 : Int32)), .val (.int (own_min ((p5 >>> ((2 : Int32) &&& 31)) &&& (3 : Int32)) (2 : Int32)))] [(.int (own_min ((p5 >>> ((2 : Int32) &&& 31)) &&& (3 : Int32)) (2 : Int32)))]))
              refine OwnEnd.go (fun _ k => XS.iconst X207.here hx rfl (hb hby at_195) k) ?_
              show OwnEnd p e below s _ _ _ (T207.setTop (mkF m 196 #[.val (.int p1), .val (.int p2), .val (.long q3), .second, .val (.long q4), .second, .val (.int p5), .val (.ref b101), .val (.int (1 : Int32)), .val (.int (p1 &&& (31 : Int32))), .val (.int (p2 &&& (31 : Int32))), .val (.int v123), .val (.int v124), .val (.int (2 : Int32)), .val (.int (own_min ((p5 >>> ((2 : Int32) &&& 31)) &&& (3 : Int32)) (2 : Int32)))] [(.int (2 : Int32)), (.int (own_min ((p5 >>> ((2 : Int32) &&& 31)) &&& (3 : Int32)) (2 : Int32)))]))
              by_cases hc208 : (own_min ((p5 >>> ((2 : Int32) &&& 31)) &&& (3 : Int32)) (2 : Int32)) < (2 : Int32)
              · refine OwnEnd.go (fun _ k => XS.icmpYes X207.here hx rfl (pc0 := 196) (pc' := 225) rfl (hb hby at_196) rfl (tlt hc208).1 (by decide) (by decide) k) ?_
                show OwnEnd p e below s _ _ _ (T207.setTop (mkF m 225 #[.val (.int p1), .val (.int p2), .val (.long q3), .second, .val (.long q4), .second, .val (.int p5), .val (.ref b101), .val (.int (1 : Int32)), .val (.int (p1 &&& (31 : Int32))), .val (.int (p2 &&& (31 : Int32))), .val (.int v123), .val (.int v124), .val (.int (2 : Int32)), .val (.int (own_min ((p5 >>> ((2 : Int32) &&& 31)) &&& (3 : Int32)) (2 : Int32)))] []))
                refine OwnEnd.go (fun _ k => XS.iload X207.here hx rfl (hb hby at_225) rfl  k) ?_
                show OwnEnd p e below s _ _ _ (T207.setTop (mkF m 227 #[.val (.int p1), .val (.int p2), .val (.long q3), .second, .val (.long q4), .second, .val (.int p5), .val (.ref b101), .val (.int (1 : Int32)), .val (.int (p1 &&& (31 : Int32))), .val (.int (p2 &&& (31 : Int32))), .val (.int v123), .val (.int v124), .val (.int (2 : Int32)), .val (.int (own_min ((p5 >>> ((2 : Int32) &&& 31)) &&& (3 : Int32)) (2 : Int32)))] [(.int (1 : Int32))]))
                refine ownRetZ X207 hx hlk hret (hb hby at_227) (by decide) (by decide) (1 : Int32) (by decide) ?_
                show Q0 Z p1 p2 q3 q4 p5 h0 n0 _ T207.heap _
                rw [e207]
                exact ⟨rfl, N207⟩
              · refine OwnEnd.go (fun _ k => XS.icmpNo X207.here hx rfl (hb hby at_196) rfl (flt hc208).1 k) ?_
                show OwnEnd p e below s _ _ _ (T207.setTop (mkF m 199 #[.val (.int p1), .val (.int p2), .val (.long q3), .second, .val (.long q4), .second, .val (.int p5), .val (.ref b101), .val (.int (1 : Int32)), .val (.int (p1 &&& (31 : Int32))), .val (.int (p2 &&& (31 : Int32))), .val (.int v123), .val (.int v124), .val (.int (2 : Int32)), .val (.int (own_min ((p5 >>> ((2 : Int32) &&& 31)) &&& (3 : Int32)) (2 : Int32)))] []))
                refine OwnEnd.go (fun _ k => XS.aload X207.here hx rfl (hb hby at_199) rfl rfl k) ?_
                show OwnEnd p e below s _ _ _ (T207.setTop (mkF m 201 #[.val (.int p1), .val (.int p2), .val (.long q3), .second, .val (.long q4), .second, .val (.int p5), .val (.ref b101), .val (.int (1 : Int32)), .val (.int (p1 &&& (31 : Int32))), .val (.int (p2 &&& (31 : Int32))), .val (.int v123), .val (.int v124), .val (.int (2 : Int32)), .val (.int (own_min ((p5 >>> ((2 : Int32) &&& 31)) &&& (3 : Int32)) (2 : Int32)))] [(.ref b101)]))
                obtain ⟨_, T209, L209, X209, hQ209, st209⟩ := ownCallV X207 hx hZ hown ww68 ww69 ww71 ww70 ww2 ww72 (by decide) (rm14z1 l Z a0 hw [] b101 y114 y115 y116 (16 : Int32) y196 y196 (own_upd (own_upd y197 y195 (-1 : Int32)) y196 (0 : Int32)) T203.heap n0 Y203  P204 P194) e207 F205 0 (by decide) (by decide) (by decide) (by decide) (g := (mkF m 201 #[.val (.int p1), .val (.int p2), .val (.long q3), .second, .val (.long q4), .second, .val (.int p5), .val (.ref b101), .val (.int (1 : Int32)), .val (.int (p1 &&& (31 : Int32))), .val (.int (p2 &&& (31 : Int32))), .val (.int v123), .val (.int v124), .val (.int (2 : Int32)), .val (.int (own_min ((p5 >>> ((2 : Int32) &&& 31)) &&& (3 : Int32)) (2 : Int32)))] [(.ref b101)])) rfl (by rw [hml]; rfl) (argsL := []) (rest := []) (lenOf pd0_4 rfl) rfl rfl (by show 2 * 0 + _ ≤ _; exact Nat.le_of_eq rfl) (hb hby at_201)
                obtain ⟨rfl, N209q, K209q, P210⟩ := hQ209
                have N209 := Fr.app N207 N209q
                have F211 := F205.keep K209q
                have K209 := K203.trans K209q (allS (Or.inr v101) (allS (Or.inr (Nat.le_trans K101.1 P110)) (allS (Or.inr (Nat.le_trans K101.1 P111)) (allS (Or.inr (Nat.le_trans K101.1 P112)) all0))))
                have Y209 := Nat.le_trans Y203 K209q.1
                refine OwnEnd.go (fun _ k => st209 _ k) ?_
                show OwnEnd p e below s _ _ _ (T209.setTop (mkF m 204 #[.val (.int p1), .val (.int p2), .val (.long q3), .second, .val (.long q4), .second, .val (.int p5), .val (.ref b101), .val (.int (1 : Int32)), .val (.int (p1 &&& (31 : Int32))), .val (.int (p2 &&& (31 : Int32))), .val (.int v123), .val (.int v124), .val (.int (2 : Int32)), .val (.int (own_min ((p5 >>> ((2 : Int32) &&& 31)) &&& (3 : Int32)) (2 : Int32)))] [(.int y196)]))
                refine OwnEnd.go (fun _ k => XS.pop X209.here hx rfl (hb hby at_204) rfl rfl k) ?_
                show OwnEnd p e below s _ _ _ (T209.setTop (mkF m 205 #[.val (.int p1), .val (.int p2), .val (.long q3), .second, .val (.long q4), .second, .val (.int p5), .val (.ref b101), .val (.int (1 : Int32)), .val (.int (p1 &&& (31 : Int32))), .val (.int (p2 &&& (31 : Int32))), .val (.int v123), .val (.int v124), .val (.int (2 : Int32)), .val (.int (own_min ((p5 >>> ((2 : Int32) &&& 31)) &&& (3 : Int32)) (2 : Int32)))] []))
                refine OwnEnd.go (fun _ k => XS.iload X209.here hx rfl (hb hby at_205) rfl  k) ?_
                show OwnEnd p e below s _ _ _ (T209.setTop (mkF m 207 #[.val (.int p1), .val (.int p2), .val (.long q3), .second, .val (.long q4), .second, .val (.int p5), .val (.ref b101), .val (.int (1 : Int32)), .val (.int (p1 &&& (31 : Int32))), .val (.int (p2 &&& (31 : Int32))), .val (.int v123), .val (.int v124), .val (.int (2 : Int32)), .val (.int (own_min ((p5 >>> ((2 : Int32) &&& 31)) &&& (3 : Int32)) (2 : Int32)))] [(.int (1 : Int32))]))
                refine OwnEnd.go (fun _ k => XS.ifNo X209.here hx rfl (hb hby at_207) rfl ((if0 _ _).trans (feq (by decide : ¬ (1 : Int32) = (0 : Int32))).1) k) ?_
                show OwnEnd p e below s _ _ _ (T209.setTop (mkF m 210 #[.val (.int p1), .val (.int p2), .val (.long q3), .second, .val (.long q4), .second, .val (.int p5), .val (.ref b101), .val (.int (1 : Int32)), .val (.int (p1 &&& (31 : Int32))), .val (.int (p2 &&& (31 : Int32))), .val (.int v123), .val (.int v124), .val (.int (2 : Int32)), .val (.int (own_min ((p5 >>> ((2 : Int32) &&& 31)) &&& (3 : Int32)) (2 : Int32)))] []))
                refine OwnEnd.go (fun _ k => XS.aload X209.here hx rfl (hb hby at_210) rfl rfl k) ?_
                show OwnEnd p e below s _ _ _ (T209.setTop (mkF m 212 #[.val (.int p1), .val (.int p2), .val (.long q3), .second, .val (.long q4), .second, .val (.int p5), .val (.ref b101), .val (.int (1 : Int32)), .val (.int (p1 &&& (31 : Int32))), .val (.int (p2 &&& (31 : Int32))), .val (.int v123), .val (.int v124), .val (.int (2 : Int32)), .val (.int (own_min ((p5 >>> ((2 : Int32) &&& 31)) &&& (3 : Int32)) (2 : Int32)))] [(.ref b101)]))
                obtain ⟨_, T213, L213, X213, hQ213, st213⟩ := ownCallV X209 hx hZ hown ww24 ww25 ww27 ww26 ww2 ww28 (by decide) (rm5z0 l Z a0 hw [] b101 y114 y115 y116 (16 : Int32) y196 y196 (own_upd (own_upd (own_upd y197 y195 (-1 : Int32)) y196 (0 : Int32)) y196 (-1 : Int32)) T209.heap n0 Y209  P210) (rfl : T209.heap = T209.heap) F211 0 (by decide) (by decide) (by decide) (by decide) (g := (mkF m 212 #[.val (.int p1), .val (.int p2), .val (.long q3), .second, .val (.long q4), .second, .val (.int p5), .val (.ref b101), .val (.int (1 : Int32)), .val (.int (p1 &&& (31 : Int32))), .val (.int (p2 &&& (31 : Int32))), .val (.int v123), .val (.int v124), .val (.int (2 : Int32)), .val (.int (own_min ((p5 >>> ((2 : Int32) &&& 31)) &&& (3 : Int32)) (2 : Int32)))] [(.ref b101)])) rfl (by rw [hml]; rfl) (argsL := []) (rest := []) (lenOf pd0_1 rfl) rfl rfl (by show 2 * 0 + _ ≤ _; exact Nat.le_of_eq rfl) (hb hby at_212)
                obtain ⟨rfl, N213q, e213⟩ := hQ213
                have N213 := Fr.app N209 N213q
                refine OwnEnd.go (fun _ k => st213 _ k) ?_
                show OwnEnd p e below s _ _ _ (T213.setTop (mkF m 215 #[.val (.int p1), .val (.int p2), .val (.long q3), .second, .val (.long q4), .second, .val (.int p5), .val (.ref b101), .val (.int (1 : Int32)), .val (.int (p1 &&& (31 : Int32))), .val (.int (p2 &&& (31 : Int32))), .val (.int v123), .val (.int v124), .val (.int (2 : Int32)), .val (.int (own_min ((p5 >>> ((2 : Int32) &&& 31)) &&& (3 : Int32)) (2 : Int32)))] [(.int (1 : Int32))]))
                refine OwnEnd.go (fun _ k => XS.ifNo X213.here hx rfl (hb hby at_215) rfl ((if0 _ _).trans (feq (by decide : ¬ (1 : Int32) = (0 : Int32))).1) k) ?_
                show OwnEnd p e below s _ _ _ (T213.setTop (mkF m 218 #[.val (.int p1), .val (.int p2), .val (.long q3), .second, .val (.long q4), .second, .val (.int p5), .val (.ref b101), .val (.int (1 : Int32)), .val (.int (p1 &&& (31 : Int32))), .val (.int (p2 &&& (31 : Int32))), .val (.int v123), .val (.int v124), .val (.int (2 : Int32)), .val (.int (own_min ((p5 >>> ((2 : Int32) &&& 31)) &&& (3 : Int32)) (2 : Int32)))] []))
                refine OwnEnd.go (fun _ k => XS.iconst X213.here hx rfl (hb hby at_218) k) ?_
                show OwnEnd p e below s _ _ _ (T213.setTop (mkF m 219 #[.val (.int p1), .val (.int p2), .val (.long q3), .second, .val (.long q4), .second, .val (.int p5), .val (.ref b101), .val (.int (1 : Int32)), .val (.int (p1 &&& (31 : Int32))), .val (.int (p2 &&& (31 : Int32))), .val (.int v123), .val (.int v124), .val (.int (2 : Int32)), .val (.int (own_min ((p5 >>> ((2 : Int32) &&& 31)) &&& (3 : Int32)) (2 : Int32)))] [(.int (1 : Int32))]))
                refine OwnEnd.go (fun _ k => XS.goto X213.here hx rfl (pc0 := 219) (pc' := 223) rfl (hb hby at_219) (by decide) (by decide) k) ?_
                show OwnEnd p e below s _ _ _ (T213.setTop (mkF m 223 #[.val (.int p1), .val (.int p2), .val (.long q3), .second, .val (.long q4), .second, .val (.int p5), .val (.ref b101), .val (.int (1 : Int32)), .val (.int (p1 &&& (31 : Int32))), .val (.int (p2 &&& (31 : Int32))), .val (.int v123), .val (.int v124), .val (.int (2 : Int32)), .val (.int (own_min ((p5 >>> ((2 : Int32) &&& 31)) &&& (3 : Int32)) (2 : Int32)))] [(.int (1 : Int32))]))
                refine OwnEnd.go (fun _ k => XS.istore X213.here hx rfl (hb hby at_223) rfl  (l' := #[.val (.int p1), .val (.int p2), .val (.long q3), .second, .val (.long q4), .second, .val (.int p5), .val (.ref b101), .val (.int (1 : Int32)), .val (.int (p1 &&& (31 : Int32))), .val (.int (p2 &&& (31 : Int32))), .val (.int v123), .val (.int v124), .val (.int (2 : Int32)), .val (.int (own_min ((p5 >>> ((2 : Int32) &&& 31)) &&& (3 : Int32)) (2 : Int32)))]) rfl k) ?_
                show OwnEnd p e below s _ _ _ (T213.setTop (mkF m 225 #[.val (.int p1), .val (.int p2), .val (.long q3), .second, .val (.long q4), .second, .val (.int p5), .val (.ref b101), .val (.int (1 : Int32)), .val (.int (p1 &&& (31 : Int32))), .val (.int (p2 &&& (31 : Int32))), .val (.int v123), .val (.int v124), .val (.int (2 : Int32)), .val (.int (own_min ((p5 >>> ((2 : Int32) &&& 31)) &&& (3 : Int32)) (2 : Int32)))] []))
                refine OwnEnd.go (fun _ k => XS.iload X213.here hx rfl (hb hby at_225) rfl  k) ?_
                show OwnEnd p e below s _ _ _ (T213.setTop (mkF m 227 #[.val (.int p1), .val (.int p2), .val (.long q3), .second, .val (.long q4), .second, .val (.int p5), .val (.ref b101), .val (.int (1 : Int32)), .val (.int (p1 &&& (31 : Int32))), .val (.int (p2 &&& (31 : Int32))), .val (.int v123), .val (.int v124), .val (.int (2 : Int32)), .val (.int (own_min ((p5 >>> ((2 : Int32) &&& 31)) &&& (3 : Int32)) (2 : Int32)))] [(.int (1 : Int32))]))
                refine ownRetZ X213 hx hlk hret (hb hby at_227) (by decide) (by decide) (1 : Int32) (by decide) ?_
                show Q0 Z p1 p2 q3 q4 p5 h0 n0 _ T213.heap _
                rw [e213]
                exact ⟨rfl, N213⟩
          · show OwnEnd p e below s _ _ _ (T161.setTop (mkF m 80 #[.val (.int p1), .val (.int p2), .val (.long q3), .second, .val (.long q4), .second, .val (.int p5), .val (.ref b101), .val (.int (1 : Int32)), .val (.int (p1 &&& (31 : Int32))), .val (.int (p2 &&& (31 : Int32))), .val (.int v123), .val (.int v124), .val (.int (1 : Int32)), .unset] []))
            refine OwnEnd.go (fun _ k => XS.aload X161.here hx rfl (hb hby at_80) rfl rfl k) ?_
            show OwnEnd p e below s _ _ _ (T161.setTop (mkF m 82 #[.val (.int p1), .val (.int p2), .val (.long q3), .second, .val (.long q4), .second, .val (.int p5), .val (.ref b101), .val (.int (1 : Int32)), .val (.int (p1 &&& (31 : Int32))), .val (.int (p2 &&& (31 : Int32))), .val (.int v123), .val (.int v124), .val (.int (1 : Int32)), .unset] [(.ref b101)]))
            refine OwnEnd.go (fun _ k => XS.iload X161.here hx rfl (hb hby at_82) rfl  k) ?_
            show OwnEnd p e below s _ _ _ (T161.setTop (mkF m 84 #[.val (.int p1), .val (.int p2), .val (.long q3), .second, .val (.long q4), .second, .val (.int p5), .val (.ref b101), .val (.int (1 : Int32)), .val (.int (p1 &&& (31 : Int32))), .val (.int (p2 &&& (31 : Int32))), .val (.int v123), .val (.int v124), .val (.int (1 : Int32)), .unset] [(.int (p2 &&& (31 : Int32))), (.ref b101)]))
            refine OwnEnd.go (fun _ k => XS.lload X161.here hx rfl (hb hby at_84) rfl  k) ?_
            show OwnEnd p e below s _ _ _ (T161.setTop (mkF m 86 #[.val (.int p1), .val (.int p2), .val (.long q3), .second, .val (.long q4), .second, .val (.int p5), .val (.ref b101), .val (.int (1 : Int32)), .val (.int (p1 &&& (31 : Int32))), .val (.int (p2 &&& (31 : Int32))), .val (.int v123), .val (.int v124), .val (.int (1 : Int32)), .unset] [(.long q4), (.int (p2 &&& (31 : Int32))), (.ref b101)]))
            obtain ⟨_, T214, L214, X214, hQ214, st214⟩ := ownCallV X161 hx hZ hown ww31 ww32 ww34 ww33 ww2 ww35 (by decide) (rm6s1c16g l Z a0 hw [] b101 (p2 &&& (31 : Int32)) q4 y114 y115 y116 (p1 &&& (31 : Int32)) (0 : Int32) (own_upd (fun _ => (-1 : Int32)) (p1 &&& (31 : Int32)) (0 : Int32)) T161.heap n0 Y161  P162 (own_rng _) hs190 ⟨(own_rng _).1, hs160⟩) (rfl : T161.heap = T161.heap) F163 0 (by decide) (by decide) (by decide) (by decide) (g := (mkF m 86 #[.val (.int p1), .val (.int p2), .val (.long q3), .second, .val (.long q4), .second, .val (.int p5), .val (.ref b101), .val (.int (1 : Int32)), .val (.int (p1 &&& (31 : Int32))), .val (.int (p2 &&& (31 : Int32))), .val (.int v123), .val (.int v124), .val (.int (1 : Int32)), .unset] [(.long q4), (.int (p2 &&& (31 : Int32))), (.ref b101)])) rfl (by rw [hml]; rfl) (argsL := [(.int (p2 &&& (31 : Int32))), (.long q4)]) (rest := []) (lenOf pd0_3 rfl) rfl rfl (by show 2 * 0 + _ ≤ _; exact Nat.le_of_eq rfl) (hb hby at_86)
            obtain ⟨y222, y223, y224, y225, y226, hQ214⟩ := hQ214
            obtain ⟨rfl, N214q, K214q, P215, P216, P217, P218, P219, P220, P221⟩ := hQ214
            have N214 := Fr.app N161 N214q
            have F227 := F163.keep K214q
            have K214 := K161.trans K214q (allS (Or.inr v101) (allS (Or.inr (Nat.le_trans K101.1 P110)) (allS (Or.inr (Nat.le_trans K101.1 P111)) (allS (Or.inr (Nat.le_trans K101.1 P112)) all0))))
            have Y214 := Nat.le_trans Y161 K214q.1
            refine OwnEnd.go (fun _ k => st214 _ k) ?_
            show OwnEnd p e below s _ _ _ (T214.setTop (mkF m 89 #[.val (.int p1), .val (.int p2), .val (.long q3), .second, .val (.long q4), .second, .val (.int p5), .val (.ref b101), .val (.int (1 : Int32)), .val (.int (p1 &&& (31 : Int32))), .val (.int (p2 &&& (31 : Int32))), .val (.int v123), .val (.int v124), .val (.int (1 : Int32)), .unset] []))
            refine OwnEnd.go (fun _ k => XS.iload X214.here hx rfl (hb hby at_89) rfl  k) ?_
            show OwnEnd p e below s _ _ _ (T214.setTop (mkF m 91 #[.val (.int p1), .val (.int p2), .val (.long q3), .second, .val (.long q4), .second, .val (.int p5), .val (.ref b101), .val (.int (1 : Int32)), .val (.int (p1 &&& (31 : Int32))), .val (.int (p2 &&& (31 : Int32))), .val (.int v123), .val (.int v124), .val (.int (1 : Int32)), .unset] [(.int v123)]))
            refine OwnEnd.go (fun _ k => XS.ifNo X214.here hx rfl (hb hby at_91) rfl ((if0 _ _).trans (feq hc125).1) k) ?_
            show OwnEnd p e below s _ _ _ (T214.setTop (mkF m 94 #[.val (.int p1), .val (.int p2), .val (.long q3), .second, .val (.long q4), .second, .val (.int p5), .val (.ref b101), .val (.int (1 : Int32)), .val (.int (p1 &&& (31 : Int32))), .val (.int (p2 &&& (31 : Int32))), .val (.int v123), .val (.int v124), .val (.int (1 : Int32)), .unset] []))
            refine OwnEnd.go (fun _ k => XS.iload X214.here hx rfl (hb hby at_94) rfl  k) ?_
            show OwnEnd p e below s _ _ _ (T214.setTop (mkF m 96 #[.val (.int p1), .val (.int p2), .val (.long q3), .second, .val (.long q4), .second, .val (.int p5), .val (.ref b101), .val (.int (1 : Int32)), .val (.int (p1 &&& (31 : Int32))), .val (.int (p2 &&& (31 : Int32))), .val (.int v123), .val (.int v124), .val (.int (1 : Int32)), .unset] [(.int (p2 &&& (31 : Int32)))]))
            refine OwnEnd.go (fun _ k => XS.iload X214.here hx rfl (hb hby at_96) rfl  k) ?_
            show OwnEnd p e below s _ _ _ (T214.setTop (mkF m 98 #[.val (.int p1), .val (.int p2), .val (.long q3), .second, .val (.long q4), .second, .val (.int p5), .val (.ref b101), .val (.int (1 : Int32)), .val (.int (p1 &&& (31 : Int32))), .val (.int (p2 &&& (31 : Int32))), .val (.int v123), .val (.int v124), .val (.int (1 : Int32)), .unset] [(.int (p1 &&& (31 : Int32))), (.int (p2 &&& (31 : Int32)))]))
            refine OwnEnd.go (fun _ k => XS.icmpNo X214.here hx rfl (hb hby at_98) rfl (feq hs174).1 k) ?_
            show OwnEnd p e below s _ _ _ (T214.setTop (mkF m 101 #[.val (.int p1), .val (.int p2), .val (.long q3), .second, .val (.long q4), .second, .val (.int p5), .val (.ref b101), .val (.int (1 : Int32)), .val (.int (p1 &&& (31 : Int32))), .val (.int (p2 &&& (31 : Int32))), .val (.int v123), .val (.int v124), .val (.int (1 : Int32)), .unset] []))
            refine OwnEnd.go (fun _ k => XS.iload X214.here hx rfl (hb hby at_101) rfl  k) ?_
            show OwnEnd p e below s _ _ _ (T214.setTop (mkF m 103 #[.val (.int p1), .val (.int p2), .val (.long q3), .second, .val (.long q4), .second, .val (.int p5), .val (.ref b101), .val (.int (1 : Int32)), .val (.int (p1 &&& (31 : Int32))), .val (.int (p2 &&& (31 : Int32))), .val (.int v123), .val (.int v124), .val (.int (1 : Int32)), .unset] [(.int (1 : Int32))]))
            refine OwnEnd.go (fun _ k => XS.iconst X214.here hx rfl (hb hby at_103) k) ?_
            show OwnEnd p e below s _ _ _ (T214.setTop (mkF m 104 #[.val (.int p1), .val (.int p2), .val (.long q3), .second, .val (.long q4), .second, .val (.int p5), .val (.ref b101), .val (.int (1 : Int32)), .val (.int (p1 &&& (31 : Int32))), .val (.int (p2 &&& (31 : Int32))), .val (.int v123), .val (.int v124), .val (.int (1 : Int32)), .unset] [(.int (1 : Int32)), (.int (1 : Int32))]))
            refine OwnEnd.go (fun _ k => XS.iadd X214.here hx rfl (hb hby at_104) rfl k) ?_
            show OwnEnd p e below s _ _ _ (T214.setTop (mkF m 105 #[.val (.int p1), .val (.int p2), .val (.long q3), .second, .val (.long q4), .second, .val (.int p5), .val (.ref b101), .val (.int (1 : Int32)), .val (.int (p1 &&& (31 : Int32))), .val (.int (p2 &&& (31 : Int32))), .val (.int v123), .val (.int v124), .val (.int (1 : Int32)), .unset] [(.int (2 : Int32))]))
            refine OwnEnd.go (fun _ k => XS.istore X214.here hx rfl (hb hby at_105) rfl  (l' := #[.val (.int p1), .val (.int p2), .val (.long q3), .second, .val (.long q4), .second, .val (.int p5), .val (.ref b101), .val (.int (1 : Int32)), .val (.int (p1 &&& (31 : Int32))), .val (.int (p2 &&& (31 : Int32))), .val (.int v123), .val (.int v124), .val (.int (2 : Int32)), .unset]) rfl k) ?_
            show OwnEnd p e below s _ _ _ (T214.setTop (mkF m 107 #[.val (.int p1), .val (.int p2), .val (.long q3), .second, .val (.long q4), .second, .val (.int p5), .val (.ref b101), .val (.int (1 : Int32)), .val (.int (p1 &&& (31 : Int32))), .val (.int (p2 &&& (31 : Int32))), .val (.int v123), .val (.int v124), .val (.int (2 : Int32)), .unset] []))
            refine OwnEnd.go (fun _ k => XS.iload X214.here hx rfl (hb hby at_107) rfl  k) ?_
            show OwnEnd p e below s _ _ _ (T214.setTop (mkF m 109 #[.val (.int p1), .val (.int p2), .val (.long q3), .second, .val (.long q4), .second, .val (.int p5), .val (.ref b101), .val (.int (1 : Int32)), .val (.int (p1 &&& (31 : Int32))), .val (.int (p2 &&& (31 : Int32))), .val (.int v123), .val (.int v124), .val (.int (2 : Int32)), .unset] [(.int (1 : Int32))]))
            refine OwnEnd.go (fun _ k => XS.ifNo X214.here hx rfl (hb hby at_109) rfl ((if0 _ _).trans (feq (by decide : ¬ (1 : Int32) = (0 : Int32))).1) k) ?_
            show OwnEnd p e below s _ _ _ (T214.setTop (mkF m 112 #[.val (.int p1), .val (.int p2), .val (.long q3), .second, .val (.long q4), .second, .val (.int p5), .val (.ref b101), .val (.int (1 : Int32)), .val (.int (p1 &&& (31 : Int32))), .val (.int (p2 &&& (31 : Int32))), .val (.int v123), .val (.int v124), .val (.int (2 : Int32)), .unset] []))
            refine OwnEnd.go (fun _ k => XS.aload X214.here hx rfl (hb hby at_112) rfl rfl k) ?_
            show OwnEnd p e below s _ _ _ (T214.setTop (mkF m 114 #[.val (.int p1), .val (.int p2), .val (.long q3), .second, .val (.long q4), .second, .val (.int p5), .val (.ref b101), .val (.int (1 : Int32)), .val (.int (p1 &&& (31 : Int32))), .val (.int (p2 &&& (31 : Int32))), .val (.int v123), .val (.int v124), .val (.int (2 : Int32)), .unset] [(.ref b101)]))
            obtain ⟨_, T229, L229, X229, hQ229, st229⟩ := ownCallV X214 hx hZ hown ww24 ww25 ww27 ww26 ww2 ww28 (by decide) (rm5z2 l Z a0 hw [] b101 y114 y222 y223 (32 : Int32) y224 y225 y226 T214.heap n0 Y214  P219) (rfl : T214.heap = T214.heap) F227 0 (by decide) (by decide) (by decide) (by decide) (g := (mkF m 114 #[.val (.int p1), .val (.int p2), .val (.long q3), .second, .val (.long q4), .second, .val (.int p5), .val (.ref b101), .val (.int (1 : Int32)), .val (.int (p1 &&& (31 : Int32))), .val (.int (p2 &&& (31 : Int32))), .val (.int v123), .val (.int v124), .val (.int (2 : Int32)), .unset] [(.ref b101)])) rfl (by rw [hml]; rfl) (argsL := []) (rest := []) (lenOf pd0_1 rfl) rfl rfl (by show 2 * 0 + _ ≤ _; exact Nat.le_of_eq rfl) (hb hby at_114)
            obtain ⟨rfl, N229q, e229⟩ := hQ229
            have N229 := Fr.app N214 N229q
            refine OwnEnd.go (fun _ k => st229 _ k) ?_
            show OwnEnd p e below s _ _ _ (T229.setTop (mkF m 117 #[.val (.int p1), .val (.int p2), .val (.long q3), .second, .val (.long q4), .second, .val (.int p5), .val (.ref b101), .val (.int (1 : Int32)), .val (.int (p1 &&& (31 : Int32))), .val (.int (p2 &&& (31 : Int32))), .val (.int v123), .val (.int v124), .val (.int (2 : Int32)), .unset] [(.int (0 : Int32))]))
            refine OwnEnd.go (fun _ k => XS.iload X229.here hx rfl (hb hby at_117) rfl  k) ?_
            show OwnEnd p e below s _ _ _ (T229.setTop (mkF m 119 #[.val (.int p1), .val (.int p2), .val (.long q3), .second, .val (.long q4), .second, .val (.int p5), .val (.ref b101), .val (.int (1 : Int32)), .val (.int (p1 &&& (31 : Int32))), .val (.int (p2 &&& (31 : Int32))), .val (.int v123), .val (.int v124), .val (.int (2 : Int32)), .unset] [(.int (2 : Int32)), (.int (0 : Int32))]))
            refine OwnEnd.go (fun _ k => XS.ifYes X229.here hx rfl (pc0 := 119) (pc' := 126) rfl (hb hby at_119) rfl ((if0 _ _).trans (feq (by decide : ¬ (2 : Int32) = (0 : Int32))).2) (by decide) (by decide) k) ?_
            show OwnEnd p e below s _ _ _ (T229.setTop (mkF m 126 #[.val (.int p1), .val (.int p2), .val (.long q3), .second, .val (.long q4), .second, .val (.int p5), .val (.ref b101), .val (.int (1 : Int32)), .val (.int (p1 &&& (31 : Int32))), .val (.int (p2 &&& (31 : Int32))), .val (.int v123), .val (.int v124), .val (.int (2 : Int32)), .unset] [(.int (0 : Int32))]))
            refine OwnEnd.go (fun _ k => XS.iconst X229.here hx rfl (hb hby at_126) k) ?_
            show OwnEnd p e below s _ _ _ (T229.setTop (mkF m 127 #[.val (.int p1), .val (.int p2), .val (.long q3), .second, .val (.long q4), .second, .val (.int p5), .val (.ref b101), .val (.int (1 : Int32)), .val (.int (p1 &&& (31 : Int32))), .val (.int (p2 &&& (31 : Int32))), .val (.int v123), .val (.int v124), .val (.int (2 : Int32)), .unset] [(.int (0 : Int32)), (.int (0 : Int32))]))
            refine OwnEnd.go (fun _ k => XS.icmpNo X229.here hx rfl (hb hby at_127) rfl (teq (by decide : (0 : Int32) = (0 : Int32))).2 k) ?_
            show OwnEnd p e below s _ _ _ (T229.setTop (mkF m 130 #[.val (.int p1), .val (.int p2), .val (.long q3), .second, .val (.long q4), .second, .val (.int p5), .val (.ref b101), .val (.int (1 : Int32)), .val (.int (p1 &&& (31 : Int32))), .val (.int (p2 &&& (31 : Int32))), .val (.int v123), .val (.int v124), .val (.int (2 : Int32)), .unset] []))
            refine OwnEnd.go (fun _ k => XS.iconst X229.here hx rfl (hb hby at_130) k) ?_
            show OwnEnd p e below s _ _ _ (T229.setTop (mkF m 131 #[.val (.int p1), .val (.int p2), .val (.long q3), .second, .val (.long q4), .second, .val (.int p5), .val (.ref b101), .val (.int (1 : Int32)), .val (.int (p1 &&& (31 : Int32))), .val (.int (p2 &&& (31 : Int32))), .val (.int v123), .val (.int v124), .val (.int (2 : Int32)), .unset] [(.int (1 : Int32))]))
            refine OwnEnd.go (fun _ k => XS.goto X229.here hx rfl (pc0 := 131) (pc' := 135) rfl (hb hby at_131) (by decide) (by decide) k) ?_
            show OwnEnd p e below s _ _ _ (T229.setTop (mkF m 135 #[.val (.int p1), .val (.int p2), .val (.long q3), .second, .val (.long q4), .second, .val (.int p5), .val (.ref b101), .val (.int (1 : Int32)), .val (.int (p1 &&& (31 : Int32))), .val (.int (p2 &&& (31 : Int32))), .val (.int v123), .val (.int v124), .val (.int (2 : Int32)), .unset] [(.int (1 : Int32))]))
            refine OwnEnd.go (fun _ k => XS.istore X229.here hx rfl (hb hby at_135) rfl  (l' := #[.val (.int p1), .val (.int p2), .val (.long q3), .second, .val (.long q4), .second, .val (.int p5), .val (.ref b101), .val (.int (1 : Int32)), .val (.int (p1 &&& (31 : Int32))), .val (.int (p2 &&& (31 : Int32))), .val (.int v123), .val (.int v124), .val (.int (2 : Int32)), .unset]) rfl k) ?_
            show OwnEnd p e below s _ _ _ (T229.setTop (mkF m 137 #[.val (.int p1), .val (.int p2), .val (.long q3), .second, .val (.long q4), .second, .val (.int p5), .val (.ref b101), .val (.int (1 : Int32)), .val (.int (p1 &&& (31 : Int32))), .val (.int (p2 &&& (31 : Int32))), .val (.int v123), .val (.int v124), .val (.int (2 : Int32)), .unset] []))
            refine OwnEnd.go (fun _ k => XS.iload X229.here hx rfl (hb hby at_137) rfl  k) ?_
            show OwnEnd p e below s _ _ _ (T229.setTop (mkF m 139 #[.val (.int p1), .val (.int p2), .val (.long q3), .second, .val (.long q4), .second, .val (.int p5), .val (.ref b101), .val (.int (1 : Int32)), .val (.int (p1 &&& (31 : Int32))), .val (.int (p2 &&& (31 : Int32))), .val (.int v123), .val (.int v124), .val (.int (2 : Int32)), .unset] [(.int p5)]))
            refine OwnEnd.go (fun _ k => XS.iconst X229.here hx rfl (hb hby at_139) k) ?_
            show OwnEnd p e below s _ _ _ (T229.setTop (mkF m 140 #[.val (.int p1), .val (.int p2), .val (.long q3), .second, .val (.long q4), .second, .val (.int p5), .val (.ref b101), .val (.int (1 : Int32)), .val (.int (p1 &&& (31 : Int32))), .val (.int (p2 &&& (31 : Int32))), .val (.int v123), .val (.int v124), .val (.int (2 : Int32)), .unset] [(.int (2 : Int32)), (.int p5)]))
            refine OwnEnd.go (fun _ k => XS.ishr X229.here hx rfl (hb hby at_140) rfl k) ?_
            show OwnEnd p e below s _ _ _ (T229.setTop (mkF m 141 #[.val (.int p1), .val (.int p2), .val (.long q3), .second, .val (.long q4), .second, .val (.int p5), .val (.ref b101), .val (.int (1 : Int32)), .val (.int (p1 &&& (31 : Int32))), .val (.int (p2 &&& (31 : Int32))), .val (.int v123), .val (.int v124), .val (.int (2 : Int32)), .unset] [(.int (p5 >>> ((2 : Int32) &&& 31)))]))
            refine OwnEnd.go (fun _ k => XS.iconst X229.here hx rfl (hb hby at_141) k) ?_
            show OwnEnd p e below s _ _ _ (T229.setTop (mkF m 142 #[.val (.int p1), .val (.int p2), .val (.long q3), .second, .val (.long q4), .second, .val (.int p5), .val (.ref b101), .val (.int (1 : Int32)), .val (.int (p1 &&& (31 : Int32))), .val (.int (p2 &&& (31 : Int32))), .val (.int v123), .val (.int v124), .val (.int (2 : Int32)), .unset] [(.int (3 : Int32)), (.int (p5 >>> ((2 : Int32) &&& 31)))]))
            refine OwnEnd.go (fun _ k => XS.iand X229.here hx rfl (hb hby at_142) rfl k) ?_
            show OwnEnd p e below s _ _ _ (T229.setTop (mkF m 143 #[.val (.int p1), .val (.int p2), .val (.long q3), .second, .val (.long q4), .second, .val (.int p5), .val (.ref b101), .val (.int (1 : Int32)), .val (.int (p1 &&& (31 : Int32))), .val (.int (p2 &&& (31 : Int32))), .val (.int v123), .val (.int v124), .val (.int (2 : Int32)), .unset] [(.int ((p5 >>> ((2 : Int32) &&& 31)) &&& (3 : Int32)))]))
            refine OwnEnd.go (fun _ k => XS.iload X229.here hx rfl (hb hby at_143) rfl  k) ?_
            show OwnEnd p e below s _ _ _ (T229.setTop (mkF m 145 #[.val (.int p1), .val (.int p2), .val (.long q3), .second, .val (.long q4), .second, .val (.int p5), .val (.ref b101), .val (.int (1 : Int32)), .val (.int (p1 &&& (31 : Int32))), .val (.int (p2 &&& (31 : Int32))), .val (.int v123), .val (.int v124), .val (.int (2 : Int32)), .unset] [(.int (2 : Int32)), (.int ((p5 >>> ((2 : Int32) &&& 31)) &&& (3 : Int32)))]))
            obtain ⟨_, T230, L230, X230, hQ230, st230⟩ := ownCallS X229 hx hZ hown ww44 ww45 ww46 ww47 (by decide) (rm9 l Z a0 hw [] ((p5 >>> ((2 : Int32) &&& 31)) &&& (3 : Int32)) (2 : Int32) T214.heap n0 Y214  ) e229 0 (by decide) (by decide) (by decide) (by decide) (g := (mkF m 145 #[.val (.int p1), .val (.int p2), .val (.long q3), .second, .val (.long q4), .second, .val (.int p5), .val (.ref b101), .val (.int (1 : Int32)), .val (.int (p1 &&& (31 : Int32))), .val (.int (p2 &&& (31 : Int32))), .val (.int v123), .val (.int v124), .val (.int (2 : Int32)), .unset] [(.int (2 : Int32)), (.int ((p5 >>> ((2 : Int32) &&& 31)) &&& (3 : Int32)))])) rfl (by rw [hml]; rfl) (argsL := [(.int ((p5 >>> ((2 : Int32) &&& 31)) &&& (3 : Int32))), (.int (2 : Int32))]) (rest := []) (lenOf pd0_2 rfl) rfl rfl (by show 2 * 0 + _ ≤ _; exact Nat.le_of_eq rfl) (hb hby at_145)
            obtain ⟨rfl, N230q, e230⟩ := hQ230
            have N230 := Fr.app N229 N230q
            refine OwnEnd.go (fun _ k => st230 _ k) ?_
            show OwnEnd p e below s _ _ _ (T230.setTop (mkF m 148 #[.val (.int p1), .val (.int p2), .val (.long q3), .second, .val (.long q4), .second, .val (.int p5), .val (.ref b101), .val (.int (1 : Int32)), .val (.int (p1 &&& (31 : Int32))), .val (.int (p2 &&& (31 : Int32))), .val (.int v123), .val (.int v124), .val (.int (2 : Int32)), .unset] [(.int (own_min ((p5 >>> ((2 : Int32) &&& 31)) &&& (3 : Int32)) (2 : Int32)))]))
            refine OwnEnd.go (fun _ k => XS.istore X230.here hx rfl (hb hby at_148) rfl  (l' := #[.val (.int p1), .val (.int p2), .val (.long q3), .second, .val (.long q4), .second, .val (.int p5), .val (.ref b101), .val (.int (1 : Int32)), .val (.int (p1 &&& (31 : Int32))), .val (.int (p2 &&& (31 : Int32))), .val (.int v123), .val (.int v124), .val (.int (2 : Int32)), .val (.int (own_min ((p5 >>> ((2 : Int32) &&& 31)) &&& (3 : Int32)) (2 : Int32)))]) rfl k) ?_
            show OwnEnd p e below s _ _ _ (T230.setTop (mkF m 150 #[.val (.int p1), .val (.int p2), .val (.long q3), .second, .val (.long q4), .second, .val (.int p5), .val (.ref b101), .val (.int (1 : Int32)), .val (.int (p1 &&& (31 : Int32))), .val (.int (p2 &&& (31 : Int32))), .val (.int v123), .val (.int v124), .val (.int (2 : Int32)), .val (.int (own_min ((p5 >>> ((2 : Int32) &&& 31)) &&& (3 : Int32)) (2 : Int32)))] []))
            refine OwnEnd.go (fun _ k => XS.iload X230.here hx rfl (hb hby at_150) rfl  k) ?_
            show OwnEnd p e below s _ _ _ (T230.setTop (mkF m 152 #[.val (.int p1), .val (.int p2), .val (.long q3), .second, .val (.long q4), .second, .val (.int p5), .val (.ref b101), .val (.int (1 : Int32)), .val (.int (p1 &&& (31 : Int32))), .val (.int (p2 &&& (31 : Int32))), .val (.int v123), .val (.int v124), .val (.int (2 : Int32)), .val (.int (own_min ((p5 >>> ((2 : Int32) &&& 31)) &&& (3 : Int32)) (2 : Int32)))] [(.int (own_min ((p5 >>> ((2 : Int32) &&& 31)) &&& (3 : Int32)) (2 : Int32)))]))
            refine OwnEnd.go (fun _ k => XS.iconst X230.here hx rfl (hb hby at_152) k) ?_
            show OwnEnd p e below s _ _ _ (T230.setTop (mkF m 153 #[.val (.int p1), .val (.int p2), .val (.long q3), .second, .val (.long q4), .second, .val (.int p5), .val (.ref b101), .val (.int (1 : Int32)), .val (.int (p1 &&& (31 : Int32))), .val (.int (p2 &&& (31 : Int32))), .val (.int v123), .val (.int v124), .val (.int (2 : Int32)), .val (.int (own_min ((p5 >>> ((2 : Int32) &&& 31)) &&& (3 : Int32)) (2 : Int32)))] [(.int (1 : Int32)), (.int (own_min ((p5 >>> ((2 : Int32) &&& 31)) &&& (3 : Int32)) (2 : Int32)))]))
            by_cases hc231 : (own_min ((p5 >>> ((2 : Int32) &&& 31)) &&& (3 : Int32)) (2 : Int32)) < (1 : Int32)
            · refine OwnEnd.go (fun _ k => XS.icmpYes X230.here hx rfl (pc0 := 153) (pc' := 193) rfl (hb hby at_153) rfl (tlt hc231).1 (by decide) (by decide) k) ?_
              show OwnEnd p e below s _ _ _ (T230.setTop (mkF m 193 #[.val (.int p1), .val (.int p2), .val (.long q3), .second, .val (.long q4), .second, .val (.int p5), .val (.ref b101), .val (.int (1 : Int32)), .val (.int (p1 &&& (31 : Int32))), .val (.int (p2 &&& (31 : Int32))), .val (.int v123), .val (.int v124), .val (.int (2 : Int32)), .val (.int (own_min ((p5 >>> ((2 : Int32) &&& 31)) &&& (3 : Int32)) (2 : Int32)))] []))
              refine OwnEnd.go (fun _ k => XS.iload X230.here hx rfl (hb hby at_193) rfl  k) ?_
              show OwnEnd p e below s _ _ _ (T230.setTop (mkF m 195 #[.val (.int p1), .val (.int p2), .val (.long q3), .second, .val (.long q4), .second, .val (.int p5), .val (.ref b101), .val (.int (1 : Int32)), .val (.int (p1 &&& (31 : Int32))), .val (.int (p2 &&& (31 : Int32))), .val (.int v123), .val (.int v124), .val (.int (2 : Int32)), .val (.int (own_min ((p5 >>> ((2 : Int32) &&& 31)) &&& (3 : Int32)) (2 : Int32)))] [(.int (own_min ((p5 >>> ((2 : Int32) &&& 31)) &&& (3 : Int32)) (2 : Int32)))]))
              refine OwnEnd.go (fun _ k => XS.iconst X230.here hx rfl (hb hby at_195) k) ?_
              show OwnEnd p e below s _ _ _ (T230.setTop (mkF m 196 #[.val (.int p1), .val (.int p2), .val (.long q3), .second, .val (.long q4), .second, .val (.int p5), .val (.ref b101), .val (.int (1 : Int32)), .val (.int (p1 &&& (31 : Int32))), .val (.int (p2 &&& (31 : Int32))), .val (.int v123), .val (.int v124), .val (.int (2 : Int32)), .val (.int (own_min ((p5 >>> ((2 : Int32) &&& 31)) &&& (3 : Int32)) (2 : Int32)))] [(.int (2 : Int32)), (.int (own_min ((p5 >>> ((2 : Int32) &&& 31)) &&& (3 : Int32)) (2 : Int32)))]))
              refine OwnEnd.go (fun _ k => XS.icmpYes X230.here hx rfl (pc0 := 196) (pc' := 225) rfl (hb hby at_196) rfl (tlt (own_lt12 hc231)).1 (by decide) (by decide) k) ?_
              show OwnEnd p e below s _ _ _ (T230.setTop (mkF m 225 #[.val (.int p1), .val (.int p2), .val (.long q3), .second, .val (.long q4), .second, .val (.int p5), .val (.ref b101), .val (.int (1 : Int32)), .val (.int (p1 &&& (31 : Int32))), .val (.int (p2 &&& (31 : Int32))), .val (.int v123), .val (.int v124), .val (.int (2 : Int32)), .val (.int (own_min ((p5 >>> ((2 : Int32) &&& 31)) &&& (3 : Int32)) (2 : Int32)))] []))
              refine OwnEnd.go (fun _ k => XS.iload X230.here hx rfl (hb hby at_225) rfl  k) ?_
              show OwnEnd p e below s _ _ _ (T230.setTop (mkF m 227 #[.val (.int p1), .val (.int p2), .val (.long q3), .second, .val (.long q4), .second, .val (.int p5), .val (.ref b101), .val (.int (1 : Int32)), .val (.int (p1 &&& (31 : Int32))), .val (.int (p2 &&& (31 : Int32))), .val (.int v123), .val (.int v124), .val (.int (2 : Int32)), .val (.int (own_min ((p5 >>> ((2 : Int32) &&& 31)) &&& (3 : Int32)) (2 : Int32)))] [(.int (1 : Int32))]))
              refine ownRetZ X230 hx hlk hret (hb hby at_227) (by decide) (by decide) (1 : Int32) (by decide) ?_
              show Q0 Z p1 p2 q3 q4 p5 h0 n0 _ T230.heap _
              rw [e230]
              exact ⟨rfl, N230⟩
            · refine OwnEnd.go (fun _ k => XS.icmpNo X230.here hx rfl (hb hby at_153) rfl (flt hc231).1 k) ?_
              show OwnEnd p e below s _ _ _ (T230.setTop (mkF m 156 #[.val (.int p1), .val (.int p2), .val (.long q3), .second, .val (.long q4), .second, .val (.int p5), .val (.ref b101), .val (.int (1 : Int32)), .val (.int (p1 &&& (31 : Int32))), .val (.int (p2 &&& (31 : Int32))), .val (.int v123), .val (.int v124), .val (.int (2 : Int32)), .val (.int (own_min ((p5 >>> ((2 : Int32) &&& 31)) &&& (3 : Int32)) (2 : Int32)))] []))
              refine OwnEnd.go (fun _ k => XS.aload X230.here hx rfl (hb hby at_156) rfl rfl k) ?_
              show OwnEnd p e below s _ _ _ (T230.setTop (mkF m 158 #[.val (.int p1), .val (.int p2), .val (.long q3), .second, .val (.long q4), .second, .val (.int p5), .val (.ref b101), .val (.int (1 : Int32)), .val (.int (p1 &&& (31 : Int32))), .val (.int (p2 &&& (31 : Int32))), .val (.int v123), .val (.int v124), .val (.int (2 : Int32)), .val (.int (own_min ((p5 >>> ((2 : Int32) &&& 31)) &&& (3 : Int32)) (2 : Int32)))] [(.ref b101)]))
              obtain ⟨_, T232, L232, X232, hQ232, st232⟩ := ownCallV X230 hx hZ hown ww68 ww69 ww71 ww70 ww2 ww72 (by decide) (rm14z2 l Z a0 hw [] b101 y114 y222 y223 (32 : Int32) y224 y225 y226 T214.heap n0 Y214  P219 P220 P221) e230 F227 0 (by decide) (by decide) (by decide) (by decide) (g := (mkF m 158 #[.val (.int p1), .val (.int p2), .val (.long q3), .second, .val (.long q4), .second, .val (.int p5), .val (.ref b101), .val (.int (1 : Int32)), .val (.int (p1 &&& (31 : Int32))), .val (.int (p2 &&& (31 : Int32))), .val (.int v123), .val (.int v124), .val (.int (2 : Int32)), .val (.int (own_min ((p5 >>> ((2 : Int32) &&& 31)) &&& (3 : Int32)) (2 : Int32)))] [(.ref b101)])) rfl (by rw [hml]; rfl) (argsL := []) (rest := []) (lenOf pd0_4 rfl) rfl rfl (by show 2 * 0 + _ ≤ _; exact Nat.le_of_eq rfl) (hb hby at_158)
              obtain ⟨rfl, N232q, K232q, P233⟩ := hQ232
              have N232 := Fr.app N230 N232q
              have F234 := F227.keep K232q
              have K232 := K214.trans K232q (allS (Or.inr v101) (allS (Or.inr (Nat.le_trans K101.1 P110)) (allS (Or.inr (Nat.le_trans K161.1 P217)) (allS (Or.inr (Nat.le_trans K161.1 P218)) all0))))
              have Y232 := Nat.le_trans Y214 K232q.1
              refine OwnEnd.go (fun _ k => st232 _ k) ?_
              show OwnEnd p e below s _ _ _ (T232.setTop (mkF m 161 #[.val (.int p1), .val (.int p2), .val (.long q3), .second, .val (.long q4), .second, .val (.int p5), .val (.ref b101), .val (.int (1 : Int32)), .val (.int (p1 &&& (31 : Int32))), .val (.int (p2 &&& (31 : Int32))), .val (.int v123), .val (.int v124), .val (.int (2 : Int32)), .val (.int (own_min ((p5 >>> ((2 : Int32) &&& 31)) &&& (3 : Int32)) (2 : Int32)))] [(.int y224)]))
              refine OwnEnd.go (fun _ k => XS.pop X232.here hx rfl (hb hby at_161) rfl rfl k) ?_
              show OwnEnd p e below s _ _ _ (T232.setTop (mkF m 162 #[.val (.int p1), .val (.int p2), .val (.long q3), .second, .val (.long q4), .second, .val (.int p5), .val (.ref b101), .val (.int (1 : Int32)), .val (.int (p1 &&& (31 : Int32))), .val (.int (p2 &&& (31 : Int32))), .val (.int v123), .val (.int v124), .val (.int (2 : Int32)), .val (.int (own_min ((p5 >>> ((2 : Int32) &&& 31)) &&& (3 : Int32)) (2 : Int32)))] []))
              refine OwnEnd.go (fun _ k => XS.iload X232.here hx rfl (hb hby at_162) rfl  k) ?_
              show OwnEnd p e below s _ _ _ (T232.setTop (mkF m 164 #[.val (.int p1), .val (.int p2), .val (.long q3), .second, .val (.long q4), .second, .val (.int p5), .val (.ref b101), .val (.int (1 : Int32)), .val (.int (p1 &&& (31 : Int32))), .val (.int (p2 &&& (31 : Int32))), .val (.int v123), .val (.int v124), .val (.int (2 : Int32)), .val (.int (own_min ((p5 >>> ((2 : Int32) &&& 31)) &&& (3 : Int32)) (2 : Int32)))] [(.int (1 : Int32))]))
              refine OwnEnd.go (fun _ k => XS.ifNo X232.here hx rfl (hb hby at_164) rfl ((if0 _ _).trans (feq (by decide : ¬ (1 : Int32) = (0 : Int32))).1) k) ?_
              show OwnEnd p e below s _ _ _ (T232.setTop (mkF m 167 #[.val (.int p1), .val (.int p2), .val (.long q3), .second, .val (.long q4), .second, .val (.int p5), .val (.ref b101), .val (.int (1 : Int32)), .val (.int (p1 &&& (31 : Int32))), .val (.int (p2 &&& (31 : Int32))), .val (.int v123), .val (.int v124), .val (.int (2 : Int32)), .val (.int (own_min ((p5 >>> ((2 : Int32) &&& 31)) &&& (3 : Int32)) (2 : Int32)))] []))
              refine OwnEnd.go (fun _ k => XS.aload X232.here hx rfl (hb hby at_167) rfl rfl k) ?_
              show OwnEnd p e below s _ _ _ (T232.setTop (mkF m 169 #[.val (.int p1), .val (.int p2), .val (.long q3), .second, .val (.long q4), .second, .val (.int p5), .val (.ref b101), .val (.int (1 : Int32)), .val (.int (p1 &&& (31 : Int32))), .val (.int (p2 &&& (31 : Int32))), .val (.int v123), .val (.int v124), .val (.int (2 : Int32)), .val (.int (own_min ((p5 >>> ((2 : Int32) &&& 31)) &&& (3 : Int32)) (2 : Int32)))] [(.ref b101)]))
              obtain ⟨_, T236, L236, X236, hQ236, st236⟩ := ownCallV X232 hx hZ hown ww24 ww25 ww27 ww26 ww2 ww28 (by decide) (rm5z1 l Z a0 hw [] b101 y114 y222 y223 (32 : Int32) y225 y225 (own_upd (own_upd y226 y224 (-1 : Int32)) y225 (0 : Int32)) T232.heap n0 Y232  P233) (rfl : T232.heap = T232.heap) F234 0 (by decide) (by decide) (by decide) (by decide) (g := (mkF m 169 #[.val (.int p1), .val (.int p2), .val (.long q3), .second, .val (.long q4), .second, .val (.int p5), .val (.ref b101), .val (.int (1 : Int32)), .val (.int (p1 &&& (31 : Int32))), .val (.int (p2 &&& (31 : Int32))), .val (.int v123), .val (.int v124), .val (.int (2 : Int32)), .val (.int (own_min ((p5 >>> ((2 : Int32) &&& 31)) &&& (3 : Int32)) (2 : Int32)))] [(.ref b101)])) rfl (by rw [hml]; rfl) (argsL := []) (rest := []) (lenOf pd0_1 rfl) rfl rfl (by show 2 * 0 + _ ≤ _; exact Nat.le_of_eq rfl) (hb hby at_169)
              obtain ⟨rfl, N236q, e236⟩ := hQ236
              have N236 := Fr.app N232 N236q
              refine OwnEnd.go (fun _ k => st236 _ k) ?_
              show OwnEnd p e below s _ _ _ (T236.setTop (mkF m 172 #[.val (.int p1), .val (.int p2), .val (.long q3), .second, .val (.long q4), .second, .val (.int p5), .val (.ref b101), .val (.int (1 : Int32)), .val (.int (p1 &&& (31 : Int32))), .val (.int (p2 &&& (31 : Int32))), .val (.int v123), .val (.int v124), .val (.int (2 : Int32)), .val (.int (own_min ((p5 >>> ((2 : Int32) &&& 31)) &&& (3 : Int32)) (2 : Int32)))] [(.int (0 : Int32))]))
              refine OwnEnd.go (fun _ k => XS.iload X236.here hx rfl (hb hby at_172) rfl  k) ?_
              show OwnEnd p e below s _ _ _ (T236.setTop (mkF m 174 #[.val (.int p1), .val (.int p2), .val (.long q3), .second, .val (.long q4), .second, .val (.int p5), .val (.ref b101), .val (.int (1 : Int32)), .val (.int (p1 &&& (31 : Int32))), .val (.int (p2 &&& (31 : Int32))), .val (.int v123), .val (.int v124), .val (.int (2 : Int32)), .val (.int (own_min ((p5 >>> ((2 : Int32) &&& 31)) &&& (3 : Int32)) (2 : Int32)))] [(.int (2 : Int32)), (.int (0 : Int32))]))
              refine OwnEnd.go (fun _ k => XS.iconst X236.here hx rfl (hb hby at_174) k) ?_
              show OwnEnd p e below s _ _ _ (T236.setTop (mkF m 175 #[.val (.int p1), .val (.int p2), .val (.long q3), .second, .val (.long q4), .second, .val (.int p5), .val (.ref b101), .val (.int (1 : Int32)), .val (.int (p1 &&& (31 : Int32))), .val (.int (p2 &&& (31 : Int32))), .val (.int v123), .val (.int v124), .val (.int (2 : Int32)), .val (.int (own_min ((p5 >>> ((2 : Int32) &&& 31)) &&& (3 : Int32)) (2 : Int32)))] [(.int (1 : Int32)), (.int (2 : Int32)), (.int (0 : Int32))]))
              refine OwnEnd.go (fun _ k => XS.icmpYes X236.here hx rfl (pc0 := 175) (pc' := 182) rfl (hb hby at_175) rfl (feq (by decide : ¬ (2 : Int32) = (1 : Int32))).2 (by decide) (by decide) k) ?_
              show OwnEnd p e below s _ _ _ (T236.setTop (mkF m 182 #[.val (.int p1), .val (.int p2), .val (.long q3), .second, .val (.long q4), .second, .val (.int p5), .val (.ref b101), .val (.int (1 : Int32)), .val (.int (p1 &&& (31 : Int32))), .val (.int (p2 &&& (31 : Int32))), .val (.int v123), .val (.int v124), .val (.int (2 : Int32)), .val (.int (own_min ((p5 >>> ((2 : Int32) &&& 31)) &&& (3 : Int32)) (2 : Int32)))] [(.int (0 : Int32))]))
              refine OwnEnd.go (fun _ k => XS.iconst X236.here hx rfl (hb hby at_182) k) ?_
              show OwnEnd p e below s _ _ _ (T236.setTop (mkF m 183 #[.val (.int p1), .val (.int p2), .val (.long q3), .second, .val (.long q4), .second, .val (.int p5), .val (.ref b101), .val (.int (1 : Int32)), .val (.int (p1 &&& (31 : Int32))), .val (.int (p2 &&& (31 : Int32))), .val (.int v123), .val (.int v124), .val (.int (2 : Int32)), .val (.int (own_min ((p5 >>> ((2 : Int32) &&& 31)) &&& (3 : Int32)) (2 : Int32)))] [(.int (0 : Int32)), (.int (0 : Int32))]))
              refine OwnEnd.go (fun _ k => XS.icmpNo X236.here hx rfl (hb hby at_183) rfl (teq (by decide : (0 : Int32) = (0 : Int32))).2 k) ?_
              show OwnEnd p e below s _ _ _ (T236.setTop (mkF m 186 #[.val (.int p1), .val (.int p2), .val (.long q3), .second, .val (.long q4), .second, .val (.int p5), .val (.ref b101), .val (.int (1 : Int32)), .val (.int (p1 &&& (31 : Int32))), .val (.int (p2 &&& (31 : Int32))), .val (.int v123), .val (.int v124), .val (.int (2 : Int32)), .val (.int (own_min ((p5 >>> ((2 : Int32) &&& 31)) &&& (3 : Int32)) (2 : Int32)))] []))
              refine OwnEnd.go (fun _ k => XS.iconst X236.here hx rfl (hb hby at_186) k) ?_
              show OwnEnd p e below s _ _ _ (T236.setTop (mkF m 187 #[.val (.int p1), .val (.int p2), .val (.long q3), .second, .val (.long q4), .second, .val (.int p5), .val (.ref b101), .val (.int (1 : Int32)), .val (.int (p1 &&& (31 : Int32))), .val (.int (p2 &&& (31 : Int32))), .val (.int v123), .val (.int v124), .val (.int (2 : Int32)), .val (.int (own_min ((p5 >>> ((2 : Int32) &&& 31)) &&& (3 : Int32)) (2 : Int32)))] [(.int (1 : Int32))]))
              refine OwnEnd.go (fun _ k => XS.goto X236.here hx rfl (pc0 := 187) (pc' := 191) rfl (hb hby at_187) (by decide) (by decide) k) ?_
              show OwnEnd p e below s _ _ _ (T236.setTop (mkF m 191 #[.val (.int p1), .val (.int p2), .val (.long q3), .second, .val (.long q4), .second, .val (.int p5), .val (.ref b101), .val (.int (1 : Int32)), .val (.int (p1 &&& (31 : Int32))), .val (.int (p2 &&& (31 : Int32))), .val (.int v123), .val (.int v124), .val (.int (2 : Int32)), .val (.int (own_min ((p5 >>> ((2 : Int32) &&& 31)) &&& (3 : Int32)) (2 : Int32)))] [(.int (1 : Int32))]))
              refine OwnEnd.go (fun _ k => XS.istore X236.here hx rfl (hb hby at_191) rfl  (l' := #[.val (.int p1), .val (.int p2), .val (.long q3), .second, .val (.long q4), .second, .val (.int p5), .val (.ref b101), .val (.int (1 : Int32)), .val (.int (p1 &&& (31 : Int32))), .val (.int (p2 &&& (31 : Int32))), .val (.int v123), .val (.int v124), .val (.int (2 : Int32)), .val (.int (own_min ((p5 >>> ((2 : Int32) &&& 31)) &&& (3 : Int32)) (2 : Int32)))]) rfl k) ?_
              show OwnEnd p e below s _ _ _ (T236.setTop (mkF m 193 #[.val (.int p1), .val (.int p2), .val (.long q3), .second, .val (.long q4), .second, .val (.int p5), .val (.ref b101), .val (.int (1 : Int32)), .val (.int (p1 &&& (31 : Int32))), .val (.int (p2 &&& (31 : Int32))), .val (.int v123), .val (.int v124), .val (.int (2 : Int32)), .val (.int (own_min ((p5 >>> ((2 : Int32) &&& 31)) &&& (3 : Int32)) (2 : Int32)))] []))
              refine OwnEnd.go (fun _ k => XS.iload X236.here hx rfl (hb hby at_193) rfl  k) ?_
              show OwnEnd p e below s _ _ _ (T236.setTop (mkF m 195 #[.val (.int p1), .val (.int p2), .val (.long q3), .second, .val (.long q4), .second, .val (.int p5), .val (.ref b101), .val (.int (1 : Int32)), .val (.int (p1 &&& (31 : Int32))), .val (.int (p2 &&& (31 : Int32))), .val (.int v123), .val (.int v124), .val (.int (2 : Int32)), .val (.int (own_min ((p5 >>> ((2 : Int32) &&& 31)) &&& (3 : Int32)) (2 : Int32)))] [(.int (own_min ((p5 >>> ((2 : Int32) &&& 31)) &&& (3 : Int32)) (2 : Int32)))]))
              refine OwnEnd.go (fun _ k => XS.iconst X236.here hx rfl (hb hby at_195) k) ?_
              show OwnEnd p e below s _ _ _ (T236.setTop (mkF m 196 #[.val (.int p1), .val (.int p2), .val (.long q3), .second, .val (.long q4), .second, .val (.int p5), .val (.ref b101), .val (.int (1 : Int32)), .val (.int (p1 &&& (31 : Int32))), .val (.int (p2 &&& (31 : Int32))), .val (.int v123), .val (.int v124), .val (.int (2 : Int32)), .val (.int (own_min ((p5 >>> ((2 : Int32) &&& 31)) &&& (3 : Int32)) (2 : Int32)))] [(.int (2 : Int32)), (.int (own_min ((p5 >>> ((2 : Int32) &&& 31)) &&& (3 : Int32)) (2 : Int32)))]))
              by_cases hc237 : (own_min ((p5 >>> ((2 : Int32) &&& 31)) &&& (3 : Int32)) (2 : Int32)) < (2 : Int32)
              · refine OwnEnd.go (fun _ k => XS.icmpYes X236.here hx rfl (pc0 := 196) (pc' := 225) rfl (hb hby at_196) rfl (tlt hc237).1 (by decide) (by decide) k) ?_
                show OwnEnd p e below s _ _ _ (T236.setTop (mkF m 225 #[.val (.int p1), .val (.int p2), .val (.long q3), .second, .val (.long q4), .second, .val (.int p5), .val (.ref b101), .val (.int (1 : Int32)), .val (.int (p1 &&& (31 : Int32))), .val (.int (p2 &&& (31 : Int32))), .val (.int v123), .val (.int v124), .val (.int (2 : Int32)), .val (.int (own_min ((p5 >>> ((2 : Int32) &&& 31)) &&& (3 : Int32)) (2 : Int32)))] []))
                refine OwnEnd.go (fun _ k => XS.iload X236.here hx rfl (hb hby at_225) rfl  k) ?_
                show OwnEnd p e below s _ _ _ (T236.setTop (mkF m 227 #[.val (.int p1), .val (.int p2), .val (.long q3), .second, .val (.long q4), .second, .val (.int p5), .val (.ref b101), .val (.int (1 : Int32)), .val (.int (p1 &&& (31 : Int32))), .val (.int (p2 &&& (31 : Int32))), .val (.int v123), .val (.int v124), .val (.int (2 : Int32)), .val (.int (own_min ((p5 >>> ((2 : Int32) &&& 31)) &&& (3 : Int32)) (2 : Int32)))] [(.int (1 : Int32))]))
                refine ownRetZ X236 hx hlk hret (hb hby at_227) (by decide) (by decide) (1 : Int32) (by decide) ?_
                show Q0 Z p1 p2 q3 q4 p5 h0 n0 _ T236.heap _
                rw [e236]
                exact ⟨rfl, N236⟩
              · refine OwnEnd.go (fun _ k => XS.icmpNo X236.here hx rfl (hb hby at_196) rfl (flt hc237).1 k) ?_
                show OwnEnd p e below s _ _ _ (T236.setTop (mkF m 199 #[.val (.int p1), .val (.int p2), .val (.long q3), .second, .val (.long q4), .second, .val (.int p5), .val (.ref b101), .val (.int (1 : Int32)), .val (.int (p1 &&& (31 : Int32))), .val (.int (p2 &&& (31 : Int32))), .val (.int v123), .val (.int v124), .val (.int (2 : Int32)), .val (.int (own_min ((p5 >>> ((2 : Int32) &&& 31)) &&& (3 : Int32)) (2 : Int32)))] []))
                refine OwnEnd.go (fun _ k => XS.aload X236.here hx rfl (hb hby at_199) rfl rfl k) ?_
                show OwnEnd p e below s _ _ _ (T236.setTop (mkF m 201 #[.val (.int p1), .val (.int p2), .val (.long q3), .second, .val (.long q4), .second, .val (.int p5), .val (.ref b101), .val (.int (1 : Int32)), .val (.int (p1 &&& (31 : Int32))), .val (.int (p2 &&& (31 : Int32))), .val (.int v123), .val (.int v124), .val (.int (2 : Int32)), .val (.int (own_min ((p5 >>> ((2 : Int32) &&& 31)) &&& (3 : Int32)) (2 : Int32)))] [(.ref b101)]))
                obtain ⟨_, T238, L238, X238, hQ238, st238⟩ := ownCallV X236 hx hZ hown ww68 ww69 ww71 ww70 ww2 ww72 (by decide) (rm14z1 l Z a0 hw [] b101 y114 y222 y223 (32 : Int32) y225 y225 (own_upd (own_upd y226 y224 (-1 : Int32)) y225 (0 : Int32)) T232.heap n0 Y232  P233 P221) e236 F234 0 (by decide) (by decide) (by decide) (by decide) (g := (mkF m 201 #[.val (.int p1), .val (.int p2), .val (.long q3), .second, .val (.long q4), .second, .val (.int p5), .val (.ref b101), .val (.int (1 : Int32)), .val (.int (p1 &&& (31 : Int32))), .val (.int (p2 &&& (31 : Int32))), .val (.int v123), .val (.int v124), .val (.int (2 : Int32)), .val (.int (own_min ((p5 >>> ((2 : Int32) &&& 31)) &&& (3 : Int32)) (2 : Int32)))] [(.ref b101)])) rfl (by rw [hml]; rfl) (argsL := []) (rest := []) (lenOf pd0_4 rfl) rfl rfl (by show 2 * 0 + _ ≤ _; exact Nat.le_of_eq rfl) (hb hby at_201)
                obtain ⟨rfl, N238q, K238q, P239⟩ := hQ238
                have N238 := Fr.app N236 N238q
                have F240 := F234.keep K238q
                have K238 := K232.trans K238q (allS (Or.inr v101) (allS (Or.inr (Nat.le_trans K101.1 P110)) (allS (Or.inr (Nat.le_trans K161.1 P217)) (allS (Or.inr (Nat.le_trans K161.1 P218)) all0))))
                have Y238 := Nat.le_trans Y232 K238q.1
                refine OwnEnd.go (fun _ k => st238 _ k) ?_
                show OwnEnd p e below s _ _ _ (T238.setTop (mkF m 204 #[.val (.int p1), .val (.int p2), .val (.long q3), .second, .val (.long q4), .second, .val (.int p5), .val (.ref b101), .val (.int (1 : Int32)), .val (.int (p1 &&& (31 : Int32))), .val (.int (p2 &&& (31 : Int32))), .val (.int v123), .val (.int v124), .val (.int (2 : Int32)), .val (.int (own_min ((p5 >>> ((2 : Int32) &&& 31)) &&& (3 : Int32)) (2 : Int32)))] [(.int y225)]))
                refine OwnEnd.go (fun _ k => XS.pop X238.here hx rfl (hb hby at_204) rfl rfl k) ?_
                show OwnEnd p e below s _ _ _ (T238.setTop (mkF m 205 #[.val (.int p1), .val (.int p2), .val (.long q3), .second, .val (.long q4), .second, .val (.int p5), .val (.ref b101), .val (.int (1 : Int32)), .val (.int (p1 &&& (31 : Int32))), .val (.int (p2 &&& (31 : Int32))), .val (.int v123), .val (.int v124), .val (.int (2 : Int32)), .val (.int (own_min ((p5 >>> ((2 : Int32) &&& 31)) &&& (3 : Int32)) (2 : Int32)))] []))
                refine OwnEnd.go (fun _ k => XS.iload X238.here hx rfl (hb hby at_205) rfl  k) ?_
                show OwnEnd p e below s _ _ _ (T238.setTop (mkF m 207 #[.val (.int p1), .val (.int p2), .val (.long q3), .second, .val (.long q4), .second, .val (.int p5), .val (.ref b101), .val (.int (1 : Int32)), .val (.int (p1 &&& (31 : Int32))), .val (.int (p2 &&& (31 : Int32))), .val (.int v123), .val (.int v124), .val (.int (2 : Int32)), .val (.int (own_min ((p5 >>> ((2 : Int32) &&& 31)) &&& (3 : Int32)) (2 : Int32)))] [(.int (1 : Int32))]))
                refine OwnEnd.go (fun _ k => XS.ifNo X238.here hx rfl (hb hby at_207) rfl ((if0 _ _).trans (feq (by decide : ¬ (1 : Int32) = (0 : Int32))).1) k) ?_
                show OwnEnd p e below s _ _ _ (T238.setTop (mkF m 210 #[.val (.int p1), .val (.int p2), .val (.long q3), .second, .val (.long q4), .second, .val (.int p5), .val (.ref b101), .val (.int (1 : Int32)), .val (.int (p1 &&& (31 : Int32))), .val (.int (p2 &&& (31 : Int32))), .val (.int v123), .val (.int v124), .val (.int (2 : Int32)), .val (.int (own_min ((p5 >>> ((2 : Int32) &&& 31)) &&& (3 : Int32)) (2 : Int32)))] []))
                refine OwnEnd.go (fun _ k => XS.aload X238.here hx rfl (hb hby at_210) rfl rfl k) ?_
                show OwnEnd p e below s _ _ _ (T238.setTop (mkF m 212 #[.val (.int p1), .val (.int p2), .val (.long q3), .second, .val (.long q4), .second, .val (.int p5), .val (.ref b101), .val (.int (1 : Int32)), .val (.int (p1 &&& (31 : Int32))), .val (.int (p2 &&& (31 : Int32))), .val (.int v123), .val (.int v124), .val (.int (2 : Int32)), .val (.int (own_min ((p5 >>> ((2 : Int32) &&& 31)) &&& (3 : Int32)) (2 : Int32)))] [(.ref b101)]))
                obtain ⟨_, T242, L242, X242, hQ242, st242⟩ := ownCallV X238 hx hZ hown ww24 ww25 ww27 ww26 ww2 ww28 (by decide) (rm5z0 l Z a0 hw [] b101 y114 y222 y223 (32 : Int32) y225 y225 (own_upd (own_upd (own_upd y226 y224 (-1 : Int32)) y225 (0 : Int32)) y225 (-1 : Int32)) T238.heap n0 Y238  P239) (rfl : T238.heap = T238.heap) F240 0 (by decide) (by decide) (by decide) (by decide) (g := (mkF m 212 #[.val (.int p1), .val (.int p2), .val (.long q3), .second, .val (.long q4), .second, .val (.int p5), .val (.ref b101), .val (.int (1 : Int32)), .val (.int (p1 &&& (31 : Int32))), .val (.int (p2 &&& (31 : Int32))), .val (.int v123), .val (.int v124), .val (.int (2 : Int32)), .val (.int (own_min ((p5 >>> ((2 : Int32) &&& 31)) &&& (3 : Int32)) (2 : Int32)))] [(.ref b101)])) rfl (by rw [hml]; rfl) (argsL := []) (rest := []) (lenOf pd0_1 rfl) rfl rfl (by show 2 * 0 + _ ≤ _; exact Nat.le_of_eq rfl) (hb hby at_212)
                obtain ⟨rfl, N242q, e242⟩ := hQ242
                have N242 := Fr.app N238 N242q
                refine OwnEnd.go (fun _ k => st242 _ k) ?_
                show OwnEnd p e below s _ _ _ (T242.setTop (mkF m 215 #[.val (.int p1), .val (.int p2), .val (.long q3), .second, .val (.long q4), .second, .val (.int p5), .val (.ref b101), .val (.int (1 : Int32)), .val (.int (p1 &&& (31 : Int32))), .val (.int (p2 &&& (31 : Int32))), .val (.int v123), .val (.int v124), .val (.int (2 : Int32)), .val (.int (own_min ((p5 >>> ((2 : Int32) &&& 31)) &&& (3 : Int32)) (2 : Int32)))] [(.int (1 : Int32))]))
                refine OwnEnd.go (fun _ k => XS.ifNo X242.here hx rfl (hb hby at_215) rfl ((if0 _ _).trans (feq (by decide : ¬ (1 : Int32) = (0 : Int32))).1) k) ?_
                show OwnEnd p e below s _ _ _ (T242.setTop (mkF m 218 #[.val (.int p1), .val (.int p2), .val (.long q3), .second, .val (.long q4), .second, .val (.int p5), .val (.ref b101), .val (.int (1 : Int32)), .val (.int (p1 &&& (31 : Int32))), .val (.int (p2 &&& (31 : Int32))), .val (.int v123), .val (.int v124), .val (.int (2 : Int32)), .val (.int (own_min ((p5 >>> ((2 : Int32) &&& 31)) &&& (3 : Int32)) (2 : Int32)))] []))
                refine OwnEnd.go (fun _ k => XS.iconst X242.here hx rfl (hb hby at_218) k) ?_
                show OwnEnd p e below s _ _ _ (T242.setTop (mkF m 219 #[.val (.int p1), .val (.int p2), .val (.long q3), .second, .val (.long q4), .second, .val (.int p5), .val (.ref b101), .val (.int (1 : Int32)), .val (.int (p1 &&& (31 : Int32))), .val (.int (p2 &&& (31 : Int32))), .val (.int v123), .val (.int v124), .val (.int (2 : Int32)), .val (.int (own_min ((p5 >>> ((2 : Int32) &&& 31)) &&& (3 : Int32)) (2 : Int32)))] [(.int (1 : Int32))]))
                refine OwnEnd.go (fun _ k => XS.goto X242.here hx rfl (pc0 := 219) (pc' := 223) rfl (hb hby at_219) (by decide) (by decide) k) ?_
                show OwnEnd p e below s _ _ _ (T242.setTop (mkF m 223 #[.val (.int p1), .val (.int p2), .val (.long q3), .second, .val (.long q4), .second, .val (.int p5), .val (.ref b101), .val (.int (1 : Int32)), .val (.int (p1 &&& (31 : Int32))), .val (.int (p2 &&& (31 : Int32))), .val (.int v123), .val (.int v124), .val (.int (2 : Int32)), .val (.int (own_min ((p5 >>> ((2 : Int32) &&& 31)) &&& (3 : Int32)) (2 : Int32)))] [(.int (1 : Int32))]))
                refine OwnEnd.go (fun _ k => XS.istore X242.here hx rfl (hb hby at_223) rfl  (l' := #[.val (.int p1), .val (.int p2), .val (.long q3), .second, .val (.long q4), .second, .val (.int p5), .val (.ref b101), .val (.int (1 : Int32)), .val (.int (p1 &&& (31 : Int32))), .val (.int (p2 &&& (31 : Int32))), .val (.int v123), .val (.int v124), .val (.int (2 : Int32)), .val (.int (own_min ((p5 >>> ((2 : Int32) &&& 31)) &&& (3 : Int32)) (2 : Int32)))]) rfl k) ?_
                show OwnEnd p e below s _ _ _ (T242.setTop (mkF m 225 #[.val (.int p1), .val (.int p2), .val (.long q3), .second, .val (.long q4), .second, .val (.int p5), .val (.ref b101), .val (.int (1 : Int32)), .val (.int (p1 &&& (31 : Int32))), .val (.int (p2 &&& (31 : Int32))), .val (.int v123), .val (.int v124), .val (.int (2 : Int32)), .val (.int (own_min ((p5 >>> ((2 : Int32) &&& 31)) &&& (3 : Int32)) (2 : Int32)))] []))
                refine OwnEnd.go (fun _ k => XS.iload X242.here hx rfl (hb hby at_225) rfl  k) ?_
                show OwnEnd p e below s _ _ _ (T242.setTop (mkF m 227 #[.val (.int p1), .val (.int p2), .val (.long q3), .second, .val (.long q4), .second, .val (.int p5), .val (.ref b101), .val (.int (1 : Int32)), .val (.int (p1 &&& (31 : Int32))), .val (.int (p2 &&& (31 : Int32))), .val (.int v123), .val (.int v124), .val (.int (2 : Int32)), .val (.int (own_min ((p5 >>> ((2 : Int32) &&& 31)) &&& (3 : Int32)) (2 : Int32)))] [(.int (1 : Int32))]))
                refine ownRetZ X242 hx hlk hret (hb hby at_227) (by decide) (by decide) (1 : Int32) (by decide) ?_
                show Q0 Z p1 p2 q3 q4 p5 h0 n0 _ T242.heap _
                rw [e242]
                exact ⟨rfl, N242⟩
    · show OwnEnd p e below s _ _ _ (T124.setTop (mkF m 64 #[.val (.int p1), .val (.int p2), .val (.long q3), .second, .val (.long q4), .second, .val (.int p5), .val (.ref b101), .val (.int (1 : Int32)), .val (.int (p1 &&& (31 : Int32))), .val (.int (p2 &&& (31 : Int32))), .val (.int v123), .val (.int v124), .val (.int (0 : Int32)), .unset] []))
      refine OwnEnd.go (fun _ k => XS.aload X124.here hx rfl (hb hby at_64) rfl rfl k) ?_
      show OwnEnd p e below s _ _ _ (T124.setTop (mkF m 66 #[.val (.int p1), .val (.int p2), .val (.long q3), .second, .val (.long q4), .second, .val (.int p5), .val (.ref b101), .val (.int (1 : Int32)), .val (.int (p1 &&& (31 : Int32))), .val (.int (p2 &&& (31 : Int32))), .val (.int v123), .val (.int v124), .val (.int (0 : Int32)), .unset] [(.ref b101)]))
      refine OwnEnd.go (fun _ k => XS.iload X124.here hx rfl (hb hby at_66) rfl  k) ?_
      show OwnEnd p e below s _ _ _ (T124.setTop (mkF m 68 #[.val (.int p1), .val (.int p2), .val (.long q3), .second, .val (.long q4), .second, .val (.int p5), .val (.ref b101), .val (.int (1 : Int32)), .val (.int (p1 &&& (31 : Int32))), .val (.int (p2 &&& (31 : Int32))), .val (.int v123), .val (.int v124), .val (.int (0 : Int32)), .unset] [(.int (p1 &&& (31 : Int32))), (.ref b101)]))
      refine OwnEnd.go (fun _ k => XS.lloadN X124.here hx rfl (hb hby at_68) rfl  k) ?_
      show OwnEnd p e below s _ _ _ (T124.setTop (mkF m 69 #[.val (.int p1), .val (.int p2), .val (.long q3), .second, .val (.long q4), .second, .val (.int p5), .val (.ref b101), .val (.int (1 : Int32)), .val (.int (p1 &&& (31 : Int32))), .val (.int (p2 &&& (31 : Int32))), .val (.int v123), .val (.int v124), .val (.int (0 : Int32)), .unset] [(.long q3), (.int (p1 &&& (31 : Int32))), (.ref b101)]))
      obtain ⟨_, T243, L243, X243, hQ243, st243⟩ := ownCallV X124 hx hZ hown ww31 ww32 ww34 ww33 ww2 ww35 (by decide) (rm6s0c16g l Z a0 hw [] b101 (p1 &&& (31 : Int32)) q3 y114 y115 y116 (0 : Int32) (0 : Int32) (fun _ => (-1 : Int32)) T106.heap n0 Y106  P113 (own_rng _) hs160) e124 F117 0 (by decide) (by decide) (by decide) (by decide) (g := (mkF m 69 #[.val (.int p1), .val (.int p2), .val (.long q3), .second, .val (.long q4), .second, .val (.int p5), .val (.ref b101), .val (.int (1 : Int32)), .val (.int (p1 &&& (31 : Int32))), .val (.int (p2 &&& (31 : Int32))), .val (.int v123), .val (.int v124), .val (.int (0 : Int32)), .unset] [(.long q3), (.int (p1 &&& (31 : Int32))), (.ref b101)])) rfl (by rw [hml]; rfl) (argsL := [(.int (p1 &&& (31 : Int32))), (.long q3)]) (rest := []) (lenOf pd0_3 rfl) rfl rfl (by show 2 * 0 + _ ≤ _; exact Nat.le_of_eq rfl) (hb hby at_69)
      obtain ⟨y249, y250, hQ243⟩ := hQ243
      obtain ⟨rfl, N243q, K243q, P244, P245, P246, P247, P248⟩ := hQ243
      have N243 := Fr.app N122 N243q
      have F251 := F117.keep K243q
      have K243 := K106.trans K243q (allS (Or.inr v101) (allS (Or.inr (Nat.le_trans K101.1 P110)) (allS (Or.inr (Nat.le_trans K101.1 P111)) (allS (Or.inr (Nat.le_trans K101.1 P112)) all0))))
      have Y243 := Nat.le_trans Y106 K243q.1
      refine OwnEnd.go (fun _ k => st243 _ k) ?_
      show OwnEnd p e below s _ _ _ (T243.setTop (mkF m 72 #[.val (.int p1), .val (.int p2), .val (.long q3), .second, .val (.long q4), .second, .val (.int p5), .val (.ref b101), .val (.int (1 : Int32)), .val (.int (p1 &&& (31 : Int32))), .val (.int (p2 &&& (31 : Int32))), .val (.int v123), .val (.int v124), .val (.int (0 : Int32)), .unset] []))
      refine OwnEnd.go (fun _ k => XS.iconst X243.here hx rfl (hb hby at_72) k) ?_
      show OwnEnd p e below s _ _ _ (T243.setTop (mkF m 73 #[.val (.int p1), .val (.int p2), .val (.long q3), .second, .val (.long q4), .second, .val (.int p5), .val (.ref b101), .val (.int (1 : Int32)), .val (.int (p1 &&& (31 : Int32))), .val (.int (p2 &&& (31 : Int32))), .val (.int v123), .val (.int v124), .val (.int (0 : Int32)), .unset] [(.int (1 : Int32))]))
      refine OwnEnd.go (fun _ k => XS.istore X243.here hx rfl (hb hby at_73) rfl  (l' := #[.val (.int p1), .val (.int p2), .val (.long q3), .second, .val (.long q4), .second, .val (.int p5), .val (.ref b101), .val (.int (1 : Int32)), .val (.int (p1 &&& (31 : Int32))), .val (.int (p2 &&& (31 : Int32))), .val (.int v123), .val (.int v124), .val (.int (1 : Int32)), .unset]) rfl k) ?_
      show OwnEnd p e below s _ _ _ (T243.setTop (mkF m 75 #[.val (.int p1), .val (.int p2), .val (.long q3), .second, .val (.long q4), .second, .val (.int p5), .val (.ref b101), .val (.int (1 : Int32)), .val (.int (p1 &&& (31 : Int32))), .val (.int (p2 &&& (31 : Int32))), .val (.int v123), .val (.int v124), .val (.int (1 : Int32)), .unset] []))
      refine OwnEnd.go (fun _ k => XS.iload X243.here hx rfl (hb hby at_75) rfl  k) ?_
      show OwnEnd p e below s _ _ _ (T243.setTop (mkF m 77 #[.val (.int p1), .val (.int p2), .val (.long q3), .second, .val (.long q4), .second, .val (.int p5), .val (.ref b101), .val (.int (1 : Int32)), .val (.int (p1 &&& (31 : Int32))), .val (.int (p2 &&& (31 : Int32))), .val (.int v123), .val (.int v124), .val (.int (1 : Int32)), .unset] [(.int v124)]))
      by_cases hc253 : v124 = (0 : Int32)
      · refine OwnEnd.go (fun _ k => XS.ifYes X243.here hx rfl (pc0 := 77) (pc' := 107) rfl (hb hby at_77) rfl ((if0 _ _).trans (teq hc253).1) (by decide) (by decide) k) ?_
        show OwnEnd p e below s _ _ _ (T243.setTop (mkF m 107 #[.val (.int p1), .val (.int p2), .val (.long q3), .second, .val (.long q4), .second, .val (.int p5), .val (.ref b101), .val (.int (1 : Int32)), .val (.int (p1 &&& (31 : Int32))), .val (.int (p2 &&& (31 : Int32))), .val (.int v123), .val (.int v124), .val (.int (1 : Int32)), .unset] []))
        refine OwnEnd.go (fun _ k => XS.iload X243.here hx rfl (hb hby at_107) rfl  k) ?_
        show OwnEnd p e below s _ _ _ (T243.setTop (mkF m 109 #[.val (.int p1), .val (.int p2), .val (.long q3), .second, .val (.long q4), .second, .val (.int p5), .val (.ref b101), .val (.int (1 : Int32)), .val (.int (p1 &&& (31 : Int32))), .val (.int (p2 &&& (31 : Int32))), .val (.int v123), .val (.int v124), .val (.int (1 : Int32)), .unset] [(.int (1 : Int32))]))
        refine OwnEnd.go (fun _ k => XS.ifNo X243.here hx rfl (hb hby at_109) rfl ((if0 _ _).trans (feq (by decide : ¬ (1 : Int32) = (0 : Int32))).1) k) ?_
        show OwnEnd p e below s _ _ _ (T243.setTop (mkF m 112 #[.val (.int p1), .val (.int p2), .val (.long q3), .second, .val (.long q4), .second, .val (.int p5), .val (.ref b101), .val (.int (1 : Int32)), .val (.int (p1 &&& (31 : Int32))), .val (.int (p2 &&& (31 : Int32))), .val (.int v123), .val (.int v124), .val (.int (1 : Int32)), .unset] []))
        refine OwnEnd.go (fun _ k => XS.aload X243.here hx rfl (hb hby at_112) rfl rfl k) ?_
        show OwnEnd p e below s _ _ _ (T243.setTop (mkF m 114 #[.val (.int p1), .val (.int p2), .val (.long q3), .second, .val (.long q4), .second, .val (.int p5), .val (.ref b101), .val (.int (1 : Int32)), .val (.int (p1 &&& (31 : Int32))), .val (.int (p2 &&& (31 : Int32))), .val (.int v123), .val (.int v124), .val (.int (1 : Int32)), .unset] [(.ref b101)]))
        obtain ⟨_, T254, L254, X254, hQ254, st254⟩ := ownCallV X243 hx hZ hown ww24 ww25 ww27 ww26 ww2 ww28 (by decide) (rm5z1 l Z a0 hw [] b101 y114 y249 y250 (32 : Int32) (p1 &&& (31 : Int32)) (0 : Int32) (own_upd (own_cp 16 (fun _ => (-1 : Int32)) (fun _ => (-1 : Int32))) (p1 &&& (31 : Int32)) (0 : Int32)) T243.heap n0 Y243  P248) (rfl : T243.heap = T243.heap) F251 0 (by decide) (by decide) (by decide) (by decide) (g := (mkF m 114 #[.val (.int p1), .val (.int p2), .val (.long q3), .second, .val (.long q4), .second, .val (.int p5), .val (.ref b101), .val (.int (1 : Int32)), .val (.int (p1 &&& (31 : Int32))), .val (.int (p2 &&& (31 : Int32))), .val (.int v123), .val (.int v124), .val (.int (1 : Int32)), .unset] [(.ref b101)])) rfl (by rw [hml]; rfl) (argsL := []) (rest := []) (lenOf pd0_1 rfl) rfl rfl (by show 2 * 0 + _ ≤ _; exact Nat.le_of_eq rfl) (hb hby at_114)
        obtain ⟨rfl, N254q, e254⟩ := hQ254
        have N254 := Fr.app N243 N254q
        refine OwnEnd.go (fun _ k => st254 _ k) ?_
        show OwnEnd p e below s _ _ _ (T254.setTop (mkF m 117 #[.val (.int p1), .val (.int p2), .val (.long q3), .second, .val (.long q4), .second, .val (.int p5), .val (.ref b101), .val (.int (1 : Int32)), .val (.int (p1 &&& (31 : Int32))), .val (.int (p2 &&& (31 : Int32))), .val (.int v123), .val (.int v124), .val (.int (1 : Int32)), .unset] [(.int (0 : Int32))]))
        refine OwnEnd.go (fun _ k => XS.iload X254.here hx rfl (hb hby at_117) rfl  k) ?_
        show OwnEnd p e below s _ _ _ (T254.setTop (mkF m 119 #[.val (.int p1), .val (.int p2), .val (.long q3), .second, .val (.long q4), .second, .val (.int p5), .val (.ref b101), .val (.int (1 : Int32)), .val (.int (p1 &&& (31 : Int32))), .val (.int (p2 &&& (31 : Int32))), .val (.int v123), .val (.int v124), .val (.int (1 : Int32)), .unset] [(.int (1 : Int32)), (.int (0 : Int32))]))
        refine OwnEnd.go (fun _ k => XS.ifYes X254.here hx rfl (pc0 := 119) (pc' := 126) rfl (hb hby at_119) rfl ((if0 _ _).trans (feq (by decide : ¬ (1 : Int32) = (0 : Int32))).2) (by decide) (by decide) k) ?_
        show OwnEnd p e below s _ _ _ (T254.setTop (mkF m 126 #[.val (.int p1), .val (.int p2), .val (.long q3), .second, .val (.long q4), .second, .val (.int p5), .val (.ref b101), .val (.int (1 : Int32)), .val (.int (p1 &&& (31 : Int32))), .val (.int (p2 &&& (31 : Int32))), .val (.int v123), .val (.int v124), .val (.int (1 : Int32)), .unset] [(.int (0 : Int32))]))
        refine OwnEnd.go (fun _ k => XS.iconst X254.here hx rfl (hb hby at_126) k) ?_
        show OwnEnd p e below s _ _ _ (T254.setTop (mkF m 127 #[.val (.int p1), .val (.int p2), .val (.long q3), .second, .val (.long q4), .second, .val (.int p5), .val (.ref b101), .val (.int (1 : Int32)), .val (.int (p1 &&& (31 : Int32))), .val (.int (p2 &&& (31 : Int32))), .val (.int v123), .val (.int v124), .val (.int (1 : Int32)), .unset] [(.int (0 : Int32)), (.int (0 : Int32))]))
        refine OwnEnd.go (fun _ k => XS.icmpNo X254.here hx rfl (hb hby at_127) rfl (teq (by decide : (0 : Int32) = (0 : Int32))).2 k) ?_
        show OwnEnd p e below s _ _ _ (T254.setTop (mkF m 130 #[.val (.int p1), .val (.int p2), .val (.long q3), .second, .val (.long q4), .second, .val (.int p5), .val (.ref b101), .val (.int (1 : Int32)), .val (.int (p1 &&& (31 : Int32))), .val (.int (p2 &&& (31 : Int32))), .val (.int v123), .val (.int v124), .val (.int (1 : Int32)), .unset] []))
        refine OwnEnd.go (fun _ k => XS.iconst X254.here hx rfl (hb hby at_130) k) ?_
        show OwnEnd p e below s _ _ _ (T254.setTop (mkF m 131 #[.val (.int p1), .val (.int p2), .val (.long q3), .second, .val (.long q4), .second, .val (.int p5), .val (.ref b101), .val (.int (1 : Int32)), .val (.int (p1 &&& (31 : Int32))), .val (.int (p2 &&& (31 : Int32))), .val (.int v123), .val (.int v124), .val (.int (1 : Int32)), .unset] [(.int (1 : Int32))]))
        refine OwnEnd.go (fun _ k => XS.goto X254.here hx rfl (pc0 := 131) (pc' := 135) rfl (hb hby at_131) (by decide) (by decide) k) ?_
        show OwnEnd p e below s _ _ _ (T254.setTop (mkF m 135 #[.val (.int p1), .val (.int p2), .val (.long q3), .second, .val (.long q4), .second, .val (.int p5), .val (.ref b101), .val (.int (1 : Int32)), .val (.int (p1 &&& (31 : Int32))), .val (.int (p2 &&& (31 : Int32))), .val (.int v123), .val (.int v124), .val (.int (1 : Int32)), .unset] [(.int (1 : Int32))]))
        refine OwnEnd.go (fun _ k => XS.istore X254.here hx rfl (hb hby at_135) rfl  (l' := #[.val (.int p1), .val (.int p2), .val (.long q3), .second, .val (.long q4), .second, .val (.int p5), .val (.ref b101), .val (.int (1 : Int32)), .val (.int (p1 &&& (31 : Int32))), .val (.int (p2 &&& (31 : Int32))), .val (.int v123), .val (.int v124), .val (.int (1 : Int32)), .unset]) rfl k) ?_
        show OwnEnd p e below s _ _ _ (T254.setTop (mkF m 137 #[.val (.int p1), .val (.int p2), .val (.long q3), .second, .val (.long q4), .second, .val (.int p5), .val (.ref b101), .val (.int (1 : Int32)), .val (.int (p1 &&& (31 : Int32))), .val (.int (p2 &&& (31 : Int32))), .val (.int v123), .val (.int v124), .val (.int (1 : Int32)), .unset] []))
        refine OwnEnd.go (fun _ k => XS.iload X254.here hx rfl (hb hby at_137) rfl  k) ?_
        show OwnEnd p e below s _ _ _ (T254.setTop (mkF m 139 #[.val (.int p1), .val (.int p2), .val (.long q3), .second, .val (.long q4), .second, .val (.int p5), .val (.ref b101), .val (.int (1 : Int32)), .val (.int (p1 &&& (31 : Int32))), .val (.int (p2 &&& (31 : Int32))), .val (.int v123), .val (.int v124), .val (.int (1 : Int32)), .unset] [(.int p5)]))
        refine OwnEnd.go (fun _ k => XS.iconst X254.here hx rfl (hb hby at_139) k) ?_
        show OwnEnd p e below s _ _ _ (T254.setTop (mkF m 140 #[.val (.int p1), .val (.int p2), .val (.long q3), .second, .val (.long q4), .second, .val (.int p5), .val (.ref b101), .val (.int (1 : Int32)), .val (.int (p1 &&& (31 : Int32))), .val (.int (p2 &&& (31 : Int32))), .val (.int v123), .val (.int v124), .val (.int (1 : Int32)), .unset] [(.int (2 : Int32)), (.int p5)]))
        refine OwnEnd.go (fun _ k => XS.ishr X254.here hx rfl (hb hby at_140) rfl k) ?_
        show OwnEnd p e below s _ _ _ (T254.setTop (mkF m 141 #[.val (.int p1), .val (.int p2), .val (.long q3), .second, .val (.long q4), .second, .val (.int p5), .val (.ref b101), .val (.int (1 : Int32)), .val (.int (p1 &&& (31 : Int32))), .val (.int (p2 &&& (31 : Int32))), .val (.int v123), .val (.int v124), .val (.int (1 : Int32)), .unset] [(.int (p5 >>> ((2 : Int32) &&& 31)))]))
        refine OwnEnd.go (fun _ k => XS.iconst X254.here hx rfl (hb hby at_141) k) ?_
        show OwnEnd p e below s _ _ _ (T254.setTop (mkF m 142 #[.val (.int p1), .val (.int p2), .val (.long q3), .second, .val (.long q4), .second, .val (.int p5), .val (.ref b101), .val (.int (1 : Int32)), .val (.int (p1 &&& (31 : Int32))), .val (.int (p2 &&& (31 : Int32))), .val (.int v123), .val (.int v124), .val (.int (1 : Int32)), .unset] [(.int (3 : Int32)), (.int (p5 >>> ((2 : Int32) &&& 31)))]))
        refine OwnEnd.go (fun _ k => XS.iand X254.here hx rfl (hb hby at_142) rfl k) ?_
        show OwnEnd p e below s _ _ _ (T254.setTop (mkF m 143 #[.val (.int p1), .val (.int p2), .val (.long q3), .second, .val (.long q4), .second, .val (.int p5), .val (.ref b101), .val (.int (1 : Int32)), .val (.int (p1 &&& (31 : Int32))), .val (.int (p2 &&& (31 : Int32))), .val (.int v123), .val (.int v124), .val (.int (1 : Int32)), .unset] [(.int ((p5 >>> ((2 : Int32) &&& 31)) &&& (3 : Int32)))]))
        refine OwnEnd.go (fun _ k => XS.iload X254.here hx rfl (hb hby at_143) rfl  k) ?_
        show OwnEnd p e below s _ _ _ (T254.setTop (mkF m 145 #[.val (.int p1), .val (.int p2), .val (.long q3), .second, .val (.long q4), .second, .val (.int p5), .val (.ref b101), .val (.int (1 : Int32)), .val (.int (p1 &&& (31 : Int32))), .val (.int (p2 &&& (31 : Int32))), .val (.int v123), .val (.int v124), .val (.int (1 : Int32)), .unset] [(.int (1 : Int32)), (.int ((p5 >>> ((2 : Int32) &&& 31)) &&& (3 : Int32)))]))
        obtain ⟨_, T255, L255, X255, hQ255, st255⟩ := ownCallS X254 hx hZ hown ww44 ww45 ww46 ww47 (by decide) (rm9 l Z a0 hw [] ((p5 >>> ((2 : Int32) &&& 31)) &&& (3 : Int32)) (1 : Int32) T243.heap n0 Y243  ) e254 0 (by decide) (by decide) (by decide) (by decide) (g := (mkF m 145 #[.val (.int p1), .val (.int p2), .val (.long q3), .second, .val (.long q4), .second, .val (.int p5), .val (.ref b101), .val (.int (1 : Int32)), .val (.int (p1 &&& (31 : Int32))), .val (.int (p2 &&& (31 : Int32))), .val (.int v123), .val (.int v124), .val (.int (1 : Int32)), .unset] [(.int (1 : Int32)), (.int ((p5 >>> ((2 : Int32) &&& 31)) &&& (3 : Int32)))])) rfl (by rw [hml]; rfl) (argsL := [(.int ((p5 >>> ((2 : Int32) &&& 31)) &&& (3 : Int32))), (.int (1 : Int32))]) (rest := []) (lenOf pd0_2 rfl) rfl rfl (by show 2 * 0 + _ ≤ _; exact Nat.le_of_eq rfl) (hb hby at_145)
        obtain ⟨rfl, N255q, e255⟩ := hQ255
        have N255 := Fr.app N254 N255q
        refine OwnEnd.go (fun _ k => st255 _ k) ?_
        show OwnEnd p e below s _ _ _ (T255.setTop (mkF m 148 #[.val (.int p1), .val (.int p2), .val (.long q3), .second, .val (.long q4), .second, .val (.int p5), .val (.ref b101), .val (.int (1 : Int32)), .val (.int (p1 &&& (31 : Int32))), .val (.int (p2 &&& (31 : Int32))), .val (.int v123), .val (.int v124), .val (.int (1 : Int32)), .unset] [(.int (own_min ((p5 >>> ((2 : Int32) &&& 31)) &&& (3 : Int32)) (1 : Int32)))]))
        refine OwnEnd.go (fun _ k => XS.istore X255.here hx rfl (hb hby at_148) rfl  (l' := #[.val (.int p1), .val (.int p2), .val (.long q3), .second, .val (.long q4), .second, .val (.int p5), .val (.ref b101), .val (.int (1 : Int32)), .val (.int (p1 &&& (31 : Int32))), .val (.int (p2 &&& (31 : Int32))), .val (.int v123), .val (.int v124), .val (.int (1 : Int32)), .val (.int (own_min ((p5 >>> ((2 : Int32) &&& 31)) &&& (3 : Int32)) (1 : Int32)))]) rfl k) ?_
        show OwnEnd p e below s _ _ _ (T255.setTop (mkF m 150 #[.val (.int p1), .val (.int p2), .val (.long q3), .second, .val (.long q4), .second, .val (.int p5), .val (.ref b101), .val (.int (1 : Int32)), .val (.int (p1 &&& (31 : Int32))), .val (.int (p2 &&& (31 : Int32))), .val (.int v123), .val (.int v124), .val (.int (1 : Int32)), .val (.int (own_min ((p5 >>> ((2 : Int32) &&& 31)) &&& (3 : Int32)) (1 : Int32)))] []))
        refine OwnEnd.go (fun _ k => XS.iload X255.here hx rfl (hb hby at_150) rfl  k) ?_
        show OwnEnd p e below s _ _ _ (T255.setTop (mkF m 152 #[.val (.int p1), .val (.int p2), .val (.long q3), .second, .val (.long q4), .second, .val (.int p5), .val (.ref b101), .val (.int (1 : Int32)), .val (.int (p1 &&& (31 : Int32))), .val (.int (p2 &&& (31 : Int32))), .val (.int v123), .val (.int v124), .val (.int (1 : Int32)), .val (.int (own_min ((p5 >>> ((2 : Int32) &&& 31)) &&& (3 : Int32)) (1 : Int32)))] [(.int (own_min ((p5 >>> ((2 : Int32) &&& 31)) &&& (3 : Int32)) (1 : Int32)))]))
        refine OwnEnd.go (fun _ k => XS.iconst X255.here hx rfl (hb hby at_152) k) ?_
        show OwnEnd p e below s _ _ _ (T255.setTop (mkF m 153 #[.val (.int p1), .val (.int p2), .val (.long q3), .second, .val (.long q4), .second, .val (.int p5), .val (.ref b101), .val (.int (1 : Int32)), .val (.int (p1 &&& (31 : Int32))), .val (.int (p2 &&& (31 : Int32))), .val (.int v123), .val (.int v124), .val (.int (1 : Int32)), .val (.int (own_min ((p5 >>> ((2 : Int32) &&& 31)) &&& (3 : Int32)) (1 : Int32)))] [(.int (1 : Int32)), (.int (own_min ((p5 >>> ((2 : Int32) &&& 31)) &&& (3 : Int32)) (1 : Int32)))]))
        by_cases hc256 : (own_min ((p5 >>> ((2 : Int32) &&& 31)) &&& (3 : Int32)) (1 : Int32)) < (1 : Int32)
        · refine OwnEnd.go (fun _ k => XS.icmpYes X255.here hx rfl (pc0 := 153) (pc' := 193) rfl (hb hby at_153) rfl (tlt hc256).1 (by decide) (by decide) k) ?_
          show OwnEnd p e below s _ _ _ (T255.setTop (mkF m 193 #[.val (.int p1), .val (.int p2), .val (.long q3), .second, .val (.long q4), .second, .val (.int p5), .val (.ref b101), .val (.int (1 : Int32)), .val (.int (p1 &&& (31 : Int32))), .val (.int (p2 &&& (31 : Int32))), .val (.int v123), .val (.int v124), .val (.int (1 : Int32)), .val (.int (own_min ((p5 >>> ((2 : Int32) &&& 31)) &&& (3 : Int32)) (1 : Int32)))] []))
          refine OwnEnd.go (fun _ k => XS.iload X255.here hx rfl (hb hby at_193) rfl  k) ?_
          show OwnEnd p e below s _ _ _ (T255.setTop (mkF m 195 #[.val (.int p1), .val (.int p2), .val (.long q3), .second, .val (.long q4), .second, .val (.int p5), .val (.ref b101), .val (.int (1 : Int32)), .val (.int (p1 &&& (31 : Int32))), .val (.int (p2 &&& (31 : Int32))), .val (.int v123), .val (.int v124), .val (.int (1 : Int32)), .val (.int (own_min ((p5 >>> ((2 : Int32) &&& 31)) &&& (3 : Int32)) (1 : Int32)))] [(.int (own_min ((p5 >>> ((2 : Int32) &&& 31)) &&& (3 : Int32)) (1 : Int32)))]))
          refine OwnEnd.go (fun _ k => XS.iconst X255.here hx rfl (hb hby at_195) k) ?_
          show OwnEnd p e below s _ _ _ (T255.setTop (mkF m 196 #[.val (.int p1), .val (.int p2), .val (.long q3), .second, .val (.long q4), .second, .val (.int p5), .val (.ref b101), .val (.int (1 : Int32)), .val (.int (p1 &&& (31 : Int32))), .val (.int (p2 &&& (31 : Int32))), .val (.int v123), .val (.int v124), .val (.int (1 : Int32)), .val (.int (own_min ((p5 >>> ((2 : Int32) &&& 31)) &&& (3 : Int32)) (1 : Int32)))] [(.int (2 : Int32)), (.int (own_min ((p5 >>> ((2 : Int32) &&& 31)) &&& (3 : Int32)) (1 : Int32)))]))
          refine OwnEnd.go (fun _ k => XS.icmpYes X255.here hx rfl (pc0 := 196) (pc' := 225) rfl (hb hby at_196) rfl (tlt (own_min1 _)).1 (by decide) (by decide) k) ?_
          show OwnEnd p e below s _ _ _ (T255.setTop (mkF m 225 #[.val (.int p1), .val (.int p2), .val (.long q3), .second, .val (.long q4), .second, .val (.int p5), .val (.ref b101), .val (.int (1 : Int32)), .val (.int (p1 &&& (31 : Int32))), .val (.int (p2 &&& (31 : Int32))), .val (.int v123), .val (.int v124), .val (.int (1 : Int32)), .val (.int (own_min ((p5 >>> ((2 : Int32) &&& 31)) &&& (3 : Int32)) (1 : Int32)))] []))
          refine OwnEnd.go (fun _ k => XS.iload X255.here hx rfl (hb hby at_225) rfl  k) ?_
          show OwnEnd p e below s _ _ _ (T255.setTop (mkF m 227 #[.val (.int p1), .val (.int p2), .val (.long q3), .second, .val (.long q4), .second, .val (.int p5), .val (.ref b101), .val (.int (1 : Int32)), .val (.int (p1 &&& (31 : Int32))), .val (.int (p2 &&& (31 : Int32))), .val (.int v123), .val (.int v124), .val (.int (1 : Int32)), .val (.int (own_min ((p5 >>> ((2 : Int32) &&& 31)) &&& (3 : Int32)) (1 : Int32)))] [(.int (1 : Int32))]))
          refine ownRetZ X255 hx hlk hret (hb hby at_227) (by decide) (by decide) (1 : Int32) (by decide) ?_
          show Q0 Z p1 p2 q3 q4 p5 h0 n0 _ T255.heap _
          rw [e255]
          exact ⟨rfl, N255⟩
        · refine OwnEnd.go (fun _ k => XS.icmpNo X255.here hx rfl (hb hby at_153) rfl (flt hc256).1 k) ?_
          show OwnEnd p e below s _ _ _ (T255.setTop (mkF m 156 #[.val (.int p1), .val (.int p2), .val (.long q3), .second, .val (.long q4), .second, .val (.int p5), .val (.ref b101), .val (.int (1 : Int32)), .val (.int (p1 &&& (31 : Int32))), .val (.int (p2 &&& (31 : Int32))), .val (.int v123), .val (.int v124), .val (.int (1 : Int32)), .val (.int (own_min ((p5 >>> ((2 : Int32) &&& 31)) &&& (3 : Int32)) (1 : Int32)))] []))
          refine OwnEnd.go (fun _ k => XS.aload X255.here hx rfl (hb hby at_156) rfl rfl k) ?_
          show OwnEnd p e below s _ _ _ (T255.setTop (mkF m 158 #[.val (.int p1), .val (.int p2), .val (.long q3), .second, .val (.long q4), .second, .val (.int p5), .val (.ref b101), .val (.int (1 : Int32)), .val (.int (p1 &&& (31 : Int32))), .val (.int (p2 &&& (31 : Int32))), .val (.int v123), .val (.int v124), .val (.int (1 : Int32)), .val (.int (own_min ((p5 >>> ((2 : Int32) &&& 31)) &&& (3 : Int32)) (1 : Int32)))] [(.ref b101)]))
          obtain ⟨_, T257, L257, X257, hQ257, st257⟩ := ownCallV X255 hx hZ hown ww68 ww69 ww71 ww70 ww2 ww72 (by decide) (rm14z1 l Z a0 hw [] b101 y114 y249 y250 (32 : Int32) (p1 &&& (31 : Int32)) (0 : Int32) (own_upd (own_cp 16 (fun _ => (-1 : Int32)) (fun _ => (-1 : Int32))) (p1 &&& (31 : Int32)) (0 : Int32)) T243.heap n0 Y243  P248 (own_rng _)) e255 F251 0 (by decide) (by decide) (by decide) (by decide) (g := (mkF m 158 #[.val (.int p1), .val (.int p2), .val (.long q3), .second, .val (.long q4), .second, .val (.int p5), .val (.ref b101), .val (.int (1 : Int32)), .val (.int (p1 &&& (31 : Int32))), .val (.int (p2 &&& (31 : Int32))), .val (.int v123), .val (.int v124), .val (.int (1 : Int32)), .val (.int (own_min ((p5 >>> ((2 : Int32) &&& 31)) &&& (3 : Int32)) (1 : Int32)))] [(.ref b101)])) rfl (by rw [hml]; rfl) (argsL := []) (rest := []) (lenOf pd0_4 rfl) rfl rfl (by show 2 * 0 + _ ≤ _; exact Nat.le_of_eq rfl) (hb hby at_158)
          obtain ⟨rfl, N257q, K257q, P258⟩ := hQ257
          have N257 := Fr.app N255 N257q
          have F259 := F251.keep K257q
          have K257 := K243.trans K257q (allS (Or.inr v101) (allS (Or.inr (Nat.le_trans K101.1 P110)) (allS (Or.inr (Nat.le_trans K106.1 P246)) (allS (Or.inr (Nat.le_trans K106.1 P247)) all0))))
          have Y257 := Nat.le_trans Y243 K257q.1
          refine OwnEnd.go (fun _ k => st257 _ k) ?_
          show OwnEnd p e below s _ _ _ (T257.setTop (mkF m 161 #[.val (.int p1), .val (.int p2), .val (.long q3), .second, .val (.long q4), .second, .val (.int p5), .val (.ref b101), .val (.int (1 : Int32)), .val (.int (p1 &&& (31 : Int32))), .val (.int (p2 &&& (31 : Int32))), .val (.int v123), .val (.int v124), .val (.int (1 : Int32)), .val (.int (own_min ((p5 >>> ((2 : Int32) &&& 31)) &&& (3 : Int32)) (1 : Int32)))] [(.int (p1 &&& (31 : Int32)))]))
          refine OwnEnd.go (fun _ k => XS.pop X257.here hx rfl (hb hby at_161) rfl rfl k) ?_
          show OwnEnd p e below s _ _ _ (T257.setTop (mkF m 162 #[.val (.int p1), .val (.int p2), .val (.long q3), .second, .val (.long q4), .second, .val (.int p5), .val (.ref b101), .val (.int (1 : Int32)), .val (.int (p1 &&& (31 : Int32))), .val (.int (p2 &&& (31 : Int32))), .val (.int v123), .val (.int v124), .val (.int (1 : Int32)), .val (.int (own_min ((p5 >>> ((2 : Int32) &&& 31)) &&& (3 : Int32)) (1 : Int32)))] []))
          refine OwnEnd.go (fun _ k => XS.iload X257.here hx rfl (hb hby at_162) rfl  k) ?_
          show OwnEnd p e below s _ _ _ (T257.setTop (mkF m 164 #[.val (.int p1), .val (.int p2), .val (.long q3), .second, .val (.long q4), .second, .val (.int p5), .val (.ref b101), .val (.int (1 : Int32)), .val (.int (p1 &&& (31 : Int32))), .val (.int (p2 &&& (31 : Int32))), .val (.int v123), .val (.int v124), .val (.int (1 : Int32)), .val (.int (own_min ((p5 >>> ((2 : Int32) &&& 31)) &&& (3 : Int32)) (1 : Int32)))] [(.int (1 : Int32))]))
          refine OwnEnd.go (fun _ k => XS.ifNo X257.here hx rfl (hb hby at_164) rfl ((if0 _ _).trans (feq (by decide : ¬ (1 : Int32) = (0 : Int32))).1) k) ?_
          show OwnEnd p e below s _ _ _ (T257.setTop (mkF m 167 #[.val (.int p1), .val (.int p2), .val (.long q3), .second, .val (.long q4), .second, .val (.int p5), .val (.ref b101), .val (.int (1 : Int32)), .val (.int (p1 &&& (31 : Int32))), .val (.int (p2 &&& (31 : Int32))), .val (.int v123), .val (.int v124), .val (.int (1 : Int32)), .val (.int (own_min ((p5 >>> ((2 : Int32) &&& 31)) &&& (3 : Int32)) (1 : Int32)))] []))
          refine OwnEnd.go (fun _ k => XS.aload X257.here hx rfl (hb hby at_167) rfl rfl k) ?_
          show OwnEnd p e below s _ _ _ (T257.setTop (mkF m 169 #[.val (.int p1), .val (.int p2), .val (.long q3), .second, .val (.long q4), .second, .val (.int p5), .val (.ref b101), .val (.int (1 : Int32)), .val (.int (p1 &&& (31 : Int32))), .val (.int (p2 &&& (31 : Int32))), .val (.int v123), .val (.int v124), .val (.int (1 : Int32)), .val (.int (own_min ((p5 >>> ((2 : Int32) &&& 31)) &&& (3 : Int32)) (1 : Int32)))] [(.ref b101)]))
          obtain ⟨_, T261, L261, X261, hQ261, st261⟩ := ownCallV X257 hx hZ hown ww24 ww25 ww27 ww26 ww2 ww28 (by decide) (rm5z0 l Z a0 hw [] b101 y114 y249 y250 (32 : Int32) (p1 &&& (31 : Int32)) (0 : Int32) (own_upd (own_upd (own_cp 16 (fun _ => (-1 : Int32)) (fun _ => (-1 : Int32))) (p1 &&& (31 : Int32)) (0 : Int32)) (p1 &&& (31 : Int32)) (-1 : Int32)) T257.heap n0 Y257  P258) (rfl : T257.heap = T257.heap) F259 0 (by decide) (by decide) (by decide) (by decide) (g := (mkF m 169 #[.val (.int p1), .val (.int p2), .val (.long q3), .second, .val (.long q4), .second, .val (.int p5), .val (.ref b101), .val (.int (1 : Int32)), .val (.int (p1 &&& (31 : Int32))), .val (.int (p2 &&& (31 : Int32))), .val (.int v123), .val (.int v124), .val (.int (1 : Int32)), .val (.int (own_min ((p5 >>> ((2 : Int32) &&& 31)) &&& (3 : Int32)) (1 : Int32)))] [(.ref b101)])) rfl (by rw [hml]; rfl) (argsL := []) (rest := []) (lenOf pd0_1 rfl) rfl rfl (by show 2 * 0 + _ ≤ _; exact Nat.le_of_eq rfl) (hb hby at_169)
          obtain ⟨rfl, N261q, e261⟩ := hQ261
          have N261 := Fr.app N257 N261q
          refine OwnEnd.go (fun _ k => st261 _ k) ?_
          show OwnEnd p e below s _ _ _ (T261.setTop (mkF m 172 #[.val (.int p1), .val (.int p2), .val (.long q3), .second, .val (.long q4), .second, .val (.int p5), .val (.ref b101), .val (.int (1 : Int32)), .val (.int (p1 &&& (31 : Int32))), .val (.int (p2 &&& (31 : Int32))), .val (.int v123), .val (.int v124), .val (.int (1 : Int32)), .val (.int (own_min ((p5 >>> ((2 : Int32) &&& 31)) &&& (3 : Int32)) (1 : Int32)))] [(.int (1 : Int32))]))
          refine OwnEnd.go (fun _ k => XS.iload X261.here hx rfl (hb hby at_172) rfl  k) ?_
          show OwnEnd p e below s _ _ _ (T261.setTop (mkF m 174 #[.val (.int p1), .val (.int p2), .val (.long q3), .second, .val (.long q4), .second, .val (.int p5), .val (.ref b101), .val (.int (1 : Int32)), .val (.int (p1 &&& (31 : Int32))), .val (.int (p2 &&& (31 : Int32))), .val (.int v123), .val (.int v124), .val (.int (1 : Int32)), .val (.int (own_min ((p5 >>> ((2 : Int32) &&& 31)) &&& (3 : Int32)) (1 : Int32)))] [(.int (1 : Int32)), (.int (1 : Int32))]))
          refine OwnEnd.go (fun _ k => XS.iconst X261.here hx rfl (hb hby at_174) k) ?_
          show OwnEnd p e below s _ _ _ (T261.setTop (mkF m 175 #[.val (.int p1), .val (.int p2), .val (.long q3), .second, .val (.long q4), .second, .val (.int p5), .val (.ref b101), .val (.int (1 : Int32)), .val (.int (p1 &&& (31 : Int32))), .val (.int (p2 &&& (31 : Int32))), .val (.int v123), .val (.int v124), .val (.int (1 : Int32)), .val (.int (own_min ((p5 >>> ((2 : Int32) &&& 31)) &&& (3 : Int32)) (1 : Int32)))] [(.int (1 : Int32)), (.int (1 : Int32)), (.int (1 : Int32))]))
          refine OwnEnd.go (fun _ k => XS.icmpNo X261.here hx rfl (hb hby at_175) rfl (teq (by decide : (1 : Int32) = (1 : Int32))).2 k) ?_
          show OwnEnd p e below s _ _ _ (T261.setTop (mkF m 178 #[.val (.int p1), .val (.int p2), .val (.long q3), .second, .val (.long q4), .second, .val (.int p5), .val (.ref b101), .val (.int (1 : Int32)), .val (.int (p1 &&& (31 : Int32))), .val (.int (p2 &&& (31 : Int32))), .val (.int v123), .val (.int v124), .val (.int (1 : Int32)), .val (.int (own_min ((p5 >>> ((2 : Int32) &&& 31)) &&& (3 : Int32)) (1 : Int32)))] [(.int (1 : Int32))]))
          refine OwnEnd.go (fun _ k => XS.iconst X261.here hx rfl (hb hby at_178) k) ?_
          show OwnEnd p e below s _ _ _ (T261.setTop (mkF m 179 #[.val (.int p1), .val (.int p2), .val (.long q3), .second, .val (.long q4), .second, .val (.int p5), .val (.ref b101), .val (.int (1 : Int32)), .val (.int (p1 &&& (31 : Int32))), .val (.int (p2 &&& (31 : Int32))), .val (.int v123), .val (.int v124), .val (.int (1 : Int32)), .val (.int (own_min ((p5 >>> ((2 : Int32) &&& 31)) &&& (3 : Int32)) (1 : Int32)))] [(.int (1 : Int32)), (.int (1 : Int32))]))
          refine OwnEnd.go (fun _ k => XS.goto X261.here hx rfl (pc0 := 179) (pc' := 183) rfl (hb hby at_179) (by decide) (by decide) k) ?_
          show OwnEnd p e below s _ _ _ (T261.setTop (mkF m 183 #[.val (.int p1), .val (.int p2), .val (.long q3), .second, .val (.long q4), .second, .val (.int p5), .val (.ref b101), .val (.int (1 : Int32)), .val (.int (p1 &&& (31 : Int32))), .val (.int (p2 &&& (31 : Int32))), .val (.int v123), .val (.int v124), .val (.int (1 : Int32)), .val (.int (own_min ((p5 >>> ((2 : Int32) &&& 31)) &&& (3 : Int32)) (1 : Int32)))] [(.int (1 : Int32)), (.int (1 : Int32))]))
          refine OwnEnd.go (fun _ k => XS.icmpNo X261.here hx rfl (hb hby at_183) rfl (teq (by decide : (1 : Int32) = (1 : Int32))).2 k) ?_
          show OwnEnd p e below s _ _ _ (T261.setTop (mkF m 186 #[.val (.int p1), .val (.int p2), .val (.long q3), .second, .val (.long q4), .second, .val (.int p5), .val (.ref b101), .val (.int (1 : Int32)), .val (.int (p1 &&& (31 : Int32))), .val (.int (p2 &&& (31 : Int32))), .val (.int v123), .val (.int v124), .val (.int (1 : Int32)), .val (.int (own_min ((p5 >>> ((2 : Int32) &&& 31)) &&& (3 : Int32)) (1 : Int32)))] []))
          refine OwnEnd.go (fun _ k => XS.iconst X261.here hx rfl (hb hby at_186) k) ?_
          show OwnEnd p e below s _ _ _ (T261.setTop (mkF m 187 #[.val (.int p1), .val (.int p2), .val (.long q3), .second, .val (.long q4), .second, .val (.int p5), .val (.ref b101), .val (.int (1 : Int32)), .val (.int (p1 &&& (31 : Int32))), .val (.int (p2 &&& (31 : Int32))), .val (.int v123), .val (.int v124), .val (.int (1 : Int32)), .val (.int (own_min ((p5 >>> ((2 : Int32) &&& 31)) &&& (3 : Int32)) (1 : Int32)))] [(.int (1 : Int32))]))
          refine OwnEnd.go (fun _ k => XS.goto X261.here hx rfl (pc0 := 187) (pc' := 191) rfl (hb hby at_187) (by decide) (by decide) k) ?_
          show OwnEnd p e below s _ _ _ (T261.setTop (mkF m 191 #[.val (.int p1), .val (.int p2), .val (.long q3), .second, .val (.long q4), .second, .val (.int p5), .val (.ref b101), .val (.int (1 : Int32)), .val (.int (p1 &&& (31 : Int32))), .val (.int (p2 &&& (31 : Int32))), .val (.int v123), .val (.int v124), .val (.int (1 : Int32)), .val (.int (own_min ((p5 >>> ((2 : Int32) &&& 31)) &&& (3 : Int32)) (1 : Int32)))] [(.int (1 : Int32))]))
          refine OwnEnd.go (fun _ k => XS.istore X261.here hx rfl (hb hby at_191) rfl  (l' := #[.val (.int p1), .val (.int p2), .val (.long q3), .second, .val (.long q4), .second, .val (.int p5), .val (.ref b101), .val (.int (1 : Int32)), .val (.int (p1 &&& (31 : Int32))), .val (.int (p2 &&& (31 : Int32))), .val (.int v123), .val (.int v124), .val (.int (1 : Int32)), .val (.int (own_min ((p5 >>> ((2 : Int32) &&& 31)) &&& (3 : Int32)) (1 : Int32)))]) rfl k) ?_
          show OwnEnd p e below s _ _ _ (T261.setTop (mkF m 193 #[.val (.int p1), .val (.int p2), .val (.long q3), .second, .val (.long q4), .second, .val (.int p5), .val (.ref b101), .val (.int (1 : Int32)), .val (.int (p1 &&& (31 : Int32))), .val (.int (p2 &&& (31 : Int32))), .val (.int v123), .val (.int v124), .val (.int (1 : Int32)), .val (.int (own_min ((p5 >>> ((2 : Int32) &&& 31)) &&& (3 : Int32)) (1 : Int32)))] []))
          refine OwnEnd.go (fun _ k => XS.iload X261.here hx rfl (hb hby at_193) rfl  k) ?_
          show OwnEnd p e below s _ _ _ (T261.setTop (mkF m 195 #[.val (.int p1), .val (.int p2), .val (.long q3), .second, .val (.long q4), .second, .val (.int p5), .val (.ref b101), .val (.int (1 : Int32)), .val (.int (p1 &&& (31 : Int32))), .val (.int (p2 &&& (31 : Int32))), .val (.int v123), .val (.int v124), .val (.int (1 : Int32)), .val (.int (own_min ((p5 >>> ((2 : Int32) &&& 31)) &&& (3 : Int32)) (1 : Int32)))] [(.int (own_min ((p5 >>> ((2 : Int32) &&& 31)) &&& (3 : Int32)) (1 : Int32)))]))
          refine OwnEnd.go (fun _ k => XS.iconst X261.here hx rfl (hb hby at_195) k) ?_
          show OwnEnd p e below s _ _ _ (T261.setTop (mkF m 196 #[.val (.int p1), .val (.int p2), .val (.long q3), .second, .val (.long q4), .second, .val (.int p5), .val (.ref b101), .val (.int (1 : Int32)), .val (.int (p1 &&& (31 : Int32))), .val (.int (p2 &&& (31 : Int32))), .val (.int v123), .val (.int v124), .val (.int (1 : Int32)), .val (.int (own_min ((p5 >>> ((2 : Int32) &&& 31)) &&& (3 : Int32)) (1 : Int32)))] [(.int (2 : Int32)), (.int (own_min ((p5 >>> ((2 : Int32) &&& 31)) &&& (3 : Int32)) (1 : Int32)))]))
          refine OwnEnd.go (fun _ k => XS.icmpYes X261.here hx rfl (pc0 := 196) (pc' := 225) rfl (hb hby at_196) rfl (tlt (own_min1 _)).1 (by decide) (by decide) k) ?_
          show OwnEnd p e below s _ _ _ (T261.setTop (mkF m 225 #[.val (.int p1), .val (.int p2), .val (.long q3), .second, .val (.long q4), .second, .val (.int p5), .val (.ref b101), .val (.int (1 : Int32)), .val (.int (p1 &&& (31 : Int32))), .val (.int (p2 &&& (31 : Int32))), .val (.int v123), .val (.int v124), .val (.int (1 : Int32)), .val (.int (own_min ((p5 >>> ((2 : Int32) &&& 31)) &&& (3 : Int32)) (1 : Int32)))] []))
          refine OwnEnd.go (fun _ k => XS.iload X261.here hx rfl (hb hby at_225) rfl  k) ?_
          show OwnEnd p e below s _ _ _ (T261.setTop (mkF m 227 #[.val (.int p1), .val (.int p2), .val (.long q3), .second, .val (.long q4), .second, .val (.int p5), .val (.ref b101), .val (.int (1 : Int32)), .val (.int (p1 &&& (31 : Int32))), .val (.int (p2 &&& (31 : Int32))), .val (.int v123), .val (.int v124), .val (.int (1 : Int32)), .val (.int (own_min ((p5 >>> ((2 : Int32) &&& 31)) &&& (3 : Int32)) (1 : Int32)))] [(.int (1 : Int32))]))
          refine ownRetZ X261 hx hlk hret (hb hby at_227) (by decide) (by decide) (1 : Int32) (by decide) ?_
          show Q0 Z p1 p2 q3 q4 p5 h0 n0 _ T261.heap _
          rw [e261]
          exact ⟨rfl, N261⟩
      · refine OwnEnd.go (fun _ k => XS.ifNo X243.here hx rfl (hb hby at_77) rfl ((if0 _ _).trans (feq hc253).1) k) ?_
        show OwnEnd p e below s _ _ _ (T243.setTop (mkF m 80 #[.val (.int p1), .val (.int p2), .val (.long q3), .second, .val (.long q4), .second, .val (.int p5), .val (.ref b101), .val (.int (1 : Int32)), .val (.int (p1 &&& (31 : Int32))), .val (.int (p2 &&& (31 : Int32))), .val (.int v123), .val (.int v124), .val (.int (1 : Int32)), .unset] []))
        by_cases hs262 : (p2 &&& (31 : Int32)) = (p1 &&& (31 : Int32))
        · show OwnEnd p e below s _ _ _ (T243.setTop (mkF m 80 #[.val (.int p1), .val (.int p2), .val (.long q3), .second, .val (.long q4), .second, .val (.int p5), .val (.ref b101), .val (.int (1 : Int32)), .val (.int (p1 &&& (31 : Int32))), .val (.int (p2 &&& (31 : Int32))), .val (.int v123), .val (.int v124), .val (.int (1 : Int32)), .unset] []))
          refine OwnEnd.go (fun _ k => XS.aload X243.here hx rfl (hb hby at_80) rfl rfl k) ?_
          show OwnEnd p e below s _ _ _ (T243.setTop (mkF m 82 #[.val (.int p1), .val (.int p2), .val (.long q3), .second, .val (.long q4), .second, .val (.int p5), .val (.ref b101), .val (.int (1 : Int32)), .val (.int (p1 &&& (31 : Int32))), .val (.int (p2 &&& (31 : Int32))), .val (.int v123), .val (.int v124), .val (.int (1 : Int32)), .unset] [(.ref b101)]))
          refine OwnEnd.go (fun _ k => XS.iload X243.here hx rfl (hb hby at_82) rfl  k) ?_
          show OwnEnd p e below s _ _ _ (T243.setTop (mkF m 84 #[.val (.int p1), .val (.int p2), .val (.long q3), .second, .val (.long q4), .second, .val (.int p5), .val (.ref b101), .val (.int (1 : Int32)), .val (.int (p1 &&& (31 : Int32))), .val (.int (p2 &&& (31 : Int32))), .val (.int v123), .val (.int v124), .val (.int (1 : Int32)), .unset] [(.int (p2 &&& (31 : Int32))), (.ref b101)]))
          refine OwnEnd.go (fun _ k => XS.lload X243.here hx rfl (hb hby at_84) rfl  k) ?_
          show OwnEnd p e below s _ _ _ (T243.setTop (mkF m 86 #[.val (.int p1), .val (.int p2), .val (.long q3), .second, .val (.long q4), .second, .val (.int p5), .val (.ref b101), .val (.int (1 : Int32)), .val (.int (p1 &&& (31 : Int32))), .val (.int (p2 &&& (31 : Int32))), .val (.int v123), .val (.int v124), .val (.int (1 : Int32)), .unset] [(.long q4), (.int (p2 &&& (31 : Int32))), (.ref b101)]))
          obtain ⟨_, T263, L263, X263, hQ263, st263⟩ := ownCallV X243 hx hZ hown ww31 ww32 ww34 ww33 ww2 ww35 (by decide) (rm6s1c32s l Z a0 hw [] b101 (p2 &&& (31 : Int32)) q4 y114 y249 y250 (p1 &&& (31 : Int32)) (0 : Int32) (own_upd (own_cp 16 (fun _ => (-1 : Int32)) (fun _ => (-1 : Int32))) (p1 &&& (31 : Int32)) (0 : Int32)) T243.heap n0 Y243  P248 (own_rng _) (by rw [hs262]; exact own_upd_eq _ _ _) (own_rng _)) (rfl : T243.heap = T243.heap) F251 0 (by decide) (by decide) (by decide) (by decide) (g := (mkF m 86 #[.val (.int p1), .val (.int p2), .val (.long q3), .second, .val (.long q4), .second, .val (.int p5), .val (.ref b101), .val (.int (1 : Int32)), .val (.int (p1 &&& (31 : Int32))), .val (.int (p2 &&& (31 : Int32))), .val (.int v123), .val (.int v124), .val (.int (1 : Int32)), .unset] [(.long q4), (.int (p2 &&& (31 : Int32))), (.ref b101)])) rfl (by rw [hml]; rfl) (argsL := [(.int (p2 &&& (31 : Int32))), (.long q4)]) (rest := []) (lenOf pd0_3 rfl) rfl rfl (by show 2 * 0 + _ ≤ _; exact Nat.le_of_eq rfl) (hb hby at_86)
          obtain ⟨y266, y267, hQ263⟩ := hQ263
          obtain ⟨rfl, N263q, K263q, P264, P265⟩ := hQ263
          have N263 := Fr.app N243 N263q
          have F268 := F251.keep K263q
          have K263 := K243.trans K263q (allS (Or.inr v101) (allS (Or.inr (Nat.le_trans K101.1 P110)) (allS (Or.inr (Nat.le_trans K106.1 P246)) (allS (Or.inr (Nat.le_trans K106.1 P247)) all0))))
          have Y263 := Nat.le_trans Y243 K263q.1
          refine OwnEnd.go (fun _ k => st263 _ k) ?_
          show OwnEnd p e below s _ _ _ (T263.setTop (mkF m 89 #[.val (.int p1), .val (.int p2), .val (.long q3), .second, .val (.long q4), .second, .val (.int p5), .val (.ref b101), .val (.int (1 : Int32)), .val (.int (p1 &&& (31 : Int32))), .val (.int (p2 &&& (31 : Int32))), .val (.int v123), .val (.int v124), .val (.int (1 : Int32)), .unset] []))
          refine OwnEnd.go (fun _ k => XS.iload X263.here hx rfl (hb hby at_89) rfl  k) ?_
          show OwnEnd p e below s _ _ _ (T263.setTop (mkF m 91 #[.val (.int p1), .val (.int p2), .val (.long q3), .second, .val (.long q4), .second, .val (.int p5), .val (.ref b101), .val (.int (1 : Int32)), .val (.int (p1 &&& (31 : Int32))), .val (.int (p2 &&& (31 : Int32))), .val (.int v123), .val (.int v124), .val (.int (1 : Int32)), .unset] [(.int v123)]))
          refine OwnEnd.go (fun _ k => XS.ifNo X263.here hx rfl (hb hby at_91) rfl ((if0 _ _).trans (feq hc125).1) k) ?_
          show OwnEnd p e below s _ _ _ (T263.setTop (mkF m 94 #[.val (.int p1), .val (.int p2), .val (.long q3), .second, .val (.long q4), .second, .val (.int p5), .val (.ref b101), .val (.int (1 : Int32)), .val (.int (p1 &&& (31 : Int32))), .val (.int (p2 &&& (31 : Int32))), .val (.int v123), .val (.int v124), .val (.int (1 : Int32)), .unset] []))
          refine OwnEnd.go (fun _ k => XS.iload X263.here hx rfl (hb hby at_94) rfl  k) ?_
          show OwnEnd p e below s _ _ _ (T263.setTop (mkF m 96 #[.val (.int p1), .val (.int p2), .val (.long q3), .second, .val (.long q4), .second, .val (.int p5), .val (.ref b101), .val (.int (1 : Int32)), .val (.int (p1 &&& (31 : Int32))), .val (.int (p2 &&& (31 : Int32))), .val (.int v123), .val (.int v124), .val (.int (1 : Int32)), .unset] [(.int (p2 &&& (31 : Int32)))]))
          refine OwnEnd.go (fun _ k => XS.iload X263.here hx rfl (hb hby at_96) rfl  k) ?_
          show OwnEnd p e below s _ _ _ (T263.setTop (mkF m 98 #[.val (.int p1), .val (.int p2), .val (.long q3), .second, .val (.long q4), .second, .val (.int p5), .val (.ref b101), .val (.int (1 : Int32)), .val (.int (p1 &&& (31 : Int32))), .val (.int (p2 &&& (31 : Int32))), .val (.int v123), .val (.int v124), .val (.int (1 : Int32)), .unset] [(.int (p1 &&& (31 : Int32))), (.int (p2 &&& (31 : Int32)))]))
          refine OwnEnd.go (fun _ k => XS.icmpYes X263.here hx rfl (pc0 := 98) (pc' := 107) rfl (hb hby at_98) rfl (teq hs262).1 (by decide) (by decide) k) ?_
          show OwnEnd p e below s _ _ _ (T263.setTop (mkF m 107 #[.val (.int p1), .val (.int p2), .val (.long q3), .second, .val (.long q4), .second, .val (.int p5), .val (.ref b101), .val (.int (1 : Int32)), .val (.int (p1 &&& (31 : Int32))), .val (.int (p2 &&& (31 : Int32))), .val (.int v123), .val (.int v124), .val (.int (1 : Int32)), .unset] []))
          refine OwnEnd.go (fun _ k => XS.iload X263.here hx rfl (hb hby at_107) rfl  k) ?_
          show OwnEnd p e below s _ _ _ (T263.setTop (mkF m 109 #[.val (.int p1), .val (.int p2), .val (.long q3), .second, .val (.long q4), .second, .val (.int p5), .val (.ref b101), .val (.int (1 : Int32)), .val (.int (p1 &&& (31 : Int32))), .val (.int (p2 &&& (31 : Int32))), .val (.int v123), .val (.int v124), .val (.int (1 : Int32)), .unset] [(.int (1 : Int32))]))
          refine OwnEnd.go (fun _ k => XS.ifNo X263.here hx rfl (hb hby at_109) rfl ((if0 _ _).trans (feq (by decide : ¬ (1 : Int32) = (0 : Int32))).1) k) ?_
          show OwnEnd p e below s _ _ _ (T263.setTop (mkF m 112 #[.val (.int p1), .val (.int p2), .val (.long q3), .second, .val (.long q4), .second, .val (.int p5), .val (.ref b101), .val (.int (1 : Int32)), .val (.int (p1 &&& (31 : Int32))), .val (.int (p2 &&& (31 : Int32))), .val (.int v123), .val (.int v124), .val (.int (1 : Int32)), .unset] []))
          refine OwnEnd.go (fun _ k => XS.aload X263.here hx rfl (hb hby at_112) rfl rfl k) ?_
          show OwnEnd p e below s _ _ _ (T263.setTop (mkF m 114 #[.val (.int p1), .val (.int p2), .val (.long q3), .second, .val (.long q4), .second, .val (.int p5), .val (.ref b101), .val (.int (1 : Int32)), .val (.int (p1 &&& (31 : Int32))), .val (.int (p2 &&& (31 : Int32))), .val (.int v123), .val (.int v124), .val (.int (1 : Int32)), .unset] [(.ref b101)]))
          obtain ⟨_, T270, L270, X270, hQ270, st270⟩ := ownCallV X263 hx hZ hown ww24 ww25 ww27 ww26 ww2 ww28 (by decide) (rm5z1 l Z a0 hw [] b101 y114 y249 y250 (32 : Int32) y266 (0 : Int32) y267 T263.heap n0 Y263  P264) (rfl : T263.heap = T263.heap) F268 0 (by decide) (by decide) (by decide) (by decide) (g := (mkF m 114 #[.val (.int p1), .val (.int p2), .val (.long q3), .second, .val (.long q4), .second, .val (.int p5), .val (.ref b101), .val (.int (1 : Int32)), .val (.int (p1 &&& (31 : Int32))), .val (.int (p2 &&& (31 : Int32))), .val (.int v123), .val (.int v124), .val (.int (1 : Int32)), .unset] [(.ref b101)])) rfl (by rw [hml]; rfl) (argsL := []) (rest := []) (lenOf pd0_1 rfl) rfl rfl (by show 2 * 0 + _ ≤ _; exact Nat.le_of_eq rfl) (hb hby at_114)
          obtain ⟨rfl, N270q, e270⟩ := hQ270
          have N270 := Fr.app N263 N270q
          refine OwnEnd.go (fun _ k => st270 _ k) ?_
          show OwnEnd p e below s _ _ _ (T270.setTop (mkF m 117 #[.val (.int p1), .val (.int p2), .val (.long q3), .second, .val (.long q4), .second, .val (.int p5), .val (.ref b101), .val (.int (1 : Int32)), .val (.int (p1 &&& (31 : Int32))), .val (.int (p2 &&& (31 : Int32))), .val (.int v123), .val (.int v124), .val (.int (1 : Int32)), .unset] [(.int (0 : Int32))]))
          refine OwnEnd.go (fun _ k => XS.iload X270.here hx rfl (hb hby at_117) rfl  k) ?_
          show OwnEnd p e below s _ _ _ (T270.setTop (mkF m 119 #[.val (.int p1), .val (.int p2), .val (.long q3), .second, .val (.long q4), .second, .val (.int p5), .val (.ref b101), .val (.int (1 : Int32)), .val (.int (p1 &&& (31 : Int32))), .val (.int (p2 &&& (31 : Int32))), .val (.int v123), .val (.int v124), .val (.int (1 : Int32)), .unset] [(.int (1 : Int32)), (.int (0 : Int32))]))
          refine OwnEnd.go (fun _ k => XS.ifYes X270.here hx rfl (pc0 := 119) (pc' := 126) rfl (hb hby at_119) rfl ((if0 _ _).trans (feq (by decide : ¬ (1 : Int32) = (0 : Int32))).2) (by decide) (by decide) k) ?_
          show OwnEnd p e below s _ _ _ (T270.setTop (mkF m 126 #[.val (.int p1), .val (.int p2), .val (.long q3), .second, .val (.long q4), .second, .val (.int p5), .val (.ref b101), .val (.int (1 : Int32)), .val (.int (p1 &&& (31 : Int32))), .val (.int (p2 &&& (31 : Int32))), .val (.int v123), .val (.int v124), .val (.int (1 : Int32)), .unset] [(.int (0 : Int32))]))
          refine OwnEnd.go (fun _ k => XS.iconst X270.here hx rfl (hb hby at_126) k) ?_
          show OwnEnd p e below s _ _ _ (T270.setTop (mkF m 127 #[.val (.int p1), .val (.int p2), .val (.long q3), .second, .val (.long q4), .second, .val (.int p5), .val (.ref b101), .val (.int (1 : Int32)), .val (.int (p1 &&& (31 : Int32))), .val (.int (p2 &&& (31 : Int32))), .val (.int v123), .val (.int v124), .val (.int (1 : Int32)), .unset] [(.int (0 : Int32)), (.int (0 : Int32))]))
          refine OwnEnd.go (fun _ k => XS.icmpNo X270.here hx rfl (hb hby at_127) rfl (teq (by decide : (0 : Int32) = (0 : Int32))).2 k) ?_
          show OwnEnd p e below s _ _ _ (T270.setTop (mkF m 130 #[.val (.int p1), .val (.int p2), .val (.long q3), .second, .val (.long q4), .second, .val (.int p5), .val (.ref b101), .val (.int (1 : Int32)), .val (.int (p1 &&& (31 : Int32))), .val (.int (p2 &&& (31 : Int32))), .val (.int v123), .val (.int v124), .val (.int (1 : Int32)), .unset] []))
          refine OwnEnd.go (fun _ k => XS.iconst X270.here hx rfl (hb hby at_130) k) ?_
          show OwnEnd p e below s _ _ _ (T270.setTop (mkF m 131 #[.val (.int p1), .val (.int p2), .val (.long q3), .second, .val (.long q4), .second, .val (.int p5), .val (.ref b101), .val (.int (1 : Int32)), .val (.int (p1 &&& (31 : Int32))), .val (.int (p2 &&& (31 : Int32))), .val (.int v123), .val (.int v124), .val (.int (1 : Int32)), .unset] [(.int (1 : Int32))]))
          refine OwnEnd.go (fun _ k => XS.goto X270.here hx rfl (pc0 := 131) (pc' := 135) rfl (hb hby at_131) (by decide) (by decide) k) ?_
          show OwnEnd p e below s _ _ _ (T270.setTop (mkF m 135 #[.val (.int p1), .val (.int p2), .val (.long q3), .second, .val (.long q4), .second, .val (.int p5), .val (.ref b101), .val (.int (1 : Int32)), .val (.int (p1 &&& (31 : Int32))), .val (.int (p2 &&& (31 : Int32))), .val (.int v123), .val (.int v124), .val (.int (1 : Int32)), .unset] [(.int (1 : Int32))]))
          refine OwnEnd.go (fun _ k => XS.istore X270.here hx rfl (hb hby at_135) rfl  (l' := #[.val (.int p1), .val (.int p2), .val (.long q3), .second, .val (.long q4), .second, .val (.int p5), .val (.ref b101), .val (.int (1 : Int32)), .val (.int (p1 &&& (31 : Int32))), .val (.int (p2 &&& (31 : Int32))), .val (.int v123), .val (.int v124), .val (.int (1 : Int32)), .unset]) rfl k) ?_
          show OwnEnd p e below s _ _ _ (T270.setTop (mkF m 137 #[.val (.int p1), .val (.int p2), .val (.long q3), .second, .val (.long q4), .second, .val (.int p5), .val (.ref b101), .val (.int (1 : Int32)), .val (.int (p1 &&& (31 : Int32))), .val (.int (p2 &&& (31 : Int32))), .val (.int v123), .val (.int v124), .val (.int (1 : Int32)), .unset] []))
          refine OwnEnd.go (fun _ k => XS.iload X270.here hx rfl (hb hby at_137) rfl  k) ?_
          show OwnEnd p e below s _ _ _ (T270.setTop (mkF m 139 #[.val (.int p1), .val (.int p2), .val (.long q3), .second, .val (.long q4), .second, .val (.int p5), .val (.ref b101), .val (.int (1 : Int32)), .val (.int (p1 &&& (31 : Int32))), .val (.int (p2 &&& (31 : Int32))), .val (.int v123), .val (.int v124), .val (.int (1 : Int32)), .unset] [(.int p5)]))
          refine OwnEnd.go (fun _ k => XS.iconst X270.here hx rfl (hb hby at_139) k) ?_
          show OwnEnd p e below s _ _ _ (T270.setTop (mkF m 140 #[.val (.int p1), .val (.int p2), .val (.long q3), .second, .val (.long q4), .second, .val (.int p5), .val (.ref b101), .val (.int (1 : Int32)), .val (.int (p1 &&& (31 : Int32))), .val (.int (p2 &&& (31 : Int32))), .val (.int v123), .val (.int v124), .val (.int (1 : Int32)), .unset] [(.int (2 : Int32)), (.int p5)]))
          refine OwnEnd.go (fun _ k => XS.ishr X270.here hx rfl (hb hby at_140) rfl k) ?_
          show OwnEnd p e below s _ _ _ (T270.setTop (mkF m 141 #[.val (.int p1), .val (.int p2), .val (.long q3), .second, .val (.long q4), .second, .val (.int p5), .val (.ref b101), .val (.int (1 : Int32)), .val (.int (p1 &&& (31 : Int32))), .val (.int (p2 &&& (31 : Int32))), .val (.int v123), .val (.int v124), .val (.int (1 : Int32)), .unset] [(.int (p5 >>> ((2 : Int32) &&& 31)))]))
          refine OwnEnd.go (fun _ k => XS.iconst X270.here hx rfl (hb hby at_141) k) ?_
          show OwnEnd p e below s _ _ _ (T270.setTop (mkF m 142 #[.val (.int p1), .val (.int p2), .val (.long q3), .second, .val (.long q4), .second, .val (.int p5), .val (.ref b101), .val (.int (1 : Int32)), .val (.int (p1 &&& (31 : Int32))), .val (.int (p2 &&& (31 : Int32))), .val (.int v123), .val (.int v124), .val (.int (1 : Int32)), .unset] [(.int (3 : Int32)), (.int (p5 >>> ((2 : Int32) &&& 31)))]))
          refine OwnEnd.go (fun _ k => XS.iand X270.here hx rfl (hb hby at_142) rfl k) ?_
          show OwnEnd p e below s _ _ _ (T270.setTop (mkF m 143 #[.val (.int p1), .val (.int p2), .val (.long q3), .second, .val (.long q4), .second, .val (.int p5), .val (.ref b101), .val (.int (1 : Int32)), .val (.int (p1 &&& (31 : Int32))), .val (.int (p2 &&& (31 : Int32))), .val (.int v123), .val (.int v124), .val (.int (1 : Int32)), .unset] [(.int ((p5 >>> ((2 : Int32) &&& 31)) &&& (3 : Int32)))]))
          refine OwnEnd.go (fun _ k => XS.iload X270.here hx rfl (hb hby at_143) rfl  k) ?_
          show OwnEnd p e below s _ _ _ (T270.setTop (mkF m 145 #[.val (.int p1), .val (.int p2), .val (.long q3), .second, .val (.long q4), .second, .val (.int p5), .val (.ref b101), .val (.int (1 : Int32)), .val (.int (p1 &&& (31 : Int32))), .val (.int (p2 &&& (31 : Int32))), .val (.int v123), .val (.int v124), .val (.int (1 : Int32)), .unset] [(.int (1 : Int32)), (.int ((p5 >>> ((2 : Int32) &&& 31)) &&& (3 : Int32)))]))
          obtain ⟨_, T271, L271, X271, hQ271, st271⟩ := ownCallS X270 hx hZ hown ww44 ww45 ww46 ww47 (by decide) (rm9 l Z a0 hw [] ((p5 >>> ((2 : Int32) &&& 31)) &&& (3 : Int32)) (1 : Int32) T263.heap n0 Y263  ) e270 0 (by decide) (by decide) (by decide) (by decide) (g := (mkF m 145 #[.val (.int p1), .val (.int p2), .val (.long q3), .second, .val (.long q4), .second, .val (.int p5), .val (.ref b101), .val (.int (1 : Int32)), .val (.int (p1 &&& (31 : Int32))), .val (.int (p2 &&& (31 : Int32))), .val (.int v123), .val (.int v124), .val (.int (1 : Int32)), .unset] [(.int (1 : Int32)), (.int ((p5 >>> ((2 : Int32) &&& 31)) &&& (3 : Int32)))])) rfl (by rw [hml]; rfl) (argsL := [(.int ((p5 >>> ((2 : Int32) &&& 31)) &&& (3 : Int32))), (.int (1 : Int32))]) (rest := []) (lenOf pd0_2 rfl) rfl rfl (by show 2 * 0 + _ ≤ _; exact Nat.le_of_eq rfl) (hb hby at_145)
          obtain ⟨rfl, N271q, e271⟩ := hQ271
          have N271 := Fr.app N270 N271q
          refine OwnEnd.go (fun _ k => st271 _ k) ?_
          show OwnEnd p e below s _ _ _ (T271.setTop (mkF m 148 #[.val (.int p1), .val (.int p2), .val (.long q3), .second, .val (.long q4), .second, .val (.int p5), .val (.ref b101), .val (.int (1 : Int32)), .val (.int (p1 &&& (31 : Int32))), .val (.int (p2 &&& (31 : Int32))), .val (.int v123), .val (.int v124), .val (.int (1 : Int32)), .unset] [(.int (own_min ((p5 >>> ((2 : Int32) &&& 31)) &&& (3 : Int32)) (1 : Int32)))]))
          refine OwnEnd.go (fun _ k => XS.istore X271.here hx rfl (hb hby at_148) rfl  (l' := #[.val (.int p1), .val (.int p2), .val (.long q3), .second, .val (.long q4), .second, .val (.int p5), .val (.ref b101), .val (.int (1 : Int32)), .val (.int (p1 &&& (31 : Int32))), .val (.int (p2 &&& (31 : Int32))), .val (.int v123), .val (.int v124), .val (.int (1 : Int32)), .val (.int (own_min ((p5 >>> ((2 : Int32) &&& 31)) &&& (3 : Int32)) (1 : Int32)))]) rfl k) ?_
          show OwnEnd p e below s _ _ _ (T271.setTop (mkF m 150 #[.val (.int p1), .val (.int p2), .val (.long q3), .second, .val (.long q4), .second, .val (.int p5), .val (.ref b101), .val (.int (1 : Int32)), .val (.int (p1 &&& (31 : Int32))), .val (.int (p2 &&& (31 : Int32))), .val (.int v123), .val (.int v124), .val (.int (1 : Int32)), .val (.int (own_min ((p5 >>> ((2 : Int32) &&& 31)) &&& (3 : Int32)) (1 : Int32)))] []))
          refine OwnEnd.go (fun _ k => XS.iload X271.here hx rfl (hb hby at_150) rfl  k) ?_
          show OwnEnd p e below s _ _ _ (T271.setTop (mkF m 152 #[.val (.int p1), .val (.int p2), .val (.long q3), .second, .val (.long q4), .second, .val (.int p5), .val (.ref b101), .val (.int (1 : Int32)), .val (.int (p1 &&& (31 : Int32))), .val (.int (p2 &&& (31 : Int32))), .val (.int v123), .val (.int v124), .val (.int (1 : Int32)), .val (.int (own_min ((p5 >>> ((2 : Int32) &&& 31)) &&& (3 : Int32)) (1 : Int32)))] [(.int (own_min ((p5 >>> ((2 : Int32) &&& 31)) &&& (3 : Int32)) (1 : Int32)))]))
          refine OwnEnd.go (fun _ k => XS.iconst X271.here hx rfl (hb hby at_152) k) ?_
          show OwnEnd p e below s _ _ _ (T271.setTop (mkF m 153 #[.val (.int p1), .val (.int p2), .val (.long q3), .second, .val (.long q4), .second, .val (.int p5), .val (.ref b101), .val (.int (1 : Int32)), .val (.int (p1 &&& (31 : Int32))), .val (.int (p2 &&& (31 : Int32))), .val (.int v123), .val (.int v124), .val (.int (1 : Int32)), .val (.int (own_min ((p5 >>> ((2 : Int32) &&& 31)) &&& (3 : Int32)) (1 : Int32)))] [(.int (1 : Int32)), (.int (own_min ((p5 >>> ((2 : Int32) &&& 31)) &&& (3 : Int32)) (1 : Int32)))]))
          by_cases hc272 : (own_min ((p5 >>> ((2 : Int32) &&& 31)) &&& (3 : Int32)) (1 : Int32)) < (1 : Int32)
          · refine OwnEnd.go (fun _ k => XS.icmpYes X271.here hx rfl (pc0 := 153) (pc' := 193) rfl (hb hby at_153) rfl (tlt hc272).1 (by decide) (by decide) k) ?_
            show OwnEnd p e below s _ _ _ (T271.setTop (mkF m 193 #[.val (.int p1), .val (.int p2), .val (.long q3), .second, .val (.long q4), .second, .val (.int p5), .val (.ref b101), .val (.int (1 : Int32)), .val (.int (p1 &&& (31 : Int32))), .val (.int (p2 &&& (31 : Int32))), .val (.int v123), .val (.int v124), .val (.int (1 : Int32)), .val (.int (own_min ((p5 >>> ((2 : Int32) &&& 31)) &&& (3 : Int32)) (1 : Int32)))] []))
            refine OwnEnd.go (fun _ k => XS.iload X271.here hx rfl (hb hby at_193) rfl  k) ?_
            show OwnEnd p e below s _ _ _ (T271.setTop (mkF m 195 #[.val (.int p1), .val (.int p2), .val (.long q3), .second, .val (.long q4), .second, .val (.int p5), .val (.ref b101), .val (.int (1 : Int32)), .val (.int (p1 &&& (31 : Int32))), .val (.int (p2 &&& (31 : Int32))), .val (.int v123), .val (.int v124), .val (.int (1 : Int32)), .val (.int (own_min ((p5 >>> ((2 : Int32) &&& 31)) &&& (3 : Int32)) (1 : Int32)))] [(.int (own_min ((p5 >>> ((2 : Int32) &&& 31)) &&& (3 : Int32)) (1 : Int32)))]))
            refine OwnEnd.go (fun _ k => XS.iconst X271.here hx rfl (hb hby at_195) k) ?_
            show OwnEnd p e below s _ _ _ (T271.setTop (mkF m 196 #[.val (.int p1), .val (.int p2), .val (.long q3), .second, .val (.long q4), .second, .val (.int p5), .val (.ref b101), .val (.int (1 : Int32)), .val (.int (p1 &&& (31 : Int32))), .val (.int (p2 &&& (31 : Int32))), .val (.int v123), .val (.int v124), .val (.int (1 : Int32)), .val (.int (own_min ((p5 >>> ((2 : Int32) &&& 31)) &&& (3 : Int32)) (1 : Int32)))] [(.int (2 : Int32)), (.int (own_min ((p5 >>> ((2 : Int32) &&& 31)) &&& (3 : Int32)) (1 : Int32)))]))
            refine OwnEnd.go (fun _ k => XS.icmpYes X271.here hx rfl (pc0 := 196) (pc' := 225) rfl (hb hby at_196) rfl (tlt (own_min1 _)).1 (by decide) (by decide) k) ?_
            show OwnEnd p e below s _ _ _ (T271.setTop (mkF m 225 #[.val (.int p1), .val (.int p2), .val (.long q3), .second, .val (.long q4), .second, .val (.int p5), .val (.ref b101), .val (.int (1 : Int32)), .val (.int (p1 &&& (31 : Int32))), .val (.int (p2 &&& (31 : Int32))), .val (.int v123), .val (.int v124), .val (.int (1 : Int32)), .val (.int (own_min ((p5 >>> ((2 : Int32) &&& 31)) &&& (3 : Int32)) (1 : Int32)))] []))
            refine OwnEnd.go (fun _ k => XS.iload X271.here hx rfl (hb hby at_225) rfl  k) ?_
            show OwnEnd p e below s _ _ _ (T271.setTop (mkF m 227 #[.val (.int p1), .val (.int p2), .val (.long q3), .second, .val (.long q4), .second, .val (.int p5), .val (.ref b101), .val (.int (1 : Int32)), .val (.int (p1 &&& (31 : Int32))), .val (.int (p2 &&& (31 : Int32))), .val (.int v123), .val (.int v124), .val (.int (1 : Int32)), .val (.int (own_min ((p5 >>> ((2 : Int32) &&& 31)) &&& (3 : Int32)) (1 : Int32)))] [(.int (1 : Int32))]))
            refine ownRetZ X271 hx hlk hret (hb hby at_227) (by decide) (by decide) (1 : Int32) (by decide) ?_
            show Q0 Z p1 p2 q3 q4 p5 h0 n0 _ T271.heap _
            rw [e271]
            exact ⟨rfl, N271⟩
          · refine OwnEnd.go (fun _ k => XS.icmpNo X271.here hx rfl (hb hby at_153) rfl (flt hc272).1 k) ?_
            show OwnEnd p e below s _ _ _ (T271.setTop (mkF m 156 #[.val (.int p1), .val (.int p2), .val (.long q3), .second, .val (.long q4), .second, .val (.int p5), .val (.ref b101), .val (.int (1 : Int32)), .val (.int (p1 &&& (31 : Int32))), .val (.int (p2 &&& (31 : Int32))), .val (.int v123), .val (.int v124), .val (.int (1 : Int32)), .val (.int (own_min ((p5 >>> ((2 : Int32) &&& 31)) &&& (3 : Int32)) (1 : Int32)))] []))
            refine OwnEnd.go (fun _ k => XS.aload X271.here hx rfl (hb hby at_156) rfl rfl k) ?_
            show OwnEnd p e below s _ _ _ (T271.setTop (mkF m 158 #[.val (.int p1), .val (.int p2), .val (.long q3), .second, .val (.long q4), .second, .val (.int p5), .val (.ref b101), .val (.int (1 : Int32)), .val (.int (p1 &&& (31 : Int32))), .val (.int (p2 &&& (31 : Int32))), .val (.int v123), .val (.int v124), .val (.int (1 : Int32)), .val (.int (own_min ((p5 >>> ((2 : Int32) &&& 31)) &&& (3 : Int32)) (1 : Int32)))] [(.ref b101)]))
            obtain ⟨_, T273, L273, X273, hQ273, st273⟩ := ownCallV X271 hx hZ hown ww68 ww69 ww71 ww70 ww2 ww72 (by decide) (rm14z1 l Z a0 hw [] b101 y114 y249 y250 (32 : Int32) y266 (0 : Int32) y267 T263.heap n0 Y263  P264 P265) e271 F268 0 (by decide) (by decide) (by decide) (by decide) (g := (mkF m 158 #[.val (.int p1), .val (.int p2), .val (.long q3), .second, .val (.long q4), .second, .val (.int p5), .val (.ref b101), .val (.int (1 : Int32)), .val (.int (p1 &&& (31 : Int32))), .val (.int (p2 &&& (31 : Int32))), .val (.int v123), .val (.int v124), .val (.int (1 : Int32)), .val (.int (own_min ((p5 >>> ((2 : Int32) &&& 31)) &&& (3 : Int32)) (1 : Int32)))] [(.ref b101)])) rfl (by rw [hml]; rfl) (argsL := []) (rest := []) (lenOf pd0_4 rfl) rfl rfl (by show 2 * 0 + _ ≤ _; exact Nat.le_of_eq rfl) (hb hby at_158)
            obtain ⟨rfl, N273q, K273q, P274⟩ := hQ273
            have N273 := Fr.app N271 N273q
            have F275 := F268.keep K273q
            have K273 := K263.trans K273q (allS (Or.inr v101) (allS (Or.inr (Nat.le_trans K101.1 P110)) (allS (Or.inr (Nat.le_trans K106.1 P246)) (allS (Or.inr (Nat.le_trans K106.1 P247)) all0))))
            have Y273 := Nat.le_trans Y263 K273q.1
            refine OwnEnd.go (fun _ k => st273 _ k) ?_
            show OwnEnd p e below s _ _ _ (T273.setTop (mkF m 161 #[.val (.int p1), .val (.int p2), .val (.long q3), .second, .val (.long q4), .second, .val (.int p5), .val (.ref b101), .val (.int (1 : Int32)), .val (.int (p1 &&& (31 : Int32))), .val (.int (p2 &&& (31 : Int32))), .val (.int v123), .val (.int v124), .val (.int (1 : Int32)), .val (.int (own_min ((p5 >>> ((2 : Int32) &&& 31)) &&& (3 : Int32)) (1 : Int32)))] [(.int y266)]))
            refine OwnEnd.go (fun _ k => XS.pop X273.here hx rfl (hb hby at_161) rfl rfl k) ?_
            show OwnEnd p e below s _ _ _ (T273.setTop (mkF m 162 #[.val (.int p1), .val (.int p2), .val (.long q3), .second, .val (.long q4), .second, .val (.int p5), .val (.ref b101), .val (.int (1 : Int32)), .val (.int (p1 &&& (31 : Int32))), .val (.int (p2 &&& (31 : Int32))), .val (.int v123), .val (.int v124), .val (.int (1 : Int32)), .val (.int (own_min ((p5 >>> ((2 : Int32) &&& 31)) &&& (3 : Int32)) (1 : Int32)))] []))
            refine OwnEnd.go (fun _ k => XS.iload X273.here hx rfl (hb hby at_162) rfl  k) ?_
            show OwnEnd p e below s _ _ _ (T273.setTop (mkF m 164 #[.val (.int p1), .val (.int p2), .val (.long q3), .second, .val (.long q4), .second, .val (.int p5), .val (.ref b101), .val (.int (1 : Int32)), .val (.int (p1 &&& (31 : Int32))), .val (.int (p2 &&& (31 : Int32))), .val (.int v123), .val (.int v124), .val (.int (1 : Int32)), .val (.int (own_min ((p5 >>> ((2 : Int32) &&& 31)) &&& (3 : Int32)) (1 : Int32)))] [(.int (1 : Int32))]))
            refine OwnEnd.go (fun _ k => XS.ifNo X273.here hx rfl (hb hby at_164) rfl ((if0 _ _).trans (feq (by decide : ¬ (1 : Int32) = (0 : Int32))).1) k) ?_
            show OwnEnd p e below s _ _ _ (T273.setTop (mkF m 167 #[.val (.int p1), .val (.int p2), .val (.long q3), .second, .val (.long q4), .second, .val (.int p5), .val (.ref b101), .val (.int (1 : Int32)), .val (.int (p1 &&& (31 : Int32))), .val (.int (p2 &&& (31 : Int32))), .val (.int v123), .val (.int v124), .val (.int (1 : Int32)), .val (.int (own_min ((p5 >>> ((2 : Int32) &&& 31)) &&& (3 : Int32)) (1 : Int32)))] []))
            refine OwnEnd.go (fun _ k => XS.aload X273.here hx rfl (hb hby at_167) rfl rfl k) ?_
            show OwnEnd p e below s _ _ _ (T273.setTop (mkF m 169 #[.val (.int p1), .val (.int p2), .val (.long q3), .second, .val (.long q4), .second, .val (.int p5), .val (.ref b101), .val (.int (1 : Int32)), .val (.int (p1 &&& (31 : Int32))), .val (.int (p2 &&& (31 : Int32))), .val (.int v123), .val (.int v124), .val (.int (1 : Int32)), .val (.int (own_min ((p5 >>> ((2 : Int32) &&& 31)) &&& (3 : Int32)) (1 : Int32)))] [(.ref b101)]))
            obtain ⟨_, T277, L277, X277, hQ277, st277⟩ := ownCallV X273 hx hZ hown ww24 ww25 ww27 ww26 ww2 ww28 (by decide) (rm5z0 l Z a0 hw [] b101 y114 y249 y250 (32 : Int32) y266 (0 : Int32) (own_upd y267 y266 (-1 : Int32)) T273.heap n0 Y273  P274) (rfl : T273.heap = T273.heap) F275 0 (by decide) (by decide) (by decide) (by decide) (g := (mkF m 169 #[.val (.int p1), .val (.int p2), .val (.long q3), .second, .val (.long q4), .second, .val (.int p5), .val (.ref b101), .val (.int (1 : Int32)), .val (.int (p1 &&& (31 : Int32))), .val (.int (p2 &&& (31 : Int32))), .val (.int v123), .val (.int v124), .val (.int (1 : Int32)), .val (.int (own_min ((p5 >>> ((2 : Int32) &&& 31)) &&& (3 : Int32)) (1 : Int32)))] [(.ref b101)])) rfl (by rw [hml]; rfl) (argsL := []) (rest := []) (lenOf pd0_1 rfl) rfl rfl (by show 2 * 0 + _ ≤ _; exact Nat.le_of_eq rfl) (hb hby at_169)
            obtain ⟨rfl, N277q, e277⟩ := hQ277
            have N277 := Fr.app N273 N277q
            refine OwnEnd.go (fun _ k => st277 _ k) ?_
            show OwnEnd p e below s _ _ _ (T277.setTop (mkF m 172 #[.val (.int p1), .val (.int p2), .val (.long q3), .second, .val (.long q4), .second, .val (.int p5), .val (.ref b101), .val (.int (1 : Int32)), .val (.int (p1 &&& (31 : Int32))), .val (.int (p2 &&& (31 : Int32))), .val (.int v123), .val (.int v124), .val (.int (1 : Int32)), .val (.int (own_min ((p5 >>> ((2 : Int32) &&& 31)) &&& (3 : Int32)) (1 : Int32)))] [(.int (1 : Int32))]))
            refine OwnEnd.go (fun _ k => XS.iload X277.here hx rfl (hb hby at_172) rfl  k) ?_
            show OwnEnd p e below s _ _ _ (T277.setTop (mkF m 174 #[.val (.int p1), .val (.int p2), .val (.long q3), .second, .val (.long q4), .second, .val (.int p5), .val (.ref b101), .val (.int (1 : Int32)), .val (.int (p1 &&& (31 : Int32))), .val (.int (p2 &&& (31 : Int32))), .val (.int v123), .val (.int v124), .val (.int (1 : Int32)), .val (.int (own_min ((p5 >>> ((2 : Int32) &&& 31)) &&& (3 : Int32)) (1 : Int32)))] [(.int (1 : Int32)), (.int (1 : Int32))]))
            refine OwnEnd.go (fun _ k => XS.iconst X277.here hx rfl (hb hby at_174) k) ?_
            show OwnEnd p e below s _ _ _ (T277.setTop (mkF m 175 #[.val (.int p1), .val (.int p2), .val (.long q3), .second, .val (.long q4), .second, .val (.int p5), .val (.ref b101), .val (.int (1 : Int32)), .val (.int (p1 &&& (31 : Int32))), .val (.int (p2 &&& (31 : Int32))), .val (.int v123), .val (.int v124), .val (.int (1 : Int32)), .val (.int (own_min ((p5 >>> ((2 : Int32) &&& 31)) &&& (3 : Int32)) (1 : Int32)))] [(.int (1 : Int32)), (.int (1 : Int32)), (.int (1 : Int32))]))
            refine OwnEnd.go (fun _ k => XS.icmpNo X277.here hx rfl (hb hby at_175) rfl (teq (by decide : (1 : Int32) = (1 : Int32))).2 k) ?_
            show OwnEnd p e below s _ _ _ (T277.setTop (mkF m 178 #[.val (.int p1), .val (.int p2), .val (.long q3), .second, .val (.long q4), .second, .val (.int p5), .val (.ref b101), .val (.int (1 : Int32)), .val (.int (p1 &&& (31 : Int32))), .val (.int (p2 &&& (31 : Int32))), .val (.int v123), .val (.int v124), .val (.int (1 : Int32)), .val (.int (own_min ((p5 >>> ((2 : Int32) &&& 31)) &&& (3 : Int32)) (1 : Int32)))] [(.int (1 : Int32))]))
            refine OwnEnd.go (fun _ k => XS.iconst X277.here hx rfl (hb hby at_178) k) ?_
            show OwnEnd p e below s _ _ _ (T277.setTop (mkF m 179 #[.val (.int p1), .val (.int p2), .val (.long q3), .second, .val (.long q4), .second, .val (.int p5), .val (.ref b101), .val (.int (1 : Int32)), .val (.int (p1 &&& (31 : Int32))), .val (.int (p2 &&& (31 : Int32))), .val (.int v123), .val (.int v124), .val (.int (1 : Int32)), .val (.int (own_min ((p5 >>> ((2 : Int32) &&& 31)) &&& (3 : Int32)) (1 : Int32)))] [(.int (1 : Int32)), (.int (1 : Int32))]))
            refine OwnEnd.go (fun _ k => XS.goto X277.here hx rfl (pc0 := 179) (pc' := 183) rfl (hb hby at_179) (by decide) (by decide) k) ?_
            show OwnEnd p e below s _ _ _ (T277.setTop (mkF m 183 #[.val (.int p1), .val (.int p2), .val (.long q3), .second, .val (.long q4), .second, .val (.int p5), .val (.ref b101), .val (.int (1 : Int32)), .val (.int (p1 &&& (31 : Int32))), .val (.int (p2 &&& (31 : Int32))), .val (.int v123), .val (.int v124), .val (.int (1 : Int32)), .val (.int (own_min ((p5 >>> ((2 : Int32) &&& 31)) &&& (3 : Int32)) (1 : Int32)))] [(.int (1 : Int32)), (.int (1 : Int32))]))
            refine OwnEnd.go (fun _ k => XS.icmpNo X277.here hx rfl (hb hby at_183) rfl (teq (by decide : (1 : Int32) = (1 : Int32))).2 k) ?_
            show OwnEnd p e below s _ _ _ (T277.setTop (mkF m 186 #[.val (.int p1), .val (.int p2), .val (.long q3), .second, .val (.long q4), .second, .val (.int p5), .val (.ref b101), .val (.int (1 : Int32)), .val (.int (p1 &&& (31 : Int32))), .val (.int (p2 &&& (31 : Int32))), .val (.int v123), .val (.int v124), .val (.int (1 : Int32)), .val (.int (own_min ((p5 >>> ((2 : Int32) &&& 31)) &&& (3 : Int32)) (1 : Int32)))] []))
            refine OwnEnd.go (fun _ k => XS.iconst X277.here hx rfl (hb hby at_186) k) ?_
            show OwnEnd p e below s _ _ _ (T277.setTop (mkF m 187 #[.val (.int p1), .val (.int p2), .val (.long q3), .second, .val (.long q4), .second, .val (.int p5), .val (.ref b101), .val (.int (1 : Int32)), .val (.int (p1 &&& (31 : Int32))), .val (.int (p2 &&& (31 : Int32))), .val (.int v123), .val (.int v124), .val (.int (1 : Int32)), .val (.int (own_min ((p5 >>> ((2 : Int32) &&& 31)) &&& (3 : Int32)) (1 : Int32)))] [(.int (1 : Int32))]))
            refine OwnEnd.go (fun _ k => XS.goto X277.here hx rfl (pc0 := 187) (pc' := 191) rfl (hb hby at_187) (by decide) (by decide) k) ?_
            show OwnEnd p e below s _ _ _ (T277.setTop (mkF m 191 #[.val (.int p1), .val (.int p2), .val (.long q3), .second, .val (.long q4), .second, .val (.int p5), .val (.ref b101), .val (.int (1 : Int32)), .val (.int (p1 &&& (31 : Int32))), .val (.int (p2 &&& (31 : Int32))), .val (.int v123), .val (.int v124), .val (.int (1 : Int32)), .val (.int (own_min ((p5 >>> ((2 : Int32) &&& 31)) &&& (3 : Int32)) (1 : Int32)))] [(.int (1 : Int32))]))
            refine OwnEnd.go (fun _ k => XS.istore X277.here hx rfl (hb hby at_191) rfl  (l' := #[.val (.int p1), .val (.int p2), .val (.long q3), .second, .val (.long q4), .second, .val (.int p5), .val (.ref b101), .val (.int (1 : Int32)), .val (.int (p1 &&& (31 : Int32))), .val (.int (p2 &&& (31 : Int32))), .val (.int v123), .val (.int v124), .val (.int (1 : Int32)), .val (.int (own_min ((p5 >>> ((2 : Int32) &&& 31)) &&& (3 : Int32)) (1 : Int32)))]) rfl k) ?_
            show OwnEnd p e below s _ _ _ (T277.setTop (mkF m 193 #[.val (.int p1), .val (.int p2), .val (.long q3), .second, .val (.long q4), .second, .val (.int p5), .val (.ref b101), .val (.int (1 : Int32)), .val (.int (p1 &&& (31 : Int32))), .val (.int (p2 &&& (31 : Int32))), .val (.int v123), .val (.int v124), .val (.int (1 : Int32)), .val (.int (own_min ((p5 >>> ((2 : Int32) &&& 31)) &&& (3 : Int32)) (1 : Int32)))] []))
            refine OwnEnd.go (fun _ k => XS.iload X277.here hx rfl (hb hby at_193) rfl  k) ?_
            show OwnEnd p e below s _ _ _ (T277.setTop (mkF m 195 #[.val (.int p1), .val (.int p2), .val (.long q3), .second, .val (.long q4), .second, .val (.int p5), .val (.ref b101), .val (.int (1 : Int32)), .val (.int (p1 &&& (31 : Int32))), .val (.int (p2 &&& (31 : Int32))), .val (.int v123), .val (.int v124), .val (.int (1 : Int32)), .val (.int (own_min ((p5 >>> ((2 : Int32) &&& 31)) &&& (3 : Int32)) (1 : Int32)))] [(.int (own_min ((p5 >>> ((2 : Int32) &&& 31)) &&& (3 : Int32)) (1 : Int32)))]))
            refine OwnEnd.go (fun _ k => XS.iconst X277.here hx rfl (hb hby at_195) k) ?_
            show OwnEnd p e below s _ _ _ (T277.setTop (mkF m 196 #[.val (.int p1), .val (.int p2), .val (.long q3), .second, .val (.long q4), .second, .val (.int p5), .val (.ref b101), .val (.int (1 : Int32)), .val (.int (p1 &&& (31 : Int32))), .val (.int (p2 &&& (31 : Int32))), .val (.int v123), .val (.int v124), .val (.int (1 : Int32)), .val (.int (own_min ((p5 >>> ((2 : Int32) &&& 31)) &&& (3 : Int32)) (1 : Int32)))] [(.int (2 : Int32)), (.int (own_min ((p5 >>> ((2 : Int32) &&& 31)) &&& (3 : Int32)) (1 : Int32)))]))
            refine OwnEnd.go (fun _ k => XS.icmpYes X277.here hx rfl (pc0 := 196) (pc' := 225) rfl (hb hby at_196) rfl (tlt (own_min1 _)).1 (by decide) (by decide) k) ?_
            show OwnEnd p e below s _ _ _ (T277.setTop (mkF m 225 #[.val (.int p1), .val (.int p2), .val (.long q3), .second, .val (.long q4), .second, .val (.int p5), .val (.ref b101), .val (.int (1 : Int32)), .val (.int (p1 &&& (31 : Int32))), .val (.int (p2 &&& (31 : Int32))), .val (.int v123), .val (.int v124), .val (.int (1 : Int32)), .val (.int (own_min ((p5 >>> ((2 : Int32) &&& 31)) &&& (3 : Int32)) (1 : Int32)))] []))
            refine OwnEnd.go (fun _ k => XS.iload X277.here hx rfl (hb hby at_225) rfl  k) ?_
            show OwnEnd p e below s _ _ _ (T277.setTop (mkF m 227 #[.val (.int p1), .val (.int p2), .val (.long q3), .second, .val (.long q4), .second, .val (.int p5), .val (.ref b101), .val (.int (1 : Int32)), .val (.int (p1 &&& (31 : Int32))), .val (.int (p2 &&& (31 : Int32))), .val (.int v123), .val (.int v124), .val (.int (1 : Int32)), .val (.int (own_min ((p5 >>> ((2 : Int32) &&& 31)) &&& (3 : Int32)) (1 : Int32)))] [(.int (1 : Int32))]))
            refine ownRetZ X277 hx hlk hret (hb hby at_227) (by decide) (by decide) (1 : Int32) (by decide) ?_
            show Q0 Z p1 p2 q3 q4 p5 h0 n0 _ T277.heap _
            rw [e277]
            exact ⟨rfl, N277⟩
        · show OwnEnd p e below s _ _ _ (T243.setTop (mkF m 80 #[.val (.int p1), .val (.int p2), .val (.long q3), .second, .val (.long q4), .second, .val (.int p5), .val (.ref b101), .val (.int (1 : Int32)), .val (.int (p1 &&& (31 : Int32))), .val (.int (p2 &&& (31 : Int32))), .val (.int v123), .val (.int v124), .val (.int (1 : Int32)), .unset] []))
          refine OwnEnd.go (fun _ k => XS.aload X243.here hx rfl (hb hby at_80) rfl rfl k) ?_
          show OwnEnd p e below s _ _ _ (T243.setTop (mkF m 82 #[.val (.int p1), .val (.int p2), .val (.long q3), .second, .val (.long q4), .second, .val (.int p5), .val (.ref b101), .val (.int (1 : Int32)), .val (.int (p1 &&& (31 : Int32))), .val (.int (p2 &&& (31 : Int32))), .val (.int v123), .val (.int v124), .val (.int (1 : Int32)), .unset] [(.ref b101)]))
          refine OwnEnd.go (fun _ k => XS.iload X243.here hx rfl (hb hby at_82) rfl  k) ?_
          show OwnEnd p e below s _ _ _ (T243.setTop (mkF m 84 #[.val (.int p1), .val (.int p2), .val (.long q3), .second, .val (.long q4), .second, .val (.int p5), .val (.ref b101), .val (.int (1 : Int32)), .val (.int (p1 &&& (31 : Int32))), .val (.int (p2 &&& (31 : Int32))), .val (.int v123), .val (.int v124), .val (.int (1 : Int32)), .unset] [(.int (p2 &&& (31 : Int32))), (.ref b101)]))
          refine OwnEnd.go (fun _ k => XS.lload X243.here hx rfl (hb hby at_84) rfl  k) ?_
          show OwnEnd p e below s _ _ _ (T243.setTop (mkF m 86 #[.val (.int p1), .val (.int p2), .val (.long q3), .second, .val (.long q4), .second, .val (.int p5), .val (.ref b101), .val (.int (1 : Int32)), .val (.int (p1 &&& (31 : Int32))), .val (.int (p2 &&& (31 : Int32))), .val (.int v123), .val (.int v124), .val (.int (1 : Int32)), .unset] [(.long q4), (.int (p2 &&& (31 : Int32))), (.ref b101)]))
          obtain ⟨_, T278, L278, X278, hQ278, st278⟩ := ownCallV X243 hx hZ hown ww31 ww32 ww34 ww33 ww2 ww35 (by decide) (rm6s1c32 l Z a0 hw [] b101 (p2 &&& (31 : Int32)) q4 y114 y249 y250 (p1 &&& (31 : Int32)) (0 : Int32) (own_upd (own_cp 16 (fun _ => (-1 : Int32)) (fun _ => (-1 : Int32))) (p1 &&& (31 : Int32)) (0 : Int32)) T243.heap n0 Y243  P248 (own_rng _) ((own_upd_ne (own_nat (own_rng _).1 (own_rng _).1 hs262)).trans (own_cp_const _ _)) (own_rng _)) (rfl : T243.heap = T243.heap) F251 0 (by decide) (by decide) (by decide) (by decide) (g := (mkF m 86 #[.val (.int p1), .val (.int p2), .val (.long q3), .second, .val (.long q4), .second, .val (.int p5), .val (.ref b101), .val (.int (1 : Int32)), .val (.int (p1 &&& (31 : Int32))), .val (.int (p2 &&& (31 : Int32))), .val (.int v123), .val (.int v124), .val (.int (1 : Int32)), .unset] [(.long q4), (.int (p2 &&& (31 : Int32))), (.ref b101)])) rfl (by rw [hml]; rfl) (argsL := [(.int (p2 &&& (31 : Int32))), (.long q4)]) (rest := []) (lenOf pd0_3 rfl) rfl rfl (by show 2 * 0 + _ ≤ _; exact Nat.le_of_eq rfl) (hb hby at_86)
          obtain ⟨y282, y283, y284, hQ278⟩ := hQ278
          obtain ⟨rfl, N278q, K278q, P279, P280, P281⟩ := hQ278
          have N278 := Fr.app N243 N278q
          have F285 := F251.keep K278q
          have K278 := K243.trans K278q (allS (Or.inr v101) (allS (Or.inr (Nat.le_trans K101.1 P110)) (allS (Or.inr (Nat.le_trans K106.1 P246)) (allS (Or.inr (Nat.le_trans K106.1 P247)) all0))))
          have Y278 := Nat.le_trans Y243 K278q.1
          refine OwnEnd.go (fun _ k => st278 _ k) ?_
          show OwnEnd p e below s _ _ _ (T278.setTop (mkF m 89 #[.val (.int p1), .val (.int p2), .val (.long q3), .second, .val (.long q4), .second, .val (.int p5), .val (.ref b101), .val (.int (1 : Int32)), .val (.int (p1 &&& (31 : Int32))), .val (.int (p2 &&& (31 : Int32))), .val (.int v123), .val (.int v124), .val (.int (1 : Int32)), .unset] []))
          refine OwnEnd.go (fun _ k => XS.iload X278.here hx rfl (hb hby at_89) rfl  k) ?_
          show OwnEnd p e below s _ _ _ (T278.setTop (mkF m 91 #[.val (.int p1), .val (.int p2), .val (.long q3), .second, .val (.long q4), .second, .val (.int p5), .val (.ref b101), .val (.int (1 : Int32)), .val (.int (p1 &&& (31 : Int32))), .val (.int (p2 &&& (31 : Int32))), .val (.int v123), .val (.int v124), .val (.int (1 : Int32)), .unset] [(.int v123)]))
          refine OwnEnd.go (fun _ k => XS.ifNo X278.here hx rfl (hb hby at_91) rfl ((if0 _ _).trans (feq hc125).1) k) ?_
          show OwnEnd p e below s _ _ _ (T278.setTop (mkF m 94 #[.val (.int p1), .val (.int p2), .val (.long q3), .second, .val (.long q4), .second, .val (.int p5), .val (.ref b101), .val (.int (1 : Int32)), .val (.int (p1 &&& (31 : Int32))), .val (.int (p2 &&& (31 : Int32))), .val (.int v123), .val (.int v124), .val (.int (1 : Int32)), .unset] []))
          refine OwnEnd.go (fun _ k => XS.iload X278.here hx rfl (hb hby at_94) rfl  k) ?_
          show OwnEnd p e below s _ _ _ (T278.setTop (mkF m 96 #[.val (.int p1), .val (.int p2), .val (.long q3), .second, .val (.long q4), .second, .val (.int p5), .val (.ref b101), .val (.int (1 : Int32)), .val (.int (p1 &&& (31 : Int32))), .val (.int (p2 &&& (31 : Int32))), .val (.int v123), .val (.int v124), .val (.int (1 : Int32)), .unset] [(.int (p2 &&& (31 : Int32)))]))
          refine OwnEnd.go (fun _ k => XS.iload X278.here hx rfl (hb hby at_96) rfl  k) ?_
          show OwnEnd p e below s _ _ _ (T278.setTop (mkF m 98 #[.val (.int p1), .val (.int p2), .val (.long q3), .second, .val (.long q4), .second, .val (.int p5), .val (.ref b101), .val (.int (1 : Int32)), .val (.int (p1 &&& (31 : Int32))), .val (.int (p2 &&& (31 : Int32))), .val (.int v123), .val (.int v124), .val (.int (1 : Int32)), .unset] [(.int (p1 &&& (31 : Int32))), (.int (p2 &&& (31 : Int32)))]))
          refine OwnEnd.go (fun _ k => XS.icmpNo X278.here hx rfl (hb hby at_98) rfl (feq hs262).1 k) ?_
          show OwnEnd p e below s _ _ _ (T278.setTop (mkF m 101 #[.val (.int p1), .val (.int p2), .val (.long q3), .second, .val (.long q4), .second, .val (.int p5), .val (.ref b101), .val (.int (1 : Int32)), .val (.int (p1 &&& (31 : Int32))), .val (.int (p2 &&& (31 : Int32))), .val (.int v123), .val (.int v124), .val (.int (1 : Int32)), .unset] []))
          refine OwnEnd.go (fun _ k => XS.iload X278.here hx rfl (hb hby at_101) rfl  k) ?_
          show OwnEnd p e below s _ _ _ (T278.setTop (mkF m 103 #[.val (.int p1), .val (.int p2), .val (.long q3), .second, .val (.long q4), .second, .val (.int p5), .val (.ref b101), .val (.int (1 : Int32)), .val (.int (p1 &&& (31 : Int32))), .val (.int (p2 &&& (31 : Int32))), .val (.int v123), .val (.int v124), .val (.int (1 : Int32)), .unset] [(.int (1 : Int32))]))
          refine OwnEnd.go (fun _ k => XS.iconst X278.here hx rfl (hb hby at_103) k) ?_
          show OwnEnd p e below s _ _ _ (T278.setTop (mkF m 104 #[.val (.int p1), .val (.int p2), .val (.long q3), .second, .val (.long q4), .second, .val (.int p5), .val (.ref b101), .val (.int (1 : Int32)), .val (.int (p1 &&& (31 : Int32))), .val (.int (p2 &&& (31 : Int32))), .val (.int v123), .val (.int v124), .val (.int (1 : Int32)), .unset] [(.int (1 : Int32)), (.int (1 : Int32))]))
          refine OwnEnd.go (fun _ k => XS.iadd X278.here hx rfl (hb hby at_104) rfl k) ?_
          show OwnEnd p e below s _ _ _ (T278.setTop (mkF m 105 #[.val (.int p1), .val (.int p2), .val (.long q3), .second, .val (.long q4), .second, .val (.int p5), .val (.ref b101), .val (.int (1 : Int32)), .val (.int (p1 &&& (31 : Int32))), .val (.int (p2 &&& (31 : Int32))), .val (.int v123), .val (.int v124), .val (.int (1 : Int32)), .unset] [(.int (2 : Int32))]))
          refine OwnEnd.go (fun _ k => XS.istore X278.here hx rfl (hb hby at_105) rfl  (l' := #[.val (.int p1), .val (.int p2), .val (.long q3), .second, .val (.long q4), .second, .val (.int p5), .val (.ref b101), .val (.int (1 : Int32)), .val (.int (p1 &&& (31 : Int32))), .val (.int (p2 &&& (31 : Int32))), .val (.int v123), .val (.int v124), .val (.int (2 : Int32)), .unset]) rfl k) ?_
          show OwnEnd p e below s _ _ _ (T278.setTop (mkF m 107 #[.val (.int p1), .val (.int p2), .val (.long q3), .second, .val (.long q4), .second, .val (.int p5), .val (.ref b101), .val (.int (1 : Int32)), .val (.int (p1 &&& (31 : Int32))), .val (.int (p2 &&& (31 : Int32))), .val (.int v123), .val (.int v124), .val (.int (2 : Int32)), .unset] []))
          refine OwnEnd.go (fun _ k => XS.iload X278.here hx rfl (hb hby at_107) rfl  k) ?_
          show OwnEnd p e below s _ _ _ (T278.setTop (mkF m 109 #[.val (.int p1), .val (.int p2), .val (.long q3), .second, .val (.long q4), .second, .val (.int p5), .val (.ref b101), .val (.int (1 : Int32)), .val (.int (p1 &&& (31 : Int32))), .val (.int (p2 &&& (31 : Int32))), .val (.int v123), .val (.int v124), .val (.int (2 : Int32)), .unset] [(.int (1 : Int32))]))
          refine OwnEnd.go (fun _ k => XS.ifNo X278.here hx rfl (hb hby at_109) rfl ((if0 _ _).trans (feq (by decide : ¬ (1 : Int32) = (0 : Int32))).1) k) ?_
          show OwnEnd p e below s _ _ _ (T278.setTop (mkF m 112 #[.val (.int p1), .val (.int p2), .val (.long q3), .second, .val (.long q4), .second, .val (.int p5), .val (.ref b101), .val (.int (1 : Int32)), .val (.int (p1 &&& (31 : Int32))), .val (.int (p2 &&& (31 : Int32))), .val (.int v123), .val (.int v124), .val (.int (2 : Int32)), .unset] []))
          refine OwnEnd.go (fun _ k => XS.aload X278.here hx rfl (hb hby at_112) rfl rfl k) ?_
          show OwnEnd p e below s _ _ _ (T278.setTop (mkF m 114 #[.val (.int p1), .val (.int p2), .val (.long q3), .second, .val (.long q4), .second, .val (.int p5), .val (.ref b101), .val (.int (1 : Int32)), .val (.int (p1 &&& (31 : Int32))), .val (.int (p2 &&& (31 : Int32))), .val (.int v123), .val (.int v124), .val (.int (2 : Int32)), .unset] [(.ref b101)]))
          obtain ⟨_, T287, L287, X287, hQ287, st287⟩ := ownCallV X278 hx hZ hown ww24 ww25 ww27 ww26 ww2 ww28 (by decide) (rm5z2 l Z a0 hw [] b101 y114 y249 y250 (32 : Int32) y282 y283 y284 T278.heap n0 Y278  P279) (rfl : T278.heap = T278.heap) F285 0 (by decide) (by decide) (by decide) (by decide) (g := (mkF m 114 #[.val (.int p1), .val (.int p2), .val (.long q3), .second, .val (.long q4), .second, .val (.int p5), .val (.ref b101), .val (.int (1 : Int32)), .val (.int (p1 &&& (31 : Int32))), .val (.int (p2 &&& (31 : Int32))), .val (.int v123), .val (.int v124), .val (.int (2 : Int32)), .unset] [(.ref b101)])) rfl (by rw [hml]; rfl) (argsL := []) (rest := []) (lenOf pd0_1 rfl) rfl rfl (by show 2 * 0 + _ ≤ _; exact Nat.le_of_eq rfl) (hb hby at_114)
          obtain ⟨rfl, N287q, e287⟩ := hQ287
          have N287 := Fr.app N278 N287q
          refine OwnEnd.go (fun _ k => st287 _ k) ?_
          show OwnEnd p e below s _ _ _ (T287.setTop (mkF m 117 #[.val (.int p1), .val (.int p2), .val (.long q3), .second, .val (.long q4), .second, .val (.int p5), .val (.ref b101), .val (.int (1 : Int32)), .val (.int (p1 &&& (31 : Int32))), .val (.int (p2 &&& (31 : Int32))), .val (.int v123), .val (.int v124), .val (.int (2 : Int32)), .unset] [(.int (0 : Int32))]))
          refine OwnEnd.go (fun _ k => XS.iload X287.here hx rfl (hb hby at_117) rfl  k) ?_
          show OwnEnd p e below s _ _ _ (T287.setTop (mkF m 119 #[.val (.int p1), .val (.int p2), .val (.long q3), .second, .val (.long q4), .second, .val (.int p5), .val (.ref b101), .val (.int (1 : Int32)), .val (.int (p1 &&& (31 : Int32))), .val (.int (p2 &&& (31 : Int32))), .val (.int v123), .val (.int v124), .val (.int (2 : Int32)), .unset] [(.int (2 : Int32)), (.int (0 : Int32))]))
          refine OwnEnd.go (fun _ k => XS.ifYes X287.here hx rfl (pc0 := 119) (pc' := 126) rfl (hb hby at_119) rfl ((if0 _ _).trans (feq (by decide : ¬ (2 : Int32) = (0 : Int32))).2) (by decide) (by decide) k) ?_
          show OwnEnd p e below s _ _ _ (T287.setTop (mkF m 126 #[.val (.int p1), .val (.int p2), .val (.long q3), .second, .val (.long q4), .second, .val (.int p5), .val (.ref b101), .val (.int (1 : Int32)), .val (.int (p1 &&& (31 : Int32))), .val (.int (p2 &&& (31 : Int32))), .val (.int v123), .val (.int v124), .val (.int (2 : Int32)), .unset] [(.int (0 : Int32))]))
          refine OwnEnd.go (fun _ k => XS.iconst X287.here hx rfl (hb hby at_126) k) ?_
          show OwnEnd p e below s _ _ _ (T287.setTop (mkF m 127 #[.val (.int p1), .val (.int p2), .val (.long q3), .second, .val (.long q4), .second, .val (.int p5), .val (.ref b101), .val (.int (1 : Int32)), .val (.int (p1 &&& (31 : Int32))), .val (.int (p2 &&& (31 : Int32))), .val (.int v123), .val (.int v124), .val (.int (2 : Int32)), .unset] [(.int (0 : Int32)), (.int (0 : Int32))]))
          refine OwnEnd.go (fun _ k => XS.icmpNo X287.here hx rfl (hb hby at_127) rfl (teq (by decide : (0 : Int32) = (0 : Int32))).2 k) ?_
          show OwnEnd p e below s _ _ _ (T287.setTop (mkF m 130 #[.val (.int p1), .val (.int p2), .val (.long q3), .second, .val (.long q4), .second, .val (.int p5), .val (.ref b101), .val (.int (1 : Int32)), .val (.int (p1 &&& (31 : Int32))), .val (.int (p2 &&& (31 : Int32))), .val (.int v123), .val (.int v124), .val (.int (2 : Int32)), .unset] []))
          refine OwnEnd.go (fun _ k => XS.iconst X287.here hx rfl (hb hby at_130) k) ?_
          show OwnEnd p e below s _ _ _ (T287.setTop (mkF m 131 #[.val (.int p1), .val (.int p2), .val (.long q3), .second, .val (.long q4), .second, .val (.int p5), .val (.ref b101), .val (.int (1 : Int32)), .val (.int (p1 &&& (31 : Int32))), .val (.int (p2 &&& (31 : Int32))), .val (.int v123), .val (.int v124), .val (.int (2 : Int32)), .unset] [(.int (1 : Int32))]))
          refine OwnEnd.go (fun _ k => XS.goto X287.here hx rfl (pc0 := 131) (pc' := 135) rfl (hb hby at_131) (by decide) (by decide) k) ?_
          show OwnEnd p e below s _ _ _ (T287.setTop (mkF m 135 #[.val (.int p1), .val (.int p2), .val (.long q3), .second, .val (.long q4), .second, .val (.int p5), .val (.ref b101), .val (.int (1 : Int32)), .val (.int (p1 &&& (31 : Int32))), .val (.int (p2 &&& (31 : Int32))), .val (.int v123), .val (.int v124), .val (.int (2 : Int32)), .unset] [(.int (1 : Int32))]))
          refine OwnEnd.go (fun _ k => XS.istore X287.here hx rfl (hb hby at_135) rfl  (l' := #[.val (.int p1), .val (.int p2), .val (.long q3), .second, .val (.long q4), .second, .val (.int p5), .val (.ref b101), .val (.int (1 : Int32)), .val (.int (p1 &&& (31 : Int32))), .val (.int (p2 &&& (31 : Int32))), .val (.int v123), .val (.int v124), .val (.int (2 : Int32)), .unset]) rfl k) ?_
          show OwnEnd p e below s _ _ _ (T287.setTop (mkF m 137 #[.val (.int p1), .val (.int p2), .val (.long q3), .second, .val (.long q4), .second, .val (.int p5), .val (.ref b101), .val (.int (1 : Int32)), .val (.int (p1 &&& (31 : Int32))), .val (.int (p2 &&& (31 : Int32))), .val (.int v123), .val (.int v124), .val (.int (2 : Int32)), .unset] []))
          refine OwnEnd.go (fun _ k => XS.iload X287.here hx rfl (hb hby at_137) rfl  k) ?_
          show OwnEnd p e below s _ _ _ (T287.setTop (mkF m 139 #[.val (.int p1), .val (.int p2), .val (.long q3), .second, .val (.long q4), .second, .val (.int p5), .val (.ref b101), .val (.int (1 : Int32)), .val (.int (p1 &&& (31 : Int32))), .val (.int (p2 &&& (31 : Int32))), .val (.int v123), .val (.int v124), .val (.int (2 : Int32)), .unset] [(.int p5)]))
          refine OwnEnd.go (fun _ k => XS.iconst X287.here hx rfl (hb hby at_139) k) ?_
          show OwnEnd p e below s _ _ _ (T287.setTop (mkF m 140 #[.val (.int p1), .val (.int p2), .val (.long q3), .second, .val (.long q4), .second, .val (.int p5), .val (.ref b101), .val (.int (1 : Int32)), .val (.int (p1 &&& (31 : Int32))), .val (.int (p2 &&& (31 : Int32))), .val (.int v123), .val (.int v124), .val (.int (2 : Int32)), .unset] [(.int (2 : Int32)), (.int p5)]))
          refine OwnEnd.go (fun _ k => XS.ishr X287.here hx rfl (hb hby at_140) rfl k) ?_
          show OwnEnd p e below s _ _ _ (T287.setTop (mkF m 141 #[.val (.int p1), .val (.int p2), .val (.long q3), .second, .val (.long q4), .second, .val (.int p5), .val (.ref b101), .val (.int (1 : Int32)), .val (.int (p1 &&& (31 : Int32))), .val (.int (p2 &&& (31 : Int32))), .val (.int v123), .val (.int v124), .val (.int (2 : Int32)), .unset] [(.int (p5 >>> ((2 : Int32) &&& 31)))]))
          refine OwnEnd.go (fun _ k => XS.iconst X287.here hx rfl (hb hby at_141) k) ?_
          show OwnEnd p e below s _ _ _ (T287.setTop (mkF m 142 #[.val (.int p1), .val (.int p2), .val (.long q3), .second, .val (.long q4), .second, .val (.int p5), .val (.ref b101), .val (.int (1 : Int32)), .val (.int (p1 &&& (31 : Int32))), .val (.int (p2 &&& (31 : Int32))), .val (.int v123), .val (.int v124), .val (.int (2 : Int32)), .unset] [(.int (3 : Int32)), (.int (p5 >>> ((2 : Int32) &&& 31)))]))
          refine OwnEnd.go (fun _ k => XS.iand X287.here hx rfl (hb hby at_142) rfl k) ?_
          show OwnEnd p e below s _ _ _ (T287.setTop (mkF m 143 #[.val (.int p1), .val (.int p2), .val (.long q3), .second, .val (.long q4), .second, .val (.int p5), .val (.ref b101), .val (.int (1 : Int32)), .val (.int (p1 &&& (31 : Int32))), .val (.int (p2 &&& (31 : Int32))), .val (.int v123), .val (.int v124), .val (.int (2 : Int32)), .unset] [(.int ((p5 >>> ((2 : Int32) &&& 31)) &&& (3 : Int32)))]))
          refine OwnEnd.go (fun _ k => XS.iload X287.here hx rfl (hb hby at_143) rfl  k) ?_
          show OwnEnd p e below s _ _ _ (T287.setTop (mkF m 145 #[.val (.int p1), .val (.int p2), .val (.long q3), .second, .val (.long q4), .second, .val (.int p5), .val (.ref b101), .val (.int (1 : Int32)), .val (.int (p1 &&& (31 : Int32))), .val (.int (p2 &&& (31 : Int32))), .val (.int v123), .val (.int v124), .val (.int (2 : Int32)), .unset] [(.int (2 : Int32)), (.int ((p5 >>> ((2 : Int32) &&& 31)) &&& (3 : Int32)))]))
          obtain ⟨_, T288, L288, X288, hQ288, st288⟩ := ownCallS X287 hx hZ hown ww44 ww45 ww46 ww47 (by decide) (rm9 l Z a0 hw [] ((p5 >>> ((2 : Int32) &&& 31)) &&& (3 : Int32)) (2 : Int32) T278.heap n0 Y278  ) e287 0 (by decide) (by decide) (by decide) (by decide) (g := (mkF m 145 #[.val (.int p1), .val (.int p2), .val (.long q3), .second, .val (.long q4), .second, .val (.int p5), .val (.ref b101), .val (.int (1 : Int32)), .val (.int (p1 &&& (31 : Int32))), .val (.int (p2 &&& (31 : Int32))), .val (.int v123), .val (.int v124), .val (.int (2 : Int32)), .unset] [(.int (2 : Int32)), (.int ((p5 >>> ((2 : Int32) &&& 31)) &&& (3 : Int32)))])) rfl (by rw [hml]; rfl) (argsL := [(.int ((p5 >>> ((2 : Int32) &&& 31)) &&& (3 : Int32))), (.int (2 : Int32))]) (rest := []) (lenOf pd0_2 rfl) rfl rfl (by show 2 * 0 + _ ≤ _; exact Nat.le_of_eq rfl) (hb hby at_145)
          obtain ⟨rfl, N288q, e288⟩ := hQ288
          have N288 := Fr.app N287 N288q
          refine OwnEnd.go (fun _ k => st288 _ k) ?_
          show OwnEnd p e below s _ _ _ (T288.setTop (mkF m 148 #[.val (.int p1), .val (.int p2), .val (.long q3), .second, .val (.long q4), .second, .val (.int p5), .val (.ref b101), .val (.int (1 : Int32)), .val (.int (p1 &&& (31 : Int32))), .val (.int (p2 &&& (31 : Int32))), .val (.int v123), .val (.int v124), .val (.int (2 : Int32)), .unset] [(.int (own_min ((p5 >>> ((2 : Int32) &&& 31)) &&& (3 : Int32)) (2 : Int32)))]))
          refine OwnEnd.go (fun _ k => XS.istore X288.here hx rfl (hb hby at_148) rfl  (l' := #[.val (.int p1), .val (.int p2), .val (.long q3), .second, .val (.long q4), .second, .val (.int p5), .val (.ref b101), .val (.int (1 : Int32)), .val (.int (p1 &&& (31 : Int32))), .val (.int (p2 &&& (31 : Int32))), .val (.int v123), .val (.int v124), .val (.int (2 : Int32)), .val (.int (own_min ((p5 >>> ((2 : Int32) &&& 31)) &&& (3 : Int32)) (2 : Int32)))]) rfl k) ?_
          show OwnEnd p e below s _ _ _ (T288.setTop (mkF m 150 #[.val (.int p1), .val (.int p2), .val (.long q3), .second, .val (.long q4), .second, .val (.int p5), .val (.ref b101), .val (.int (1 : Int32)), .val (.int (p1 &&& (31 : Int32))), .val (.int (p2 &&& (31 : Int32))), .val (.int v123), .val (.int v124), .val (.int (2 : Int32)), .val (.int (own_min ((p5 >>> ((2 : Int32) &&& 31)) &&& (3 : Int32)) (2 : Int32)))] []))
          refine OwnEnd.go (fun _ k => XS.iload X288.here hx rfl (hb hby at_150) rfl  k) ?_
          show OwnEnd p e below s _ _ _ (T288.setTop (mkF m 152 #[.val (.int p1), .val (.int p2), .val (.long q3), .second, .val (.long q4), .second, .val (.int p5), .val (.ref b101), .val (.int (1 : Int32)), .val (.int (p1 &&& (31 : Int32))), .val (.int (p2 &&& (31 : Int32))), .val (.int v123), .val (.int v124), .val (.int (2 : Int32)), .val (.int (own_min ((p5 >>> ((2 : Int32) &&& 31)) &&& (3 : Int32)) (2 : Int32)))] [(.int (own_min ((p5 >>> ((2 : Int32) &&& 31)) &&& (3 : Int32)) (2 : Int32)))]))
          refine OwnEnd.go (fun _ k => XS.iconst X288.here hx rfl (hb hby at_152) k) ?_
          show OwnEnd p e below s _ _ _ (T288.setTop (mkF m 153 #[.val (.int p1), .val (.int p2), .val (.long q3), .second, .val (.long q4), .second, .val (.int p5), .val (.ref b101), .val (.int (1 : Int32)), .val (.int (p1 &&& (31 : Int32))), .val (.int (p2 &&& (31 : Int32))), .val (.int v123), .val (.int v124), .val (.int (2 : Int32)), .val (.int (own_min ((p5 >>> ((2 : Int32) &&& 31)) &&& (3 : Int32)) (2 : Int32)))] [(.int (1 : Int32)), (.int (own_min ((p5 >>> ((2 : Int32) &&& 31)) &&& (3 : Int32)) (2 : Int32)))]))
          by_cases hc289 : (own_min ((p5 >>> ((2 : Int32) &&& 31)) &&& (3 : Int32)) (2 : Int32)) < (1 : Int32)
          · refine OwnEnd.go (fun _ k => XS.icmpYes X288.here hx rfl (pc0 := 153) (pc' := 193) rfl (hb hby at_153) rfl (tlt hc289).1 (by decide) (by decide) k) ?_
            show OwnEnd p e below s _ _ _ (T288.setTop (mkF m 193 #[.val (.int p1), .val (.int p2), .val (.long q3), .second, .val (.long q4), .second, .val (.int p5), .val (.ref b101), .val (.int (1 : Int32)), .val (.int (p1 &&& (31 : Int32))), .val (.int (p2 &&& (31 : Int32))), .val (.int v123), .val (.int v124), .val (.int (2 : Int32)), .val (.int (own_min ((p5 >>> ((2 : Int32) &&& 31)) &&& (3 : Int32)) (2 : Int32)))] []))
            refine OwnEnd.go (fun _ k => XS.iload X288.here hx rfl (hb hby at_193) rfl  k) ?_
            show OwnEnd p e below s _ _ _ (T288.setTop (mkF m 195 #[.val (.int p1), .val (.int p2), .val (.long q3), .second, .val (.long q4), .second, .val (.int p5), .val (.ref b101), .val (.int (1 : Int32)), .val (.int (p1 &&& (31 : Int32))), .val (.int (p2 &&& (31 : Int32))), .val (.int v123), .val (.int v124), .val (.int (2 : Int32)), .val (.int (own_min ((p5 >>> ((2 : Int32) &&& 31)) &&& (3 : Int32)) (2 : Int32)))] [(.int (own_min ((p5 >>> ((2 : Int32) &&& 31)) &&& (3 : Int32)) (2 : Int32)))]))
            refine OwnEnd.go (fun _ k => XS.iconst X288.here hx rfl (hb hby at_195) k) ?_
            show OwnEnd p e below s _ _ _ (T288.setTop (mkF m 196 #[.val (.int p1), .val (.int p2), .val (.long q3), .second, .val (.long q4), .second, .val (.int p5), .val (.ref b101), .val (.int (1 : Int32)), .val (.int (p1 &&& (31 : Int32))), .val (.int (p2 &&& (31 : Int32))), .val (.int v123), .val (.int v124), .val (.int (2 : Int32)), .val (.int (own_min ((p5 >>> ((2 : Int32) &&& 31)) &&& (3 : Int32)) (2 : Int32)))] [(.int (2 : Int32)), (.int (own_min ((p5 >>> ((2 : Int32) &&& 31)) &&& (3 : Int32)) (2 : Int32)))]))
            refine OwnEnd.go (fun _ k => XS.icmpYes X288.here hx rfl (pc0 := 196) (pc' := 225) rfl (hb hby at_196) rfl (tlt (own_lt12 hc289)).1 (by decide) (by decide) k) ?_
            show OwnEnd p e below s _ _ _ (T288.setTop (mkF m 225 #[.val (.int p1), .val (.int p2), .val (.long q3), .second, .val (.long q4), .second, .val (.int p5), .val (.ref b101), .val (.int (1 : Int32)), .val (.int (p1 &&& (31 : Int32))), .val (.int (p2 &&& (31 : Int32))), .val (.int v123), .val (.int v124), .val (.int (2 : Int32)), .val (.int (own_min ((p5 >>> ((2 : Int32) &&& 31)) &&& (3 : Int32)) (2 : Int32)))] []))
            refine OwnEnd.go (fun _ k => XS.iload X288.here hx rfl (hb hby at_225) rfl  k) ?_
            show OwnEnd p e below s _ _ _ (T288.setTop (mkF m 227 #[.val (.int p1), .val (.int p2), .val (.long q3), .second, .val (.long q4), .second, .val (.int p5), .val (.ref b101), .val (.int (1 : Int32)), .val (.int (p1 &&& (31 : Int32))), .val (.int (p2 &&& (31 : Int32))), .val (.int v123), .val (.int v124), .val (.int (2 : Int32)), .val (.int (own_min ((p5 >>> ((2 : Int32) &&& 31)) &&& (3 : Int32)) (2 : Int32)))] [(.int (1 : Int32))]))
            refine ownRetZ X288 hx hlk hret (hb hby at_227) (by decide) (by decide) (1 : Int32) (by decide) ?_
            show Q0 Z p1 p2 q3 q4 p5 h0 n0 _ T288.heap _
            rw [e288]
            exact ⟨rfl, N288⟩
          · refine OwnEnd.go (fun _ k => XS.icmpNo X288.here hx rfl (hb hby at_153) rfl (flt hc289).1 k) ?_
            show OwnEnd p e below s _ _ _ (T288.setTop (mkF m 156 #[.val (.int p1), .val (.int p2), .val (.long q3), .second, .val (.long q4), .second, .val (.int p5), .val (.ref b101), .val (.int (1 : Int32)), .val (.int (p1 &&& (31 : Int32))), .val (.int (p2 &&& (31 : Int32))), .val (.int v123), .val (.int v124), .val (.int (2 : Int32)), .val (.int (own_min ((p5 >>> ((2 : Int32) &&& 31)) &&& (3 : Int32)) (2 : Int32)))] []))
            refine OwnEnd.go (fun _ k => XS.aload X288.here hx rfl (hb hby at_156) rfl rfl k) ?_
            show OwnEnd p e below s _ _ _ (T288.setTop (mkF m 158 #[.val (.int p1), .val (.int p2), .val (.long q3), .second, .val (.long q4), .second, .val (.int p5), .val (.ref b101), .val (.int (1 : Int32)), .val (.int (p1 &&& (31 : Int32))), .val (.int (p2 &&& (31 : Int32))), .val (.int v123), .val (.int v124), .val (.int (2 : Int32)), .val (.int (own_min ((p5 >>> ((2 : Int32) &&& 31)) &&& (3 : Int32)) (2 : Int32)))] [(.ref b101)]))
            obtain ⟨_, T290, L290, X290, hQ290, st290⟩ := ownCallV X288 hx hZ hown ww68 ww69 ww71 ww70 ww2 ww72 (by decide) (rm14z2 l Z a0 hw [] b101 y114 y249 y250 (32 : Int32) y282 y283 y284 T278.heap n0 Y278  P279 P280 P281) e288 F285 0 (by decide) (by decide) (by decide) (by decide) (g := (mkF m 158 #[.val (.int p1), .val (.int p2), .val (.long q3), .second, .val (.long q4), .second, .val (.int p5), .val (.ref b101), .val (.int (1 : Int32)), .val (.int (p1 &&& (31 : Int32))), .val (.int (p2 &&& (31 : Int32))), .val (.int v123), .val (.int v124), .val (.int (2 : Int32)), .val (.int (own_min ((p5 >>> ((2 : Int32) &&& 31)) &&& (3 : Int32)) (2 : Int32)))] [(.ref b101)])) rfl (by rw [hml]; rfl) (argsL := []) (rest := []) (lenOf pd0_4 rfl) rfl rfl (by show 2 * 0 + _ ≤ _; exact Nat.le_of_eq rfl) (hb hby at_158)
            obtain ⟨rfl, N290q, K290q, P291⟩ := hQ290
            have N290 := Fr.app N288 N290q
            have F292 := F285.keep K290q
            have K290 := K278.trans K290q (allS (Or.inr v101) (allS (Or.inr (Nat.le_trans K101.1 P110)) (allS (Or.inr (Nat.le_trans K106.1 P246)) (allS (Or.inr (Nat.le_trans K106.1 P247)) all0))))
            have Y290 := Nat.le_trans Y278 K290q.1
            refine OwnEnd.go (fun _ k => st290 _ k) ?_
            show OwnEnd p e below s _ _ _ (T290.setTop (mkF m 161 #[.val (.int p1), .val (.int p2), .val (.long q3), .second, .val (.long q4), .second, .val (.int p5), .val (.ref b101), .val (.int (1 : Int32)), .val (.int (p1 &&& (31 : Int32))), .val (.int (p2 &&& (31 : Int32))), .val (.int v123), .val (.int v124), .val (.int (2 : Int32)), .val (.int (own_min ((p5 >>> ((2 : Int32) &&& 31)) &&& (3 : Int32)) (2 : Int32)))] [(.int y282)]))
            refine OwnEnd.go (fun _ k => XS.pop X290.here hx rfl (hb hby at_161) rfl rfl k) ?_
            show OwnEnd p e below s _ _ _ (T290.setTop (mkF m 162 #[.val (.int p1), .val (.int p2), .val (.long q3), .second, .val (.long q4), .second, .val (.int p5), .val (.ref b101), .val (.int (1 : Int32)), .val (.int (p1 &&& (31 : Int32))), .val (.int (p2 &&& (31 : Int32))), .val (.int v123), .val (.int v124), .val (.int (2 : Int32)), .val (.int (own_min ((p5 >>> ((2 : Int32) &&& 31)) &&& (3 : Int32)) (2 : Int32)))] []))
            refine OwnEnd.go (fun _ k => XS.iload X290.here hx rfl (hb hby at_162) rfl  k) ?_
            show OwnEnd p e below s _ _ _ (T290.setTop (mkF m 164 #[.val (.int p1), .val (.int p2), .val (.long q3), .second, .val (.long q4), .second, .val (.int p5), .val (.ref b101), .val (.int (1 : Int32)), .val (.int (p1 &&& (31 : Int32))), .val (.int (p2 &&& (31 : Int32))), .val (.int v123), .val (.int v124), .val (.int (2 : Int32)), .val (.int (own_min ((p5 >>> ((2 : Int32) &&& 31)) &&& (3 : Int32)) (2 : Int32)))] [(.int (1 : Int32))]))
            refine OwnEnd.go (fun _ k => XS.ifNo X290.here hx rfl (hb hby at_164) rfl ((if0 _ _).trans (feq (by decide : ¬ (1 : Int32) = (0 : Int32))).1) k) ?_
            show OwnEnd p e below s _ _ _ (T290.setTop (mkF m 167 #[.val (.int p1), .val (.int p2), .val (.long q3), .second, .val (.long q4), .second, .val (.int p5), .val (.ref b101), .val (.int (1 : Int32)), .val (.int (p1 &&& (31 : Int32))), .val (.int (p2 &&& (31 : Int32))), .val (.int v123), .val (.int v124), .val (.int (2 : Int32)), .val (.int (own_min ((p5 >>> ((2 : Int32) &&& 31)) &&& (3 : Int32)) (2 : Int32)))] []))
            refine OwnEnd.go (fun _ k => XS.aload X290.here hx rfl (hb hby at_167) rfl rfl k) ?_
            show OwnEnd p e below s _ _ _ (T290.setTop (mkF m 169 #[.val (.int p1), .val (.int p2), .val (.long q3), .second, .val (.long q4), .second, .val (.int p5), .val (.ref b101), .val (.int (1 : Int32)), .val (.int (p1 &&& (31 : Int32))), .val (.int (p2 &&& (31 : Int32))), .val (.int v123), .val (.int v124), .val (.int (2 : Int32)), .val (.int (own_min ((p5 >>> ((2 : Int32) &&& 31)) &&& (3 : Int32)) (2 : Int32)))] [(.ref b101)]))
            obtain ⟨_, T294, L294, X294, hQ294, st294⟩ := ownCallV X290 hx hZ hown ww24 ww25 ww27 ww26 ww2 ww28 (by decide) (rm5z1 l Z a0 hw [] b101 y114 y249 y250 (32 : Int32) y283 y283 (own_upd (own_upd y284 y282 (-1 : Int32)) y283 (0 : Int32)) T290.heap n0 Y290  P291) (rfl : T290.heap = T290.heap) F292 0 (by decide) (by decide) (by decide) (by decide) (g := (mkF m 169 #[.val (.int p1), .val (.int p2), .val (.long q3), .second, .val (.long q4), .second, .val (.int p5), .val (.ref b101), .val (.int (1 : Int32)), .val (.int (p1 &&& (31 : Int32))), .val (.int (p2 &&& (31 : Int32))), .val (.int v123), .val (.int v124), .val (.int (2 : Int32)), .val (.int (own_min ((p5 >>> ((2 : Int32) &&& 31)) &&& (3 : Int32)) (2 : Int32)))] [(.ref b101)])) rfl (by rw [hml]; rfl) (argsL := []) (rest := []) (lenOf pd0_1 rfl) rfl rfl (by show 2 * 0 + _ ≤ _; exact Nat.le_of_eq rfl) (hb hby at_169)
            obtain ⟨rfl, N294q, e294⟩ := hQ294
            have N294 := Fr.app N290 N294q
            refine OwnEnd.go (fun _ k => st294 _ k) ?_
            show OwnEnd p e below s _ _ _ (T294.setTop (mkF m 172 #[.val (.int p1), .val (.int p2), .val (.long q3), .second, .val (.long q4), .second, .val (.int p5), .val (.ref b101), .val (.int (1 : Int32)), .val (.int (p1 &&& (31 : Int32))), .val (.int (p2 &&& (31 : Int32))), .val (.int v123), .val (.int v124), .val (.int (2 : Int32)), .val (.int (own_min ((p5 >>> ((2 : Int32) &&& 31)) &&& (3 : Int32)) (2 : Int32)))] [(.int (0 : Int32))]))
            refine OwnEnd.go (fun _ k => XS.iload X294.here hx rfl (hb hby at_172) rfl  k) ?_
            show OwnEnd p e below s _ _ _ (T294.setTop (mkF m 174 #[.val (.int p1), .val (.int p2), .val (.long q3), .second, .val (.long q4), .second, .val (.int p5), .val (.ref b101), .val (.int (1 : Int32)), .val (.int (p1 &&& (31 : Int32))), .val (.int (p2 &&& (31 : Int32))), .val (.int v123), .val (.int v124), .val (.int (2 : Int32)), .val (.int (own_min ((p5 >>> ((2 : Int32) &&& 31)) &&& (3 : Int32)) (2 : Int32)))] [(.int (2 : Int32)), (.int (0 : Int32))]))
            refine OwnEnd.go (fun _ k => XS.iconst X294.here hx rfl (hb hby at_174) k) ?_
            show OwnEnd p e below s _ _ _ (T294.setTop (mkF m 175 #[.val (.int p1), .val (.int p2), .val (.long q3), .second, .val (.long q4), .second, .val (.int p5), .val (.ref b101), .val (.int (1 : Int32)), .val (.int (p1 &&& (31 : Int32))), .val (.int (p2 &&& (31 : Int32))), .val (.int v123), .val (.int v124), .val (.int (2 : Int32)), .val (.int (own_min ((p5 >>> ((2 : Int32) &&& 31)) &&& (3 : Int32)) (2 : Int32)))] [(.int (1 : Int32)), (.int (2 : Int32)), (.int (0 : Int32))]))
            refine OwnEnd.go (fun _ k => XS.icmpYes X294.here hx rfl (pc0 := 175) (pc' := 182) rfl (hb hby at_175) rfl (feq (by decide : ¬ (2 : Int32) = (1 : Int32))).2 (by decide) (by decide) k) ?_
            show OwnEnd p e below s _ _ _ (T294.setTop (mkF m 182 #[.val (.int p1), .val (.int p2), .val (.long q3), .second, .val (.long q4), .second, .val (.int p5), .val (.ref b101), .val (.int (1 : Int32)), .val (.int (p1 &&& (31 : Int32))), .val (.int (p2 &&& (31 : Int32))), .val (.int v123), .val (.int v124), .val (.int (2 : Int32)), .val (.int (own_min ((p5 >>> ((2 : Int32) &&& 31)) &&& (3 : Int32)) (2 : Int32)))] [(.int (0 : Int32))]))
            refine OwnEnd.go (fun _ k => XS.iconst X294.here hx rfl (hb hby at_182) k) ?_
            show OwnEnd p e below s _ _ _ (T294.setTop (mkF m 183 #[.val (.int p1), .val (.int p2), .val (.long q3), .second, .val (.long q4), .second, .val (.int p5), .val (.ref b101), .val (.int (1 : Int32)), .val (.int (p1 &&& (31 : Int32))), .val (.int (p2 &&& (31 : Int32))), .val (.int v123), .val (.int v124), .val (.int (2 : Int32)), .val (.int (own_min ((p5 >>> ((2 : Int32) &&& 31)) &&& (3 : Int32)) (2 : Int32)))] [(.int (0 : Int32)), (.int (0 : Int32))]))
            refine OwnEnd.go (fun _ k => XS.icmpNo X294.here hx rfl (hb hby at_183) rfl (teq (by decide : (0 : Int32) = (0 : Int32))).2 k) ?_
            show OwnEnd p e below s _ _ _ (T294.setTop (mkF m 186 #[.val (.int p1), .val (.int p2), .val (.long q3), .second, .val (.long q4), .second, .val (.int p5), .val (.ref b101), .val (.int (1 : Int32)), .val (.int (p1 &&& (31 : Int32))), .val (.int (p2 &&& (31 : Int32))), .val (.int v123), .val (.int v124), .val (.int (2 : Int32)), .val (.int (own_min ((p5 >>> ((2 : Int32) &&& 31)) &&& (3 : Int32)) (2 : Int32)))] []))
            refine OwnEnd.go (fun _ k => XS.iconst X294.here hx rfl (hb hby at_186) k) ?_
            show OwnEnd p e below s _ _ _ (T294.setTop (mkF m 187 #[.val (.int p1), .val (.int p2), .val (.long q3), .second, .val (.long q4), .second, .val (.int p5), .val (.ref b101), .val (.int (1 : Int32)), .val (.int (p1 &&& (31 : Int32))), .val (.int (p2 &&& (31 : Int32))), .val (.int v123), .val (.int v124), .val (.int (2 : Int32)), .val (.int (own_min ((p5 >>> ((2 : Int32) &&& 31)) &&& (3 : Int32)) (2 : Int32)))] [(.int (1 : Int32))]))
            refine OwnEnd.go (fun _ k => XS.goto X294.here hx rfl (pc0 := 187) (pc' := 191) rfl (hb hby at_187) (by decide) (by decide) k) ?_
            show OwnEnd p e below s _ _ _ (T294.setTop (mkF m 191 #[.val (.int p1), .val (.int p2), .val (.long q3), .second, .val (.long q4), .second, .val (.int p5), .val (.ref b101), .val (.int (1 : Int32)), .val (.int (p1 &&& (31 : Int32))), .val (.int (p2 &&& (31 : Int32))), .val (.int v123), .val (.int v124), .val (.int (2 : Int32)), .val (.int (own_min ((p5 >>> ((2 : Int32) &&& 31)) &&& (3 : Int32)) (2 : Int32)))] [(.int (1 : Int32))]))
            refine OwnEnd.go (fun _ k => XS.istore X294.here hx rfl (hb hby at_191) rfl  (l' := #[.val (.int p1), .val (.int p2), .val (.long q3), .second, .val (.long q4), .second, .val (.int p5), .val (.ref b101), .val (.int (1 : Int32)), .val (.int (p1 &&& (31 : Int32))), .val (.int (p2 &&& (31 : Int32))), .val (.int v123), .val (.int v124), .val (.int (2 : Int32)), .val (.int (own_min ((p5 >>> ((2 : Int32) &&& 31)) &&& (3 : Int32)) (2 : Int32)))]) rfl k) ?_
            show OwnEnd p e below s _ _ _ (T294.setTop (mkF m 193 #[.val (.int p1), .val (.int p2), .val (.long q3), .second, .val (.long q4), .second, .val (.int p5), .val (.ref b101), .val (.int (1 : Int32)), .val (.int (p1 &&& (31 : Int32))), .val (.int (p2 &&& (31 : Int32))), .val (.int v123), .val (.int v124), .val (.int (2 : Int32)), .val (.int (own_min ((p5 >>> ((2 : Int32) &&& 31)) &&& (3 : Int32)) (2 : Int32)))] []))
            refine OwnEnd.go (fun _ k => XS.iload X294.here hx rfl (hb hby at_193) rfl  k) ?_
            show OwnEnd p e below s _ _ _ (T294.setTop (mkF m 195 #[.val (.int p1), .val (.int p2), .val (.long q3), .second, .val (.long q4), .second, .val (.int p5), .val (.ref b101), .val (.int (1 : Int32)), .val (.int (p1 &&& (31 : Int32))), .val (.int (p2 &&& (31 : Int32))), .val (.int v123), .val (.int v124), .val (.int (2 : Int32)), .val (.int (own_min ((p5 >>> ((2 : Int32) &&& 31)) &&& (3 : Int32)) (2 : Int32)))] [(.int (own_min ((p5 >>> ((2 : Int32) &&& 31)) &&& (3 : Int32)) (2 : Int32)))]))
            refine OwnEnd.go (fun _ k => XS.iconst X294.here hx rfl (hb hby at_195) k) ?_
            show OwnEnd p e below s _ _ _ (T294.setTop (mkF m 196 #[.val (.int p1), .val (.int p2), .val (.long q3), .second, .val (.long q4), .second, .val (.int p5), .val (.ref b101), .val (.int (1 : Int32)), .val (.int (p1 &&& (31 : Int32))), .val (.int (p2 &&& (31 : Int32))), .val (.int v123), .val (.int v124), .val (.int (2 : Int32)), .val (.int (own_min ((p5 >>> ((2 : Int32) &&& 31)) &&& (3 : Int32)) (2 : Int32)))] [(.int (2 : Int32)), (.int (own_min ((p5 >>> ((2 : Int32) &&& 31)) &&& (3 : Int32)) (2 : Int32)))]))
            by_cases hc295 : (own_min ((p5 >>> ((2 : Int32) &&& 31)) &&& (3 : Int32)) (2 : Int32)) < (2 : Int32)
            · refine OwnEnd.go (fun _ k => XS.icmpYes X294.here hx rfl (pc0 := 196) (pc' := 225) rfl (hb hby at_196) rfl (tlt hc295).1 (by decide) (by decide) k) ?_
              show OwnEnd p e below s _ _ _ (T294.setTop (mkF m 225 #[.val (.int p1), .val (.int p2), .val (.long q3), .second, .val (.long q4), .second, .val (.int p5), .val (.ref b101), .val (.int (1 : Int32)), .val (.int (p1 &&& (31 : Int32))), .val (.int (p2 &&& (31 : Int32))), .val (.int v123), .val (.int v124), .val (.int (2 : Int32)), .val (.int (own_min ((p5 >>> ((2 : Int32) &&& 31)) &&& (3 : Int32)) (2 : Int32)))] []))
              refine OwnEnd.go (fun _ k => XS.iload X294.here hx rfl (hb hby at_225) rfl  k) ?_
              show OwnEnd p e below s _ _ _ (T294.setTop (mkF m 227 #[.val (.int p1), .val (.int p2), .val (.long q3), .second, .val (.long q4), .second, .val (.int p5), .val (.ref b101), .val (.int (1 : Int32)), .val (.int (p1 &&& (31 : Int32))), .val (.int (p2 &&& (31 : Int32))), .val (.int v123), .val (.int v124), .val (.int (2 : Int32)), .val (.int (own_min ((p5 >>> ((2 : Int32) &&& 31)) &&& (3 : Int32)) (2 : Int32)))] [(.int (1 : Int32))]))
              refine ownRetZ X294 hx hlk hret (hb hby at_227) (by decide) (by decide) (1 : Int32) (by decide) ?_
              show Q0 Z p1 p2 q3 q4 p5 h0 n0 _ T294.heap _
              rw [e294]
              exact ⟨rfl, N294⟩
            · refine OwnEnd.go (fun _ k => XS.icmpNo X294.here hx rfl (hb hby at_196) rfl (flt hc295).1 k) ?_
              show OwnEnd p e below s _ _ _ (T294.setTop (mkF m 199 #[.val (.int p1), .val (.int p2), .val (.long q3), .second, .val (.long q4), .second, .val (.int p5), .val (.ref b101), .val (.int (1 : Int32)), .val (.int (p1 &&& (31 : Int32))), .val (.int (p2 &&& (31 : Int32))), .val (.int v123), .val (.int v124), .val (.int (2 : Int32)), .val (.int (own_min ((p5 >>> ((2 : Int32) &&& 31)) &&& (3 : Int32)) (2 : Int32)))] []))
              refine OwnEnd.go (fun _ k => XS.aload X294.here hx rfl (hb hby at_199) rfl rfl k) ?_
              show OwnEnd p e below s _ _ _ (T294.setTop (mkF m 201 #[.val (.int p1), .val (.int p2), .val (.long q3), .second, .val (.long q4), .second, .val (.int p5), .val (.ref b101), .val (.int (1 : Int32)), .val (.int (p1 &&& (31 : Int32))), .val (.int (p2 &&& (31 : Int32))), .val (.int v123), .val (.int v124), .val (.int (2 : Int32)), .val (.int (own_min ((p5 >>> ((2 : Int32) &&& 31)) &&& (3 : Int32)) (2 : Int32)))] [(.ref b101)]))
              obtain ⟨_, T296, L296, X296, hQ296, st296⟩ := ownCallV X294 hx hZ hown ww68 ww69 ww71 ww70 ww2 ww72 (by decide) (rm14z1 l Z a0 hw [] b101 y114 y249 y250 (32 : Int32) y283 y283 (own_upd (own_upd y284 y282 (-1 : Int32)) y283 (0 : Int32)) T290.heap n0 Y290  P291 P281) e294 F292 0 (by decide) (by decide) (by decide) (by decide) (g := (mkF m 201 #[.val (.int p1), .val (.int p2), .val (.long q3), .second, .val (.long q4), .second, .val (.int p5), .val (.ref b101), .val (.int (1 : Int32)), .val (.int (p1 &&& (31 : Int32))), .val (.int (p2 &&& (31 : Int32))), .val (.int v123), .val (.int v124), .val (.int (2 : Int32)), .val (.int (own_min ((p5 >>> ((2 : Int32) &&& 31)) &&& (3 : Int32)) (2 : Int32)))] [(.ref b101)])) rfl (by rw [hml]; rfl) (argsL := []) (rest := []) (lenOf pd0_4 rfl) rfl rfl (by show 2 * 0 + _ ≤ _; exact Nat.le_of_eq rfl) (hb hby at_201)
              obtain ⟨rfl, N296q, K296q, P297⟩ := hQ296
              have N296 := Fr.app N294 N296q
              have F298 := F292.keep K296q
              have K296 := K290.trans K296q (allS (Or.inr v101) (allS (Or.inr (Nat.le_trans K101.1 P110)) (allS (Or.inr (Nat.le_trans K106.1 P246)) (allS (Or.inr (Nat.le_trans K106.1 P247)) all0))))
              have Y296 := Nat.le_trans Y290 K296q.1
              refine OwnEnd.go (fun _ k => st296 _ k) ?_
              show OwnEnd p e below s _ _ _ (T296.setTop (mkF m 204 #[.val (.int p1), .val (.int p2), .val (.long q3), .second, .val (.long q4), .second, .val (.int p5), .val (.ref b101), .val (.int (1 : Int32)), .val (.int (p1 &&& (31 : Int32))), .val (.int (p2 &&& (31 : Int32))), .val (.int v123), .val (.int v124), .val (.int (2 : Int32)), .val (.int (own_min ((p5 >>> ((2 : Int32) &&& 31)) &&& (3 : Int32)) (2 : Int32)))] [(.int y283)]))
              refine OwnEnd.go (fun _ k => XS.pop X296.here hx rfl (hb hby at_204) rfl rfl k) ?_
              show OwnEnd p e below s _ _ _ (T296.setTop (mkF m 205 #[.val (.int p1), .val (.int p2), .val (.long q3), .second, .val (.long q4), .second, .val (.int p5), .val (.ref b101), .val (.int (1 : Int32)), .val (.int (p1 &&& (31 : Int32))), .val (.int (p2 &&& (31 : Int32))), .val (.int v123), .val (.int v124), .val (.int (2 : Int32)), .val (.int (own_min ((p5 >>> ((2 : Int32) &&& 31)) &&& (3 : Int32)) (2 : Int32)))] []))
              refine OwnEnd.go (fun _ k => XS.iload X296.here hx rfl (hb hby at_205) rfl  k) ?_
              show OwnEnd p e below s _ _ _ (T296.setTop (mkF m 207 #[.val (.int p1), .val (.int p2), .val (.long q3), .second, .val (.long q4), .second, .val (.int p5), .val (.ref b101), .val (.int (1 : Int32)), .val (.int (p1 &&& (31 : Int32))), .val (.int (p2 &&& (31 : Int32))), .val (.int v123), .val (.int v124), .val (.int (2 : Int32)), .val (.int (own_min ((p5 >>> ((2 : Int32) &&& 31)) &&& (3 : Int32)) (2 : Int32)))] [(.int (1 : Int32))]))
              refine OwnEnd.go (fun _ k => XS.ifNo X296.here hx rfl (hb hby at_207) rfl ((if0 _ _).trans (feq (by decide : ¬ (1 : Int32) = (0 : Int32))).1) k) ?_
              show OwnEnd p e below s _ _ _ (T296.setTop (mkF m 210 #[.val (.int p1), .val (.int p2), .val (.long q3), .second, .val (.long q4), .second, .val (.int p5), .val (.ref b101), .val (.int (1 : Int32)), .val (.int (p1 &&& (31 : Int32))), .val (.int (p2 &&& (31 : Int32))), .val (.int v123), .val (.int v124), .val (.int (2 : Int32)), .val (.int (own_min ((p5 >>> ((2 : Int32) &&& 31)) &&& (3 : Int32)) (2 : Int32)))] []))
              refine OwnEnd.go (fun _ k => XS.aload X296.here hx rfl (hb hby at_210) rfl rfl k) ?_
              show OwnEnd p e below s _ _ _ (T296.setTop (mkF m 212 #[.val (.int p1), .val (.int p2), .val (.long q3), .second, .val (.long q4), .second, .val (.int p5), .val (.ref b101), .val (.int (1 : Int32)), .val (.int (p1 &&& (31 : Int32))), .val (.int (p2 &&& (31 : Int32))), .val (.int v123), .val (.int v124), .val (.int (2 : Int32)), .val (.int (own_min ((p5 >>> ((2 : Int32) &&& 31)) &&& (3 : Int32)) (2 : Int32)))] [(.ref b101)]))
              obtain ⟨_, T300, L300, X300, hQ300, st300⟩ := ownCallV X296 hx hZ hown ww24 ww25 ww27 ww26 ww2 ww28 (by decide) (rm5z0 l Z a0 hw [] b101 y114 y249 y250 (32 : Int32) y283 y283 (own_upd (own_upd (own_upd y284 y282 (-1 : Int32)) y283 (0 : Int32)) y283 (-1 : Int32)) T296.heap n0 Y296  P297) (rfl : T296.heap = T296.heap) F298 0 (by decide) (by decide) (by decide) (by decide) (g := (mkF m 212 #[.val (.int p1), .val (.int p2), .val (.long q3), .second, .val (.long q4), .second, .val (.int p5), .val (.ref b101), .val (.int (1 : Int32)), .val (.int (p1 &&& (31 : Int32))), .val (.int (p2 &&& (31 : Int32))), .val (.int v123), .val (.int v124), .val (.int (2 : Int32)), .val (.int (own_min ((p5 >>> ((2 : Int32) &&& 31)) &&& (3 : Int32)) (2 : Int32)))] [(.ref b101)])) rfl (by rw [hml]; rfl) (argsL := []) (rest := []) (lenOf pd0_1 rfl) rfl rfl (by show 2 * 0 + _ ≤ _; exact Nat.le_of_eq rfl) (hb hby at_212)
              obtain ⟨rfl, N300q, e300⟩ := hQ300
              have N300 := Fr.app N296 N300q
              refine OwnEnd.go (fun _ k => st300 _ k) ?_
              show OwnEnd p e below s _ _ _ (T300.setTop (mkF m 215 #[.val (.int p1), .val (.int p2), .val (.long q3), .second, .val (.long q4), .second, .val (.int p5), .val (.ref b101), .val (.int (1 : Int32)), .val (.int (p1 &&& (31 : Int32))), .val (.int (p2 &&& (31 : Int32))), .val (.int v123), .val (.int v124), .val (.int (2 : Int32)), .val (.int (own_min ((p5 >>> ((2 : Int32) &&& 31)) &&& (3 : Int32)) (2 : Int32)))] [(.int (1 : Int32))]))
              refine OwnEnd.go (fun _ k => XS.ifNo X300.here hx rfl (hb hby at_215) rfl ((if0 _ _).trans (feq (by decide : ¬ (1 : Int32) = (0 : Int32))).1) k) ?_
              show OwnEnd p e below s _ _ _ (T300.setTop (mkF m 218 #[.val (.int p1), .val (.int p2), .val (.long q3), .second, .val (.long q4), .second, .val (.int p5), .val (.ref b101), .val (.int (1 : Int32)), .val (.int (p1 &&& (31 : Int32))), .val (.int (p2 &&& (31 : Int32))), .val (.int v123), .val (.int v124), .val (.int (2 : Int32)), .val (.int (own_min ((p5 >>> ((2 : Int32) &&& 31)) &&& (3 : Int32)) (2 : Int32)))] []))
              refine OwnEnd.go (fun _ k => XS.iconst X300.here hx rfl (hb hby at_218) k) ?_
              show OwnEnd p e below s _ _ _ (T300.setTop (mkF m 219 #[.val (.int p1), .val (.int p2), .val (.long q3), .second, .val (.long q4), .second, .val (.int p5), .val (.ref b101), .val (.int (1 : Int32)), .val (.int (p1 &&& (31 : Int32))), .val (.int (p2 &&& (31 : Int32))), .val (.int v123), .val (.int v124), .val (.int (2 : Int32)), .val (.int (own_min ((p5 >>> ((2 : Int32) &&& 31)) &&& (3 : Int32)) (2 : Int32)))] [(.int (1 : Int32))]))
              refine OwnEnd.go (fun _ k => XS.goto X300.here hx rfl (pc0 := 219) (pc' := 223) rfl (hb hby at_219) (by decide) (by decide) k) ?_
              show OwnEnd p e below s _ _ _ (T300.setTop (mkF m 223 #[.val (.int p1), .val (.int p2), .val (.long q3), .second, .val (.long q4), .second, .val (.int p5), .val (.ref b101), .val (.int (1 : Int32)), .val (.int (p1 &&& (31 : Int32))), .val (.int (p2 &&& (31 : Int32))), .val (.int v123), .val (.int v124), .val (.int (2 : Int32)), .val (.int (own_min ((p5 >>> ((2 : Int32) &&& 31)) &&& (3 : Int32)) (2 : Int32)))] [(.int (1 : Int32))]))
              refine OwnEnd.go (fun _ k => XS.istore X300.here hx rfl (hb hby at_223) rfl  (l' := #[.val (.int p1), .val (.int p2), .val (.long q3), .second, .val (.long q4), .second, .val (.int p5), .val (.ref b101), .val (.int (1 : Int32)), .val (.int (p1 &&& (31 : Int32))), .val (.int (p2 &&& (31 : Int32))), .val (.int v123), .val (.int v124), .val (.int (2 : Int32)), .val (.int (own_min ((p5 >>> ((2 : Int32) &&& 31)) &&& (3 : Int32)) (2 : Int32)))]) rfl k) ?_
              show OwnEnd p e below s _ _ _ (T300.setTop (mkF m 225 #[.val (.int p1), .val (.int p2), .val (.long q3), .second, .val (.long q4), .second, .val (.int p5), .val (.ref b101), .val (.int (1 : Int32)), .val (.int (p1 &&& (31 : Int32))), .val (.int (p2 &&& (31 : Int32))), .val (.int v123), .val (.int v124), .val (.int (2 : Int32)), .val (.int (own_min ((p5 >>> ((2 : Int32) &&& 31)) &&& (3 : Int32)) (2 : Int32)))] []))
              refine OwnEnd.go (fun _ k => XS.iload X300.here hx rfl (hb hby at_225) rfl  k) ?_
              show OwnEnd p e below s _ _ _ (T300.setTop (mkF m 227 #[.val (.int p1), .val (.int p2), .val (.long q3), .second, .val (.long q4), .second, .val (.int p5), .val (.ref b101), .val (.int (1 : Int32)), .val (.int (p1 &&& (31 : Int32))), .val (.int (p2 &&& (31 : Int32))), .val (.int v123), .val (.int v124), .val (.int (2 : Int32)), .val (.int (own_min ((p5 >>> ((2 : Int32) &&& 31)) &&& (3 : Int32)) (2 : Int32)))] [(.int (1 : Int32))]))
              refine ownRetZ X300 hx hlk hret (hb hby at_227) (by decide) (by decide) (1 : Int32) (by decide) ?_
              show Q0 Z p1 p2 q3 q4 p5 h0 n0 _ T300.heap _
              rw [e300]
              exact ⟨rfl, N300⟩
set_option maxRecDepth 65536 in
set_option maxHeartbeats 40000000 in
theorem comes_1 {Post : Tables → Env → Array Value → State → Outcome → State → Prop} (hpost : ∀ tb e args s v u, (limb_1_1.after args s (.returned v) u = true ∧ limb_1_2.after args s (.returned v) u = true ∧ True) → FrameEnd s (.returned v) u (Jvm.fieldLocs frame_1_writes args s ++ Jvm.arrayLocs frame_1_arrays args s ++ Jvm.staticLocs frame_1_statics s) 24 320 → Post tb e args s (.returned v) u) :
    ArmFor flags0 classFile x code maxLocals ret World_1 tables_1 room_1 Calls_1 rest_1 Pre_1 Post := by
  intro l hfl _ _ p e ha hc hk s m args below hf hA hF happ hP
  obtain ⟨hcalls, hrest, hpre⟩ := hP
  obtain ⟨-, -, -, hnamed, -, -, -, hat⟩ := (Spec.applies_iff hf).mp happ
  obtain ⟨hg, hn⟩ := and_e (Cond.before_iff.mp (show (Jvm.Cond.and given_1 narrow_1).before args s = true from hpre))
  obtain ⟨hcount, hg⟩ := and_e hg
  obtain ⟨hv0, hg⟩ := and_e hg
  obtain ⟨hv1, hg⟩ := and_e hg
  obtain ⟨hv2, hg⟩ := and_e hg
  obtain ⟨hv3, hg⟩ := and_e hg
  have hv4 := hg
  obtain ⟨w0, w1, w2, w3, w4, rfl⟩ : ∃ w0 w1 w2 w3 w4 : Value, args = #[w0, w1, w2, w3, w4] := by
    have hs : args.size = 5 := by simpa [Cond.value, given_1] using hcount
    obtain ⟨L⟩ := args
    match L, hs with
    | [w0, w1, w2, w3, w4], _ => exact ⟨w0, w1, w2, w3, w4, rfl⟩
  have hw := fun d (hd : d ∈ tables_1) => atoms_spec (ws := Jvm.Cond.code x code maxLocals ret :: tables_1) hat d (List.mem_cons_of_mem _ hd)
  have hfit : Fit s := fun {y c} hc i hi => by
    obtain ⟨ha, rfl⟩ := Array.getElem?_eq_some_iff.mp hc
    have q := List.all_eq_true.mp ((Array.all_eq_true_iff_forall_mem.mp hF) _ (Array.getElem_mem ha)) i (List.mem_range.mpr hi)
    simpa [Array.getElem?_eq_getElem hi] using q
  obtain ⟨i0, ei0⟩ := is_v hv0
  obtain rfl : w0 = (.int i0) := Option.some.inj ei0
  obtain ⟨i1, ei1⟩ := is_v hv1
  obtain rfl : w1 = (.int i1) := Option.some.inj ei1
  obtain ⟨i2, ei2⟩ := isL_v hv2
  obtain rfl : w2 = (.long i2) := Option.some.inj ei2
  obtain ⟨i3, ei3⟩ := isL_v hv3
  obtain rfl : w3 = (.long i3) := Option.some.inj ei3
  obtain ⟨i4, ei4⟩ := is_v hv4
  obtain rfl : w4 = (.int i4) := Option.some.inj ei4
  obtain ⟨n, o, h1, h2, h3, _, L, rfl, ⟨rfl, N⟩, hq⟩ := rm0 l s _ hw tables_1 i0 i1 i2 i3 i4 s.heap s.heap.size (Nat.le_refl _)  p e ha hc hk s m _ below hf ((Spec.applies_iff_loose hf).mp happ).1 ⟨rfl, State.Warmed39.refl s, rfl⟩ trivial
  refine ⟨n, _, h1, h2, h3, hpost _ _ _ _ _ _ ⟨Cond.after_iff.mpr rfl, Cond.after_iff.mpr (eq_i res_at (Term.int_eval (1)) rfl), trivial⟩ ⟨hq.1, hq.2.1, (hq.2.2.sift fun y hy => Or.inr (N y hy)).mono (by decide) (by decide)⟩⟩
theorem main_1_1 : Claimed_1_1 := comes_1 fun _ _ _ _ _ _ h hF => ⟨h.1, hF⟩
theorem main_1_2 : Claimed_1_2 := comes_1 fun _ _ _ _ _ _ h hF => ⟨h.2.1, hF⟩
end Jvm.Pilot.@@N@@
namespace Jvm.Pilot.@@N@@
open Jvm Jvm.ClassFile Sem Op Lib Jvm.Free Jvm.Stand Jvm.Pilot.@@N@@.Jvm.D
/-! MADE BY PROGRAM (witnessworld.py) out of the Statement's table words and the real class files: 14 classes; the members and pool entries that the words name. The judged class is class 1, her method 1. -/
namespace start1
open Jvm.ClassFile
def u (s : String) : CpInfo := .utf8 (stringToUtf16 s)
/-- a pool by its gaps: so many unusable entries, then the entry; so many at the end -/
def gap : Nat → List CpInfo → List CpInfo
  | 0, r => r
  | n + 1, r => .unusable :: gap n r
def poolList (es : List (Nat × CpInfo)) (last : Nat) : List CpInfo := es.foldr (fun e r => gap e.1 (e.2 :: r)) (gap last [])
def pool (es : List (Nat × CpInfo)) (last : Nat) : Array CpInfo := ⟨poolList es last⟩
def fileOf (pool : Array CpInfo) (this : Nat) (attrs : Array Attribute := #[]) (ms : Array MethodInfo := #[]) (fl : Nat := 33) (sup : Nat := 0) (ifs : Array Nat := #[]) (fds : Array FieldInfo := #[]) : ClassFile where
  minorVersion := 0
  majorVersion := 65
  constantPool := pool
  accessFlags := fl
  thisClass := this
  superClass := sup
  interfaces := ifs
  fields := fds
  methods := ms
  attributes := attrs
def plain (name : String) (sup : Option ClassId) : Class where
  name := name
  kind := .ordinary
  loader := none
  accessFlags := 33
  super := sup
  interfaces := #[]
  cf := none
  fields := #[]
  methods := #[]
  instanceTypes := #[]
  staticTypes := #[]
  resolved := #[]
  callSites := []
  init := .initialized
  statics := none
  mirror := none

def pool0 : Array CpInfo := pool [(5, u "<init>"), (0, u "()V"), (1, .class_ 10), (1, u "java/lang/Object")] 113

def k0c0 : Code := { maxStack := 0, maxLocals := 1, code := object_method_1_code, exceptionTable := #[], attributes := #[] }
def k0m0 : Method := { name := "<init>", desc := "()V", sig := { parameters := [], returnType := none }, accessFlags := 1, code := some k0c0 }
/-- java/lang/Object -/
def k0 : Class := { plain "java/lang/Object" none with
  accessFlags := 33
  interfaces := #[]
  cf := some (fileOf pool0 8 #[] #[{ accessFlags := 1, nameIndex := 5, descriptorIndex := 6, attributes := #[] }] 33 0 #[] #[])
  fields := #[]
  methods := #[k0m0]
  instanceTypes := #[]
  staticTypes := #[]
  resolved := Array.replicate 124 none
  statics := none }

def pool1 : Array CpInfo := pool [(2, .class_ 4), (0, .nameAndType 5 6), (0, u "java/lang/Object"), (0, u "<init>"), (0, u "()V"), (0, .class_ 8), (0, u "com/example/volens/volens/core/agent/TurnQueue"), (0, .methodref 7 3), (0, .methodref 7 11), (0, .nameAndType 12 13), (0, u "isEmpty"), (0, u "()Z"), (0, .methodref 7 15), (0, .nameAndType 16 17), (0, u "set"), (0, u "(IJ)V"), (0, .methodref 19 20), (0, .class_ 21), (0, .nameAndType 22 23), (0, u "java/lang/Math"), (0, u "min"), (0, u "(II)I"), (0, .methodref 7 25), (0, .nameAndType 26 27), (0, u "takeFirst"), (0, u "()I"), (0, .class_ 29), (0, u "com/example/volens/volens/core/agent/TurnQueueIsEmptyPinLaw"), (2, u "law"), (0, u "(IIJJI)Z")] 3

def k1m0 : Method := { name := "<init>", desc := "()V", sig := { parameters := [], returnType := none }, accessFlags := 1, code := none }
def k1c1 : Code := { maxStack := 4, maxLocals := 15, code := code, exceptionTable := #[], attributes := #[] }
def k1m1 : Method := { name := "law", desc := "(IIJJI)Z", sig := { parameters := [.int, .int, .long, .long, .int], returnType := some .boolean }, accessFlags := 9, code := some k1c1 }
/-- com/example/volens/volens/core/agent/TurnQueueIsEmptyPinLaw -/
def k1 : Class := { plain "com/example/volens/volens/core/agent/TurnQueueIsEmptyPinLaw" (some 0) with
  accessFlags := 49
  interfaces := #[]
  cf := some (fileOf pool1 28 #[] #[{ accessFlags := 1, nameIndex := 5, descriptorIndex := 6, attributes := #[] }, { accessFlags := 9, nameIndex := 32, descriptorIndex := 33, attributes := #[] }] 49 2 #[] #[])
  fields := #[]
  methods := #[k1m0, k1m1]
  instanceTypes := #[]
  staticTypes := #[]
  resolved := Array.replicate 37 none
  statics := none }

def pool2 : Array CpInfo := pool [(1, .methodref 2 3), (0, .class_ 4), (0, .nameAndType 5 6), (0, u "java/lang/Object"), (0, u "<init>"), (0, u "()V"), (0, .class_ 8), (0, u "com/example/volens/volens/core/agent/TurnQueue"), (0, .fieldref 7 10), (0, .nameAndType 11 12), (0, u "heap"), (0, u "[I"), (0, .fieldref 7 14), (0, .nameAndType 15 16), (0, u "ticks"), (0, u "[J"), (0, .methodref 7 18), (0, .nameAndType 19 20), (0, u "newPlaces"), (0, u "(I)[I"), (0, .fieldref 7 22), (0, .nameAndType 23 12), (0, u "places"), (0, .fieldref 7 25), (0, .nameAndType 26 27), (0, u "size"), (0, u "I"), (0, .methodref 7 29), (0, .nameAndType 30 31), (0, u "grow"), (0, u "(I)V"), (1, .class_ 35), (1, u "java/util/Arrays"), (0, u "copyOf"), (1, .methodref 7 39), (0, .nameAndType 40 41), (0, u "rise"), (0, u "(II)V"), (0, .methodref 7 43), (0, .nameAndType 44 41), (0, u "sink"), (0, .methodref 7 46), (0, .nameAndType 47 48), (0, u "before"), (0, u "(II)Z"), (0, .methodref 7 50), (0, .nameAndType 51 41), (0, u "put"), (0, .methodref 53 54), (0, .class_ 55), (0, .nameAndType 56 57), (0, u "java/lang/Math"), (0, u "max"), (0, u "(II)I"), (0, .methodref 59 60), (0, .class_ 61), (0, .nameAndType 62 63), (0, u "java/lang/System"), (0, u "arraycopy"), (0, u "(Ljava/lang/Object;ILjava/lang/Object;II)V"), (0, .methodref 33 65), (0, .nameAndType 36 66), (0, u "([JI)[J"), (0, .methodref 33 68), (0, .nameAndType 69 70), (0, u "fill"), (0, u "([II)V"), (0, u "NOT_QUEUED"), (2, u "FIRST_CAPACITY"), (3, u "isEmpty"), (0, u "()Z"), (3, u "set"), (0, u "(IJ)V"), (0, u "takeFirst"), (0, u "()I")] 2

def k2c0 : Code := { maxStack := 2, maxLocals := 1, code := prog_28_method_1_code, exceptionTable := #[], attributes := #[] }
def k2m0 : Method := { name := "<init>", desc := "()V", sig := { parameters := [], returnType := none }, accessFlags := 0, code := some k2c0 }
def k2c1 : Code := { maxStack := 1, maxLocals := 1, code := prog_28_method_2_code, exceptionTable := #[], attributes := #[] }
def k2m1 : Method := { name := "isEmpty", desc := "()Z", sig := { parameters := [], returnType := some .boolean }, accessFlags := 0, code := some k2c1 }
def k2c2 : Code := { maxStack := 4, maxLocals := 4, code := prog_28_method_4_code, exceptionTable := #[], attributes := #[] }
def k2m2 : Method := { name := "set", desc := "(IJ)V", sig := { parameters := [.int, .long], returnType := none }, accessFlags := 0, code := some k2c2 }
def k2c3 : Code := { maxStack := 3, maxLocals := 2, code := prog_28_method_5_code, exceptionTable := #[], attributes := #[] }
def k2m3 : Method := { name := "takeFirst", desc := "()I", sig := { parameters := [], returnType := some .int }, accessFlags := 0, code := some k2c3 }
def k2c4 : Code := { maxStack := 5, maxLocals := 5, code := prog_28_method_6_code, exceptionTable := #[], attributes := #[] }
def k2m4 : Method := { name := "rise", desc := "(II)V", sig := { parameters := [.int, .int], returnType := none }, accessFlags := 2, code := some k2c4 }
def k2c5 : Code := { maxStack := 4, maxLocals := 7, code := prog_28_method_7_code, exceptionTable := #[], attributes := #[] }
def k2m5 : Method := { name := "sink", desc := "(II)V", sig := { parameters := [.int, .int], returnType := none }, accessFlags := 2, code := some k2c5 }
def k2c6 : Code := { maxStack := 3, maxLocals := 3, code := prog_28_method_8_code, exceptionTable := #[], attributes := #[] }
def k2m6 : Method := { name := "put", desc := "(II)V", sig := { parameters := [.int, .int], returnType := none }, accessFlags := 2, code := some k2c6 }
def k2c7 : Code := { maxStack := 4, maxLocals := 3, code := prog_28_method_9_code, exceptionTable := #[], attributes := #[] }
def k2m7 : Method := { name := "before", desc := "(II)Z", sig := { parameters := [.int, .int], returnType := some .boolean }, accessFlags := 2, code := some k2c7 }
def k2c8 : Code := { maxStack := 5, maxLocals := 4, code := prog_28_method_10_code, exceptionTable := #[], attributes := #[] }
def k2m8 : Method := { name := "grow", desc := "(I)V", sig := { parameters := [.int], returnType := none }, accessFlags := 2, code := some k2c8 }
def k2c9 : Code := { maxStack := 2, maxLocals := 2, code := prog_28_method_11_code, exceptionTable := #[], attributes := #[] }
def k2m9 : Method := { name := "newPlaces", desc := "(I)[I", sig := { parameters := [.int], returnType := some (.array .int) }, accessFlags := 10, code := some k2c9 }
/-- com/example/volens/volens/core/agent/TurnQueue -/
def k2 : Class := { plain "com/example/volens/volens/core/agent/TurnQueue" (some 0) with
  accessFlags := 48
  interfaces := #[]
  cf := some (fileOf pool2 7 #[] #[{ accessFlags := 0, nameIndex := 5, descriptorIndex := 6, attributes := #[] }, { accessFlags := 0, nameIndex := 78, descriptorIndex := 79, attributes := #[] }, { accessFlags := 0, nameIndex := 83, descriptorIndex := 84, attributes := #[] }, { accessFlags := 0, nameIndex := 85, descriptorIndex := 86, attributes := #[] }, { accessFlags := 2, nameIndex := 40, descriptorIndex := 41, attributes := #[] }, { accessFlags := 2, nameIndex := 44, descriptorIndex := 41, attributes := #[] }, { accessFlags := 2, nameIndex := 51, descriptorIndex := 41, attributes := #[] }, { accessFlags := 2, nameIndex := 47, descriptorIndex := 48, attributes := #[] }, { accessFlags := 2, nameIndex := 30, descriptorIndex := 31, attributes := #[] }, { accessFlags := 10, nameIndex := 19, descriptorIndex := 20, attributes := #[] }] 48 2 #[] #[{ accessFlags := 26, nameIndex := 71, descriptorIndex := 27, attributes := #[] }, { accessFlags := 26, nameIndex := 74, descriptorIndex := 27, attributes := #[] }, { accessFlags := 2, nameIndex := 11, descriptorIndex := 12, attributes := #[] }, { accessFlags := 2, nameIndex := 26, descriptorIndex := 27, attributes := #[] }, { accessFlags := 2, nameIndex := 15, descriptorIndex := 16, attributes := #[] }, { accessFlags := 2, nameIndex := 23, descriptorIndex := 12, attributes := #[] }])
  fields := #[{ name := "NOT_QUEUED", type := .int, accessFlags := 26, slot := 0, constantValue := 0 }, { name := "FIRST_CAPACITY", type := .int, accessFlags := 26, slot := 1, constantValue := 0 }, { name := "heap", type := (.array .int), accessFlags := 2, slot := 0, constantValue := 0 }, { name := "size", type := .int, accessFlags := 2, slot := 1, constantValue := 0 }, { name := "ticks", type := (.array .long), accessFlags := 2, slot := 2, constantValue := 0 }, { name := "places", type := (.array .int), accessFlags := 2, slot := 3, constantValue := 0 }]
  methods := #[k2m0, k2m1, k2m2, k2m3, k2m4, k2m5, k2m6, k2m7, k2m8, k2m9]
  instanceTypes := #[(.array .int), .int, (.array .long), (.array .int)]
  staticTypes := #[.int, .int]
  resolved := Array.replicate 89 none
  statics := none }

def pool3 : Array CpInfo := pool [(2, .class_ 4), (1, u "java/lang/Object"), (0, u "<init>"), (0, u "()V"), (7, .class_ 16), (1, u "java/util/Arrays"), (57, .class_ 76), (1, u "java/util/Arrays$NaturalOrder"), (36, .class_ 115), (1, u "java/util/Arrays$LegacyMergeSort"), (1, u "Z"), (32, .methodref 151 152), (0, .class_ 153), (0, .nameAndType 154 155), (0, u "java/lang/System"), (0, u "arraycopy"), (0, u "(Ljava/lang/Object;ILjava/lang/Object;II)V"), (146, u "copyOf"), (1, .methodref 305 306), (0, .class_ 307), (0, .nameAndType 308 309), (0, u "java/lang/Math"), (0, u "min"), (0, u "(II)I"), (65, .class_ 376), (0, u "java/util/Arrays$ArrayList"), (68, u "$assertionsDisabled"), (269, u "MIN_ARRAY_SORT_GRAN"), (0, u "I"), (2, u "INSERTIONSORT_THRESHOLD"), (120, u "fill"), (4, u "([II)V"), (26, u "([JI)[J"), (102, .class_ 976), (0, u "java/util/Arrays$ArrayItr")] 52

def k3m0 : Method := { name := "<init>", desc := "()V", sig := { parameters := [], returnType := none }, accessFlags := 2, code := none }
def k3c1 : Code := { maxStack := 3, maxLocals := 4, code := jdk_65_method_103_code, exceptionTable := #[], attributes := #[] }
def k3m1 : Method := { name := "fill", desc := "([II)V", sig := { parameters := [(.array .int), .int], returnType := none }, accessFlags := 9, code := some k3c1 }
def k3c2 : Code := { maxStack := 6, maxLocals := 3, code := jdk_65_method_124_code, exceptionTable := #[], attributes := #[] }
def k3m2 : Method := { name := "copyOf", desc := "([JI)[J", sig := { parameters := [(.array .long), .int], returnType := some (.array .long) }, accessFlags := 9, code := some k3c2 }
/-- java/util/Arrays -/
def k3 : Class := { plain "java/util/Arrays" (some 0) with
  accessFlags := 49
  interfaces := #[]
  cf := some (fileOf pool3 14 #[.nestMembers #[975, 375, 113, 74]] #[{ accessFlags := 2, nameIndex := 5, descriptorIndex := 6, attributes := #[] }, { accessFlags := 9, nameIndex := 840, descriptorIndex := 845, attributes := #[] }, { accessFlags := 9, nameIndex := 302, descriptorIndex := 872, attributes := #[] }] 49 2 #[] #[{ accessFlags := 26, nameIndex := 715, descriptorIndex := 716, attributes := #[] }, { accessFlags := 26, nameIndex := 719, descriptorIndex := 716, attributes := #[] }, { accessFlags := 4120, nameIndex := 445, descriptorIndex := 117, attributes := #[] }])
  fields := #[{ name := "MIN_ARRAY_SORT_GRAN", type := .int, accessFlags := 26, slot := 0, constantValue := 0 }, { name := "INSERTIONSORT_THRESHOLD", type := .int, accessFlags := 26, slot := 1, constantValue := 0 }, { name := "$assertionsDisabled", type := .boolean, accessFlags := 4120, slot := 2, constantValue := 0 }]
  methods := #[k3m0, k3m1, k3m2]
  instanceTypes := #[]
  staticTypes := #[.int, .int, .boolean]
  resolved := Array.replicate 1029 none
  statics := none }

def pool4 : Array CpInfo := pool [(1, .class_ 2), (0, u "java/lang/Math"), (1, .class_ 6), (1, u "java/lang/Object"), (0, u "<init>"), (0, u "()V"), (89, .class_ 100), (1, u "java/lang/Math$RandomNumberGeneratorHolder"), (71, u "negativeZeroFloatBits"), (0, u "J"), (2, u "negativeZeroDoubleBits"), (21, u "max"), (2, u "min"), (43, u "$assertionsDisabled"), (0, u "Z"), (88, u "(II)I"), (2, u "twoToTheDoubleScaleDown"), (0, u "D"), (4, u "twoToTheDoubleScaleUp"), (9, u "E"), (3, u "PI"), (2, u "TAU"), (2, u "DEGREES_TO_RADIANS"), (0, u "RADIANS_TO_DEGREES")] 94

def k4m0 : Method := { name := "<init>", desc := "()V", sig := { parameters := [], returnType := none }, accessFlags := 2, code := none }
def k4c1 : Code := { maxStack := 2, maxLocals := 2, code := jdk_29_method_65_code, exceptionTable := #[], attributes := #[] }
def k4m1 : Method := { name := "max", desc := "(II)I", sig := { parameters := [.int, .int], returnType := some .int }, accessFlags := 9, code := some k4c1 }
def k4c2 : Code := { maxStack := 2, maxLocals := 2, code := jdk_29_method_69_code, exceptionTable := #[], attributes := #[] }
def k4m2 : Method := { name := "min", desc := "(II)I", sig := { parameters := [.int, .int], returnType := some .int }, accessFlags := 9, code := some k4c2 }
/-- java/lang/Math -/
def k4 : Class := { plain "java/lang/Math" (some 0) with
  accessFlags := 49
  interfaces := #[]
  cf := some (fileOf pool4 1 #[.nestMembers #[98]] #[{ accessFlags := 2, nameIndex := 7, descriptorIndex := 8, attributes := #[] }, { accessFlags := 9, nameIndex := 198, descriptorIndex := 335, attributes := #[] }, { accessFlags := 9, nameIndex := 201, descriptorIndex := 335, attributes := #[] }] 49 4 #[] #[{ accessFlags := 25, nameIndex := 354, descriptorIndex := 339, attributes := #[] }, { accessFlags := 25, nameIndex := 358, descriptorIndex := 339, attributes := #[] }, { accessFlags := 25, nameIndex := 361, descriptorIndex := 339, attributes := #[] }, { accessFlags := 26, nameIndex := 364, descriptorIndex := 339, attributes := #[] }, { accessFlags := 26, nameIndex := 365, descriptorIndex := 339, attributes := #[] }, { accessFlags := 26, nameIndex := 172, descriptorIndex := 173, attributes := #[] }, { accessFlags := 26, nameIndex := 176, descriptorIndex := 173, attributes := #[] }, { accessFlags := 8, nameIndex := 344, descriptorIndex := 339, attributes := #[] }, { accessFlags := 8, nameIndex := 338, descriptorIndex := 339, attributes := #[] }, { accessFlags := 4120, nameIndex := 245, descriptorIndex := 246, attributes := #[] }])
  fields := #[{ name := "E", type := .double, accessFlags := 25, slot := 0, constantValue := 0 }, { name := "PI", type := .double, accessFlags := 25, slot := 1, constantValue := 0 }, { name := "TAU", type := .double, accessFlags := 25, slot := 2, constantValue := 0 }, { name := "DEGREES_TO_RADIANS", type := .double, accessFlags := 26, slot := 3, constantValue := 0 }, { name := "RADIANS_TO_DEGREES", type := .double, accessFlags := 26, slot := 4, constantValue := 0 }, { name := "negativeZeroFloatBits", type := .long, accessFlags := 26, slot := 5, constantValue := 0 }, { name := "negativeZeroDoubleBits", type := .long, accessFlags := 26, slot := 6, constantValue := 0 }, { name := "twoToTheDoubleScaleUp", type := .double, accessFlags := 8, slot := 7, constantValue := 0 }, { name := "twoToTheDoubleScaleDown", type := .double, accessFlags := 8, slot := 8, constantValue := 0 }, { name := "$assertionsDisabled", type := .boolean, accessFlags := 4120, slot := 9, constantValue := 0 }]
  methods := #[k4m0, k4m1, k4m2]
  instanceTypes := #[]
  staticTypes := #[.double, .double, .double, .double, .double, .long, .long, .double, .double, .boolean]
  resolved := Array.replicate 460 none
  statics := none }

def pool5 : Array CpInfo := pool [(2, .class_ 4), (1, u "java/lang/Object"), (0, u "<init>"), (0, u "()V"), (1, .class_ 10), (1, u "java/lang/System"), (0, u "allowSecurityManager"), (0, u "I"), (16, u "cons"), (0, u "Ljava/io/Console;"), (77, .class_ 110), (1, u "java/lang/System$CallersHolder"), (43, u "initialErrStream"), (0, u "Ljava/io/PrintStream;"), (19, u "security"), (0, u "Ljava/lang/SecurityManager;"), (31, .class_ 209), (0, u "java/lang/System$1"), (7, u "props"), (0, u "Ljava/util/Properties;"), (2, u "lineSeparator"), (0, u "Ljava/lang/String;"), (96, .class_ 321), (1, u "java/lang/System$LoggerFinder"), (5, .class_ 328), (0, u "java/lang/System$Logger"), (67, u "err"), (2, u "out"), (91, u "notSupportedJnuEncoding"), (15, u "in"), (17, u "initialIn"), (0, u "Ljava/io/InputStream;"), (35, u "bootLayer"), (0, u "Ljava/lang/ModuleLayer;"), (99, .class_ 664), (0, u "java/lang/System$2"), (9, u "NEVER"), (2, u "MAYBE"), (49, u "arraycopy"), (0, u "(Ljava/lang/Object;ILjava/lang/Object;II)V"), (72, .class_ 802), (0, u "java/lang/System$Logger$Level")] 31

def k5m0 : Method := { name := "<init>", desc := "()V", sig := { parameters := [], returnType := none }, accessFlags := 2, code := none }
def k5m1 : Method := { name := "arraycopy", desc := "(Ljava/lang/Object;ILjava/lang/Object;II)V", sig := { parameters := [(.object "java/lang/Object"), .int, (.object "java/lang/Object"), .int, .int], returnType := none }, accessFlags := 265, code := none }
/-- java/lang/System -/
def k5 : Class := { plain "java/lang/System" (some 0) with
  accessFlags := 49
  interfaces := #[]
  cf := some (fileOf pool5 8 #[.nestMembers #[319, 327, 801, 108, 663, 208]] #[{ accessFlags := 2, nameIndex := 5, descriptorIndex := 6, attributes := #[] }, { accessFlags := 265, nameIndex := 727, descriptorIndex := 728, attributes := #[] }] 49 2 #[] #[{ accessFlags := 25, nameIndex := 507, descriptorIndex := 526, attributes := #[] }, { accessFlags := 25, nameIndex := 399, descriptorIndex := 155, attributes := #[] }, { accessFlags := 25, nameIndex := 396, descriptorIndex := 155, attributes := #[] }, { accessFlags := 10, nameIndex := 525, descriptorIndex := 526, attributes := #[] }, { accessFlags := 26, nameIndex := 674, descriptorIndex := 12, attributes := #[] }, { accessFlags := 26, nameIndex := 677, descriptorIndex := 12, attributes := #[] }, { accessFlags := 10, nameIndex := 11, descriptorIndex := 12, attributes := #[] }, { accessFlags := 74, nameIndex := 175, descriptorIndex := 176, attributes := #[] }, { accessFlags := 10, nameIndex := 491, descriptorIndex := 222, attributes := #[] }, { accessFlags := 74, nameIndex := 29, descriptorIndex := 30, attributes := #[] }, { accessFlags := 74, nameIndex := 154, descriptorIndex := 155, attributes := #[] }, { accessFlags := 10, nameIndex := 217, descriptorIndex := 218, attributes := #[] }, { accessFlags := 10, nameIndex := 221, descriptorIndex := 222, attributes := #[] }, { accessFlags := 8, nameIndex := 562, descriptorIndex := 563, attributes := #[] }])
  fields := #[{ name := "in", type := (.object "java/io/InputStream"), accessFlags := 25, slot := 0, constantValue := 0 }, { name := "out", type := (.object "java/io/PrintStream"), accessFlags := 25, slot := 1, constantValue := 0 }, { name := "err", type := (.object "java/io/PrintStream"), accessFlags := 25, slot := 2, constantValue := 0 }, { name := "initialIn", type := (.object "java/io/InputStream"), accessFlags := 10, slot := 3, constantValue := 0 }, { name := "NEVER", type := .int, accessFlags := 26, slot := 4, constantValue := 0 }, { name := "MAYBE", type := .int, accessFlags := 26, slot := 5, constantValue := 0 }, { name := "allowSecurityManager", type := .int, accessFlags := 10, slot := 6, constantValue := 0 }, { name := "security", type := (.object "java/lang/SecurityManager"), accessFlags := 74, slot := 7, constantValue := 0 }, { name := "notSupportedJnuEncoding", type := (.object "java/lang/String"), accessFlags := 10, slot := 8, constantValue := 0 }, { name := "cons", type := (.object "java/io/Console"), accessFlags := 74, slot := 9, constantValue := 0 }, { name := "initialErrStream", type := (.object "java/io/PrintStream"), accessFlags := 74, slot := 10, constantValue := 0 }, { name := "props", type := (.object "java/util/Properties"), accessFlags := 10, slot := 11, constantValue := 0 }, { name := "lineSeparator", type := (.object "java/lang/String"), accessFlags := 10, slot := 12, constantValue := 0 }, { name := "bootLayer", type := (.object "java/lang/ModuleLayer"), accessFlags := 8, slot := 13, constantValue := 0 }]
  methods := #[k5m0, k5m1]
  instanceTypes := #[]
  staticTypes := #[(.object "java/io/InputStream"), (.object "java/io/PrintStream"), (.object "java/io/PrintStream"), (.object "java/io/InputStream"), .int, .int, .int, (.object "java/lang/SecurityManager"), (.object "java/lang/String"), (.object "java/io/Console"), (.object "java/io/PrintStream"), (.object "java/util/Properties"), (.object "java/lang/String"), (.object "java/lang/ModuleLayer")]
  resolved := Array.replicate 834 none
  statics := none }

def pool6 : Array CpInfo := pool [(1, u "java/lang/Cloneable"), (0, .class_ 1), (0, u "java/lang/Object"), (0, .class_ 3)] 3

/-- java/lang/Cloneable -/
def k6 : Class := { plain "java/lang/Cloneable" (some 0) with
  accessFlags := 1537
  interfaces := #[]
  cf := some (fileOf pool6 2 #[] #[] 1537 4 #[] #[])
  fields := #[]
  methods := #[]
  instanceTypes := #[]
  staticTypes := #[]
  resolved := Array.replicate 8 none
  statics := none }

def pool7 : Array CpInfo := pool [(1, u "java/io/Serializable"), (0, .class_ 1), (0, u "java/lang/Object"), (0, .class_ 3)] 3

/-- java/io/Serializable -/
def k7 : Class := { plain "java/io/Serializable" (some 0) with
  accessFlags := 1537
  interfaces := #[]
  cf := some (fileOf pool7 2 #[] #[] 1537 4 #[] #[])
  fields := #[]
  methods := #[]
  instanceTypes := #[]
  staticTypes := #[]
  resolved := Array.replicate 8 none
  statics := none }

/-- the primitive byte -/
def k8 : Class := { plain "byte" none with kind := .primitive 'B', accessFlags := 0x411 }
/-- [B -/
def k9 : Class := { plain "[B" (some 0) with kind := .array 8 .byte, interfaces := #[6, 7], accessFlags := 1041 }

/-- the primitive int -/
def k10 : Class := { plain "int" none with kind := .primitive 'I', accessFlags := 0x411 }
/-- [I -/
def k11 : Class := { plain "[I" (some 0) with kind := .array 10 .int, interfaces := #[6, 7], accessFlags := 1041 }

/-- the primitive long -/
def k12 : Class := { plain "long" none with kind := .primitive 'J', accessFlags := 0x411 }
/-- [J -/
def k13 : Class := { plain "[J" (some 0) with kind := .array 12 .long, interfaces := #[6, 7], accessFlags := 1041 }

def heap : Heap := #[]
def classes : Array Class := #[k0, k1, k2, k3, k4, k5, k6, k7, k8, k9, k10, k11, k12, k13]
def interned : List (Array UInt16 × Addr) := []
def slotsUsed : Nat := 0
def theMethod : MethodId := ⟨1, 1⟩
def args0 : Array Value := #[.int 5, .int 7, .long 2, .long 3, .int 7]
def aboutOver (below : List Frame) : State where
  vm := { classes := classes, interned := interned.toArray }
  heap := heap
  slotsUsed := slotsUsed
  threads := #[{ frames := .invoking theMethod args0 :: below }]
def below0 : List Frame := [.native { method := ⟨0, 0⟩, args := #[] }]
def about1 : State := aboutOver below0
def p0 : Program := .bare "" "" ""
def e0 : Env := launch0.env 0 0 0
theorem w_frames : about1.frames = Frame.invoking theMethod args0 :: below0 := rfl
set_option maxRecDepth 65536 in
theorem w_args : argsFit about1.vm theMethod args0 = true := by decide +kernel
set_option maxRecDepth 65536 in
theorem w_heap : heapFits about1 = true := by decide +kernel
set_option maxRecDepth 65536 in
theorem w_runnable : about1.curStatus? = some .runnable := by decide +kernel
set_option maxRecDepth 65536 in
theorem w_alone : about1.alone = true := by decide +kernel
set_option maxRecDepth 65536 in
theorem w_named : about1.methodNamed? x = some theMethod := by decide +kernel
set_option maxRecDepth 65536 in
theorem w_hears : about1.hears theMethod below0 = true := by decide +kernel
set_option maxRecDepth 65536 in
theorem w_ripe : about1.ripe theMethod args0 below0 = true := by decide +kernel
theorem w_running : about1.status = .running := rfl
set_option maxRecDepth 65536 in
theorem w_room : about1.hasRoom e0.platform room_1 = true :=
  launch0.hasRoom_least _ room_1 (by decide +kernel) (by decide +kernel) (by decide +kernel) (by decide +kernel) (by decide +kernel) (by decide +kernel)
theorem allAtoms_all (ts : List Jvm.Cond) (a : Array Jvm.Value) (st : Jvm.State) : (allAtoms ts).before a st = ts.all (fun c => c.before a st) := by
  induction ts with
  | nil => rfl
  | cons c t ih =>
    show (Jvm.Cond.and c (allAtoms t)).before a st = _
    rw [Jvm.Cond.before_and, ih, List.all_cons]
def words1 : List Jvm.Cond := Jvm.Cond.code x code maxLocals ret :: tables_1
/-- a 'code' word, met by the world's own term for the bytes: nothing is compared byte by byte -/
theorem code_word {y : MethodName} {bytes : ByteArray} {mx : Nat} {rt : Option FieldType} {a : Array Value} {s : State} {m : MethodId} {meth : Method} {c : Code} (h1 : s.methodNamed? y = some m) (h2 : s.vm.method? m = some meth) (h3 : meth.code = some c) (h4 : c.code = bytes)
    (h5 : (c.maxLocals == mx && c.exceptionTable.isEmpty && decide (c.maxStack ≤ mostOperands) && decide (meth.sig.returnType = rt) && !meth.locks && decide (parseMethodDescriptor y.desc = some meth.sig)) = true) : (Jvm.Cond.code y bytes mx rt).before a s = true := by
  simp only [Bool.and_eq_true, beq_iff_eq, Bool.not_eq_true', decide_eq_true_eq] at h5
  obtain ⟨⟨⟨⟨⟨g1, g2⟩, g3⟩, g4⟩, g5⟩, g6⟩ := h5
  simp [Cond.before, Cond.holds, Cond.value, h1, h2, h3, h4, g1, g2, g3, g4, g5, g6]
def isCode : Jvm.Cond → Bool
  | .code _ _ _ _ => true
  | _ => false
theorem all_split {L : List Jvm.Cond} {P : Jvm.Cond → Bool} (h1 : L.all (fun c => isCode c || P c) = true) (h2 : ∀ c ∈ L.filter isCode, P c = true) : L.all P = true := by
  refine List.all_eq_true.mpr fun c hc => ?_
  have h := List.all_eq_true.mp h1 c hc
  rcases Bool.eq_false_or_eq_true (isCode c) with hi | hi
  · exact h2 c (List.mem_filter.mpr ⟨hc, hi⟩)
  · simpa [hi] using h
set_option maxRecDepth 65536 in
theorem w_c0 : (Jvm.Cond.code x code maxLocals ret).before args0 about1 = true := code_word (m := ⟨1, 1⟩) (meth := k1m1) (c := k1c1) (by decide +kernel) rfl rfl rfl (by decide +kernel)
set_option maxRecDepth 65536 in
theorem w_c1 : (Jvm.Cond.code ({ cls := "com/example/volens/volens/core/agent/TurnQueue", name := "<init>", desc := "()V" } : Jvm.MethodName) prog_28_method_1_code (1 : Nat) (Option.none : Option Jvm.ClassFile.FieldType)).before args0 about1 = true := code_word (m := ⟨2, 0⟩) (meth := k2m0) (c := k2c0) (by decide +kernel) rfl rfl rfl (by decide +kernel)
set_option maxRecDepth 65536 in
theorem w_c2 : (Jvm.Cond.code ({ cls := "java/lang/Object", name := "<init>", desc := "()V" } : Jvm.MethodName) object_method_1_code (1 : Nat) (Option.none : Option Jvm.ClassFile.FieldType)).before args0 about1 = true := code_word (m := ⟨0, 0⟩) (meth := k0m0) (c := k0c0) (by decide +kernel) rfl rfl rfl (by decide +kernel)
set_option maxRecDepth 65536 in
theorem w_c3 : (Jvm.Cond.code ({ cls := "com/example/volens/volens/core/agent/TurnQueue", name := "newPlaces", desc := "(I)[I" } : Jvm.MethodName) prog_28_method_11_code (2 : Nat) (Option.some (Jvm.ClassFile.FieldType.array Jvm.ClassFile.FieldType.int))).before args0 about1 = true := code_word (m := ⟨2, 9⟩) (meth := k2m9) (c := k2c9) (by decide +kernel) rfl rfl rfl (by decide +kernel)
set_option maxRecDepth 65536 in
theorem w_c4 : (Jvm.Cond.code ({ cls := "java/util/Arrays", name := "fill", desc := "([II)V" } : Jvm.MethodName) jdk_65_method_103_code (4 : Nat) (Option.none : Option Jvm.ClassFile.FieldType)).before args0 about1 = true := code_word (m := ⟨3, 1⟩) (meth := k3m1) (c := k3c1) (by decide +kernel) rfl rfl rfl (by decide +kernel)
set_option maxRecDepth 65536 in
theorem w_c5 : (Jvm.Cond.code ({ cls := "com/example/volens/volens/core/agent/TurnQueue", name := "isEmpty", desc := "()Z" } : Jvm.MethodName) prog_28_method_2_code (1 : Nat) (Option.some Jvm.ClassFile.FieldType.boolean)).before args0 about1 = true := code_word (m := ⟨2, 1⟩) (meth := k2m1) (c := k2c1) (by decide +kernel) rfl rfl rfl (by decide +kernel)
set_option maxRecDepth 65536 in
theorem w_c6 : (Jvm.Cond.code ({ cls := "com/example/volens/volens/core/agent/TurnQueue", name := "set", desc := "(IJ)V" } : Jvm.MethodName) prog_28_method_4_code (4 : Nat) (Option.none : Option Jvm.ClassFile.FieldType)).before args0 about1 = true := code_word (m := ⟨2, 2⟩) (meth := k2m2) (c := k2c2) (by decide +kernel) rfl rfl rfl (by decide +kernel)
set_option maxRecDepth 65536 in
theorem w_c7 : (Jvm.Cond.code ({ cls := "com/example/volens/volens/core/agent/TurnQueue", name := "rise", desc := "(II)V" } : Jvm.MethodName) prog_28_method_6_code (5 : Nat) (Option.none : Option Jvm.ClassFile.FieldType)).before args0 about1 = true := code_word (m := ⟨2, 4⟩) (meth := k2m4) (c := k2c4) (by decide +kernel) rfl rfl rfl (by decide +kernel)
set_option maxRecDepth 65536 in
theorem w_c8 : (Jvm.Cond.code ({ cls := "com/example/volens/volens/core/agent/TurnQueue", name := "put", desc := "(II)V" } : Jvm.MethodName) prog_28_method_8_code (3 : Nat) (Option.none : Option Jvm.ClassFile.FieldType)).before args0 about1 = true := code_word (m := ⟨2, 6⟩) (meth := k2m6) (c := k2c6) (by decide +kernel) rfl rfl rfl (by decide +kernel)
set_option maxRecDepth 65536 in
theorem w_c9 : (Jvm.Cond.code ({ cls := "java/lang/Math", name := "min", desc := "(II)I" } : Jvm.MethodName) jdk_29_method_69_code (2 : Nat) (Option.some Jvm.ClassFile.FieldType.int)).before args0 about1 = true := code_word (m := ⟨4, 2⟩) (meth := k4m2) (c := k4c2) (by decide +kernel) rfl rfl rfl (by decide +kernel)
set_option maxRecDepth 65536 in
theorem w_c10 : (Jvm.Cond.code ({ cls := "com/example/volens/volens/core/agent/TurnQueue", name := "grow", desc := "(I)V" } : Jvm.MethodName) prog_28_method_10_code (4 : Nat) (Option.none : Option Jvm.ClassFile.FieldType)).before args0 about1 = true := code_word (m := ⟨2, 8⟩) (meth := k2m8) (c := k2c8) (by decide +kernel) rfl rfl rfl (by decide +kernel)
set_option maxRecDepth 65536 in
theorem w_c11 : (Jvm.Cond.code ({ cls := "java/lang/Math", name := "max", desc := "(II)I" } : Jvm.MethodName) jdk_29_method_65_code (2 : Nat) (Option.some Jvm.ClassFile.FieldType.int)).before args0 about1 = true := code_word (m := ⟨4, 1⟩) (meth := k4m1) (c := k4c1) (by decide +kernel) rfl rfl rfl (by decide +kernel)
set_option maxRecDepth 65536 in
theorem w_c12 : (Jvm.Cond.code ({ cls := "java/util/Arrays", name := "copyOf", desc := "([JI)[J" } : Jvm.MethodName) jdk_65_method_124_code (3 : Nat) (Option.some (Jvm.ClassFile.FieldType.array Jvm.ClassFile.FieldType.long))).before args0 about1 = true := code_word (m := ⟨3, 2⟩) (meth := k3m2) (c := k3c2) (by decide +kernel) rfl rfl rfl (by decide +kernel)
set_option maxRecDepth 65536 in
theorem w_c13 : (Jvm.Cond.code ({ cls := "com/example/volens/volens/core/agent/TurnQueue", name := "before", desc := "(II)Z" } : Jvm.MethodName) prog_28_method_9_code (3 : Nat) (Option.some Jvm.ClassFile.FieldType.boolean)).before args0 about1 = true := code_word (m := ⟨2, 7⟩) (meth := k2m7) (c := k2c7) (by decide +kernel) rfl rfl rfl (by decide +kernel)
set_option maxRecDepth 65536 in
theorem w_c14 : (Jvm.Cond.code ({ cls := "com/example/volens/volens/core/agent/TurnQueue", name := "takeFirst", desc := "()I" } : Jvm.MethodName) prog_28_method_5_code (2 : Nat) (Option.some Jvm.ClassFile.FieldType.int)).before args0 about1 = true := code_word (m := ⟨2, 3⟩) (meth := k2m3) (c := k2c3) (by decide +kernel) rfl rfl rfl (by decide +kernel)
set_option maxRecDepth 65536 in
theorem w_c15 : (Jvm.Cond.code ({ cls := "com/example/volens/volens/core/agent/TurnQueue", name := "sink", desc := "(II)V" } : Jvm.MethodName) prog_28_method_7_code (7 : Nat) (Option.none : Option Jvm.ClassFile.FieldType)).before args0 about1 = true := code_word (m := ⟨2, 5⟩) (meth := k2m5) (c := k2c5) (by decide +kernel) rfl rfl rfl (by decide +kernel)
def codes1 : List Jvm.Cond := [Jvm.Cond.code x code maxLocals ret, Jvm.Cond.code ({ cls := "com/example/volens/volens/core/agent/TurnQueue", name := "<init>", desc := "()V" } : Jvm.MethodName) prog_28_method_1_code (1 : Nat) (Option.none : Option Jvm.ClassFile.FieldType), Jvm.Cond.code ({ cls := "java/lang/Object", name := "<init>", desc := "()V" } : Jvm.MethodName) object_method_1_code (1 : Nat) (Option.none : Option Jvm.ClassFile.FieldType), Jvm.Cond.code ({ cls := "com/example/volens/volens/core/agent/TurnQueue", name := "newPlaces", desc := "(I)[I" } : Jvm.MethodName) prog_28_method_11_code (2 : Nat) (Option.some (Jvm.ClassFile.FieldType.array Jvm.ClassFile.FieldType.int)), Jvm.Cond.code ({ cls := "java/util/Arrays", name := "fill", desc := "([II)V" } : Jvm.MethodName) jdk_65_method_103_code (4 : Nat) (Option.none : Option Jvm.ClassFile.FieldType), Jvm.Cond.code ({ cls := "com/example/volens/volens/core/agent/TurnQueue", name := "isEmpty", desc := "()Z" } : Jvm.MethodName) prog_28_method_2_code (1 : Nat) (Option.some Jvm.ClassFile.FieldType.boolean), Jvm.Cond.code ({ cls := "com/example/volens/volens/core/agent/TurnQueue", name := "set", desc := "(IJ)V" } : Jvm.MethodName) prog_28_method_4_code (4 : Nat) (Option.none : Option Jvm.ClassFile.FieldType), Jvm.Cond.code ({ cls := "com/example/volens/volens/core/agent/TurnQueue", name := "rise", desc := "(II)V" } : Jvm.MethodName) prog_28_method_6_code (5 : Nat) (Option.none : Option Jvm.ClassFile.FieldType), Jvm.Cond.code ({ cls := "com/example/volens/volens/core/agent/TurnQueue", name := "put", desc := "(II)V" } : Jvm.MethodName) prog_28_method_8_code (3 : Nat) (Option.none : Option Jvm.ClassFile.FieldType), Jvm.Cond.code ({ cls := "java/lang/Math", name := "min", desc := "(II)I" } : Jvm.MethodName) jdk_29_method_69_code (2 : Nat) (Option.some Jvm.ClassFile.FieldType.int), Jvm.Cond.code ({ cls := "com/example/volens/volens/core/agent/TurnQueue", name := "grow", desc := "(I)V" } : Jvm.MethodName) prog_28_method_10_code (4 : Nat) (Option.none : Option Jvm.ClassFile.FieldType), Jvm.Cond.code ({ cls := "java/lang/Math", name := "max", desc := "(II)I" } : Jvm.MethodName) jdk_29_method_65_code (2 : Nat) (Option.some Jvm.ClassFile.FieldType.int), Jvm.Cond.code ({ cls := "java/util/Arrays", name := "copyOf", desc := "([JI)[J" } : Jvm.MethodName) jdk_65_method_124_code (3 : Nat) (Option.some (Jvm.ClassFile.FieldType.array Jvm.ClassFile.FieldType.long)), Jvm.Cond.code ({ cls := "com/example/volens/volens/core/agent/TurnQueue", name := "before", desc := "(II)Z" } : Jvm.MethodName) prog_28_method_9_code (3 : Nat) (Option.some Jvm.ClassFile.FieldType.boolean), Jvm.Cond.code ({ cls := "com/example/volens/volens/core/agent/TurnQueue", name := "takeFirst", desc := "()I" } : Jvm.MethodName) prog_28_method_5_code (2 : Nat) (Option.some Jvm.ClassFile.FieldType.int), Jvm.Cond.code ({ cls := "com/example/volens/volens/core/agent/TurnQueue", name := "sink", desc := "(II)V" } : Jvm.MethodName) prog_28_method_7_code (7 : Nat) (Option.none : Option Jvm.ClassFile.FieldType)]
set_option maxRecDepth 65536 in
theorem codes_eq : words1.filter isCode = codes1 := rfl
theorem w_codes : ∀ c ∈ words1.filter isCode, c.before args0 about1 = true := by
  rw [codes_eq]
  intro c hc
  simp only [codes1, List.mem_cons, List.not_mem_nil, or_false] at hc
  rcases hc with rfl | rfl | rfl | rfl | rfl | rfl | rfl | rfl | rfl | rfl | rfl | rfl | rfl | rfl | rfl | rfl
  · exact w_c0
  · exact w_c1
  · exact w_c2
  · exact w_c3
  · exact w_c4
  · exact w_c5
  · exact w_c6
  · exact w_c7
  · exact w_c8
  · exact w_c9
  · exact w_c10
  · exact w_c11
  · exact w_c12
  · exact w_c13
  · exact w_c14
  · exact w_c15
set_option maxRecDepth 65536 in
theorem w_t1 : (words1.take 24).all (fun c => isCode c || c.before args0 about1) = true := by decide +kernel
set_option maxRecDepth 65536 in
theorem w_t2 : ((words1.drop 24).take 24).all (fun c => isCode c || c.before args0 about1) = true := by decide +kernel
set_option maxRecDepth 65536 in
theorem w_t3 : (((words1.drop 24).drop 24).take 24).all (fun c => isCode c || c.before args0 about1) = true := by decide +kernel
set_option maxRecDepth 65536 in
theorem w_t4 : (((words1.drop 24).drop 24).drop 24).all (fun c => isCode c || c.before args0 about1) = true := by decide +kernel
theorem w_tables : (allAtoms (Jvm.Cond.code x code maxLocals ret :: tables_1)).before args0 about1 = true := by
  rw [allAtoms_all]
  show words1.all (fun c => c.before args0 about1) = true
  refine all_split ?_ w_codes
  rw [← List.take_append_drop 24 words1, List.all_append, w_t1, ← List.take_append_drop 24 (words1.drop 24), List.all_append, w_t2, ← List.take_append_drop 24 ((words1.drop 24).drop 24), List.all_append, w_t3, w_t4]
  rfl
set_option maxRecDepth 65536 in
theorem w_case : (Jvm.Cond.and given_1 narrow_1).before args0 about1 = true := by decide +kernel
theorem w_applies : (headSpec (Jvm.Cond.code x code maxLocals ret :: tables_1) room_1).applies x e0.platform about1 = true :=
  (Spec.applies_iff w_frames).mpr ⟨w_running, w_runnable, w_alone, w_named, w_hears, w_ripe, w_room, w_tables⟩
theorem atStart : AtStart classFile x code maxLocals ret World_1 tables_1 room_1 Calls_1 rest_1 Pre_1 launch0 p0 e0 about1 theMethod args0 below0 :=
  ⟨lists_1, trivial, launch0.admits_env _ _ _, launch0.least_env, fairChoices_fair.cas, fairChoices_fair.clock, w_frames, w_args, w_heap, w_applies, trivial, trivial, w_case⟩
end start1
theorem witness_1 : WitnessClaimed_1 := ⟨start1.p0, start1.e0, start1.about1, start1.theMethod, start1.args0, start1.below0, start1.atStart⟩
end Jvm.Pilot.@@N@@
