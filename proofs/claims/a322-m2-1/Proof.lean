import JvmDerived
import JvmDerived.Pilot.@@N@@Statement
import JvmDerived.Pilot.@@N@@Code
set_option linter.unusedVariables false
set_option linter.unusedSimpArgs false
namespace Jvm.Pilot.@@N@@
open Jvm Jvm.ClassFile Sem Op Lib Jvm.Free Jvm.Stand Jvm.LawKit Jvm.RoadKit Bundle Jvm.Pilot.@@N@@.Jvm.D
section Own
variable {p : Program} {l : Launch} {e : Env} {R : Room} {s : State} {m : MethodId} {args : Array Value} {below : List Frame} {meth : Method} {c : Code} {T : State} {locs : List Loc} {cells slots : Nat} {Z : State} {a0 : Array Value} {h : Heap}
/-- the run from A ends by returning, Q holds of what it returned and of the heap, and no more than k cells and n slots are new -/
def OwnEnd (p : Program) (e : Env) (below : List Frame) (s : State) (Q : Option Value → Heap → List Loc → Prop) (k n : Nat) (A : State) : Prop :=
  ∃ t o, Steps p.tables e below A t ∧ t.status = .running ∧ Ended t below o ∧ ∃ v L, o = .returned v ∧ Q v t.heap L ∧ FrameEnd s o t L k n
theorem OwnEnd.go {Q : Option Value → Heap → List Loc → Prop} {k n : Nat} {A B : State} (st : ∀ t, Steps p.tables e below B t → Steps p.tables e below A t) (K : OwnEnd p e below s Q k n B) : OwnEnd p e below s Q k n A := by
  obtain ⟨t, o, h1, h2⟩ := K
  exact ⟨t, o, st t h1, h2⟩
theorem OwnEnd.stop {Q : Option Value → Heap → List Loc → Prop} {k n : Nat} {A : State} (X : Stand p l e R s m args below meth c T locs cells slots) (hlk : meth.locks = false) {v : Option Value} (hv : meth.sig.returnType = none → v = none)
    (st : ∀ fs, (∀ (f : JFrame) (acts : List Action), f.method = m → f.locked = none → f.entered = [] → (doReturn e (T.setTop f) acts v).1 = T.setFrames fs) → Steps p.tables e below A (T.setFrames fs))
    (hk : cells ≤ k) (hn : slots ≤ n) (hQ : Q v T.heap locs) : OwnEnd p e below s Q k n A := by
  obtain ⟨fs, hr, hrun, hended, hW, hsame⟩ := X.leave hv hlk
  exact ⟨_, _, st fs hr, hrun, hended, _, _, rfl, hQ, ⟨_, rfl⟩, hW, hsame.mono hk hn⟩
theorem OwnEnd.weak {Q Q' : Option Value → Heap → List Loc → Prop} {k n : Nat} {A : State} (K : OwnEnd p e below s Q k n A) (q : ∀ v h L, Q v h L → Q' v h L) : OwnEnd p e below s Q' k n A := by
  obtain ⟨t, o, h1, h2, h3, v, L, h4, h5, h6⟩ := K
  exact ⟨t, o, h1, h2, h3, v, L, h4, q _ _ _ h5, h6⟩
/-- the returns -/
theorem ownRetI {Q : Option Value → Heap → List Loc → Prop} {k n : Nat} (X : Stand p l e R s m args below meth c T locs cells slots) (hx : p.tables.exec = Jvm.exec) (hlk : meth.locks = false) {pc : Nat} {Ls : Array Slot} {z : Int32} {rest : List Value} (hret : meth.sig.returnType = some .int) (hd : decode c.code pc = .ok (.ireturn, 1))
    (hk : cells ≤ k) (hn : slots ≤ n) (hQ : Q (some (.int z)) T.heap locs) : OwnEnd p e below s Q k n (T.setTop (mkF m pc Ls (.int z :: rest))) :=
  OwnEnd.stop X hlk (fun q => by rw [hret] at q; cases q) (fun fs hr => retOut X hx hret rfl (Or.inl ⟨rfl, Or.inl rfl, z, rfl⟩) hd hr) hk hn hQ
theorem ownRetZ {Q : Option Value → Heap → List Loc → Prop} {k n : Nat} (X : Stand p l e R s m args below meth c T locs cells slots) (hx : p.tables.exec = Jvm.exec) (hlk : meth.locks = false) {pc : Nat} {Ls : Array Slot} {z : Int32} {rest : List Value} (hret : meth.sig.returnType = some .boolean) (hd : decode c.code pc = .ok (.ireturn, 1))
    (hk : cells ≤ k) (hn : slots ≤ n) (w : Int32) (hw : nar .boolean z = w) (hQ : Q (some (.int w)) T.heap locs) : OwnEnd p e below s Q k n (T.setTop (mkF m pc Ls (.int z :: rest))) :=
  OwnEnd.stop X hlk (fun q => by rw [hret] at q; cases q) (fun fs hr => retN X hx (t := .boolean) hret (by simp) hd (by rw [hw]; exact hr)) hk hn hQ
theorem ownRetJ {Q : Option Value → Heap → List Loc → Prop} {k n : Nat} (X : Stand p l e R s m args below meth c T locs cells slots) (hx : p.tables.exec = Jvm.exec) (hlk : meth.locks = false) {pc : Nat} {Ls : Array Slot} {z : Int64} {rest : List Value} (hret : meth.sig.returnType = some .long) (hd : decode c.code pc = .ok (.lreturn, 1))
    (hk : cells ≤ k) (hn : slots ≤ n) (hQ : Q (some (.long z)) T.heap locs) : OwnEnd p e below s Q k n (T.setTop (mkF m pc Ls (.long z :: rest))) :=
  OwnEnd.stop X hlk (fun q => by rw [hret] at q; cases q) (fun fs hr => retOut X hx hret rfl (Or.inr (Or.inl ⟨rfl, rfl, z, rfl⟩)) hd hr) hk hn hQ
theorem ownRetA {Q : Option Value → Heap → List Loc → Prop} {k n : Nat} (X : Stand p l e R s m args below meth c T locs cells slots) (hx : p.tables.exec = Jvm.exec) (hlk : meth.locks = false) {pc : Nat} {Ls : Array Slot} {w : Value} {rest : List Value} {t : FieldType} (hret : meth.sig.returnType = some t) (ht : t.isReference = true) (hw : w.isRef = true) (hn' : narrow t w = w) (hd : decode c.code pc = .ok (.areturn, 1))
    (hk : cells ≤ k) (hn : slots ≤ n) (hQ : Q (some w) T.heap locs) : OwnEnd p e below s Q k n (T.setTop (mkF m pc Ls (w :: rest))) :=
  OwnEnd.stop X hlk (fun q => by rw [hret] at q; cases q) (fun fs hr => retOut X hx hret hn' (Or.inr (Or.inr (Or.inr (Or.inr ⟨rfl, ht, hw⟩)))) hd hr) hk hn hQ
theorem ownRetV {Q : Option Value → Heap → List Loc → Prop} {k n : Nat} (X : Stand p l e R s m args below meth c T locs cells slots) (hx : p.tables.exec = Jvm.exec) (hlk : meth.locks = false) {pc : Nat} {Ls : Array Slot} (hret : meth.sig.returnType = none) (hd : decode c.code pc = .ok (.return_, 1))
    (hk : cells ≤ k) (hn : slots ≤ n) (hQ : Q none T.heap locs) : OwnEnd p e below s Q k n (T.setTop (mkF m pc Ls [])) :=
  OwnEnd.stop X hlk (fun _ => rfl) (fun fs hr => X.returnOut hx hret hd hr) hk hn hQ
/-- the calls, each by the callee's own theorem -/
theorem ownCallS (X : Stand p l e R s m args below meth c T locs cells slots) (hx : p.tables.exec = Jvm.exec) (hZ : Z.Warmed39 s.vm) {own : String} {index : Nat} {y : MethodName} {bytes : ByteArray} {maxL : Nat} {ret : Option FieldType} {rm : Room} {as' : Array Value} {Q : Option Value → Heap → List Loc → Prop} (hown : s.vm.findClass own = some m.cls)
    (w1 : (Cond.methodLink own index y).before a0 Z = true) (w2 : (Cond.static y).before a0 Z = true) (w3 : (Cond.initialized y.cls).before a0 Z = true) (w4 : (Cond.code y bytes maxL ret).before a0 Z = true) (hy : y.cls ≠ "java/lang/invoke/MethodHandle" ∧ y.cls ≠ "java/lang/invoke/VarHandle")
    (hM : MetFree l y (head1 [Cond.code y bytes maxL ret] rm) (fun a U => a = as' ∧ Z.Warmed39 U.vm ∧ U.heap = h) (fun _ _ _ _ _ => True) (fun _ U o U' => ∃ v L, o = .returned v ∧ Q v U'.heap L ∧ FrameEnd U o U' L rm.cells rm.slots)) (eT : T.heap = h)
    (W : Nat) (hf : rm.frames + 1 ≤ R.frames) (hl : W + (maxL + 11) + rm.locals ≤ R.locals) (hc : cells + rm.cells ≤ R.cells) (hs : slots + rm.slots ≤ R.slots) {g : JFrame} (hg : g.method = m) (hsize : g.locals.size = c.maxLocals) {argsL rest : List Value} (hlen : ∀ sig, parseMethodDescriptor y.desc = some sig → argsL.length = sig.parameters.length)
    (hstack : g.stack = argsL.reverse ++ rest) (has : argsL.toArray = as') (hW : 2 * g.monitorRoom + (rest.map fun v => v.category).sum ≤ W) (hdg : decode c.code g.pc = .ok (.invokestatic index, 3)) :
    ∃ (v : Option Value) (T' : State) (L : List Loc), Stand p l e R s m args below meth c T' (locs ++ L) (cells + rm.cells) (slots + rm.slots) ∧ Q v T'.heap L ∧ ∀ target, Steps p.tables e below (T'.setTop { g with pc := g.pc + 3, stack := v.toList ++ rest }) target → Steps p.tables e below (T.setTop g) target := by
  obtain ⟨v, vm₁, ⟨T', L', k', n'⟩, -, X', ⟨L, hQ, l', y', z'⟩, st⟩ := Jvm.LawKit.callS X hx hown (mvT hZ w1) (mvT hZ w2) (mvT hZ w3) (mvT hZ w4) hy (backOf (W := W) hM hZ w4 w3 hf hl) hg hsize hlen hstack hW hdg (fun _ _ => ⟨has, eT, hc, hs⟩)
  dsimp only [Pt.U, Pt.locs, Pt.cells, Pt.slots] at X' l' y' z' st hQ
  subst l' y' z'
  exact ⟨v, T', L, X', hQ, st⟩
theorem ownCallV (X : Stand p l e R s m args below meth c T locs cells slots) (hx : p.tables.exec = Jvm.exec) (hZ : Z.Warmed39 s.vm) {own C : String} {index : Nat} {y : MethodName} {bytes : ByteArray} {maxL : Nat} {ret : Option FieldType} {rm : Room} {as' : Array Value} {Q : Option Value → Heap → List Loc → Prop} (hown : s.vm.findClass own = some m.cls)
    (w1 : (Cond.methodLink own index y).before a0 Z = true) (w2 : (Cond.declares y).before a0 Z = true) (w5 : (Cond.selects C y y).before a0 Z = true) (w6 : (Cond.instanceMethod y).before a0 Z = true) (w3 : (Cond.initialized y.cls).before a0 Z = true) (w4 : (Cond.code y bytes maxL ret).before a0 Z = true) (hy : y.cls ≠ "java/lang/invoke/MethodHandle" ∧ y.cls ≠ "java/lang/invoke/VarHandle")
    (hM : MetFree l y (head1 [Cond.code y bytes maxL ret] rm) (fun a U => a = as' ∧ Z.Warmed39 U.vm ∧ U.heap = h) (fun _ _ _ _ _ => True) (fun _ U o U' => ∃ v L, o = .returned v ∧ Q v U'.heap L ∧ FrameEnd U o U' L rm.cells rm.slots)) (eT : T.heap = h) {b : Addr} (E : Exa Z h b C)
    (W : Nat) (hf : rm.frames + 1 ≤ R.frames) (hl : W + (maxL + 11) + rm.locals ≤ R.locals) (hc : cells + rm.cells ≤ R.cells) (hs : slots + rm.slots ≤ R.slots) {g : JFrame} (hg : g.method = m) (hsize : g.locals.size = c.maxLocals) {argsL rest : List Value} (hlen : ∀ sig, parseMethodDescriptor y.desc = some sig → argsL.length = sig.parameters.length)
    (hstack : g.stack = argsL.reverse ++ .ref b :: rest) (has : (.ref b :: argsL).toArray = as') (hW : 2 * g.monitorRoom + (rest.map fun v => v.category).sum ≤ W) (hdg : decode c.code g.pc = .ok (.invokevirtual index, 3)) :
    ∃ (v : Option Value) (T' : State) (L : List Loc), Stand p l e R s m args below meth c T' (locs ++ L) (cells + rm.cells) (slots + rm.slots) ∧ Q v T'.heap L ∧ ∀ target, Steps p.tables e below (T'.setTop { g with pc := g.pc + 3, stack := v.toList ++ rest }) target → Steps p.tables e below (T.setTop g) target := by
  obtain ⟨cq, kq, qa, qb, qc⟩ := isOf hZ eT E
  obtain ⟨v, vm₁, ⟨T', L', k', n'⟩, -, X', ⟨L, hQ, l', y', z'⟩, st⟩ := X.virtualBack hx hown (mvT hZ w1) (mvT hZ w2) (notFace_of_selects (args := #[]) (mvT hZ w5)) (mvT hZ w5) (mvT hZ w6) hy (backOf (W := W) hM hZ w4 w3 hf hl) qa qc hg hsize (Steps.refl _) hlen hstack hW hdg (fun _ _ => ⟨has, eT, hc, hs⟩)
  dsimp only [Pt.U, Pt.locs, Pt.cells, Pt.slots] at X' l' y' z' st hQ
  subst l' y' z'
  exact ⟨v, T', L, X', hQ, fun _ k => st.trans k⟩
theorem ownCallI (X : Stand p l e R s m args below meth c T locs cells slots) (hx : p.tables.exec = Jvm.exec) (hZ : Z.Warmed39 s.vm) {own : String} {index : Nat} {y : MethodName} {bytes : ByteArray} {maxL : Nat} {rm : Room} {as' : Array Value} {Q : Option Value → Heap → List Loc → Prop} (hown : s.vm.findClass own = some m.cls) (hy1 : y.name = "<init>")
    (w1 : (Cond.methodLink own index y).before a0 Z = true) (w6 : (Cond.instanceMethod y).before a0 Z = true) (w3 : (Cond.initialized y.cls).before a0 Z = true) (w4 : (Cond.code y bytes maxL none).before a0 Z = true) (hy : y.cls ≠ "java/lang/invoke/MethodHandle" ∧ y.cls ≠ "java/lang/invoke/VarHandle")
    (hM : MetFree l y (head1 [Cond.code y bytes maxL none] rm) (fun a U => a = as' ∧ Z.Warmed39 U.vm ∧ U.heap = h) (fun _ _ _ _ _ => True) (fun _ U o U' => ∃ v L, o = .returned v ∧ Q v U'.heap L ∧ FrameEnd U o U' L rm.cells rm.slots)) (eT : T.heap = h) {b : Addr}
    (W : Nat) (hf : rm.frames + 1 ≤ R.frames) (hl : W + (maxL + 11) + rm.locals ≤ R.locals) (hc : cells + rm.cells ≤ R.cells) (hs : slots + rm.slots ≤ R.slots) {g : JFrame} (hg : g.method = m) (hsize : g.locals.size = c.maxLocals) {argsL rest : List Value} (hlen : ∀ sig, parseMethodDescriptor y.desc = some sig → argsL.length = sig.parameters.length)
    (hstack : g.stack = argsL.reverse ++ .ref b :: rest) (has : (.ref b :: argsL).toArray = as') (hW : 2 * g.monitorRoom + (rest.map fun v => v.category).sum ≤ W) (hdg : decode c.code g.pc = .ok (.invokespecial index, 3)) :
    ∃ (v : Option Value) (T' : State) (L : List Loc), Stand p l e R s m args below meth c T' (locs ++ L) (cells + rm.cells) (slots + rm.slots) ∧ Q v T'.heap L ∧ ∀ target, Steps p.tables e below (T'.setTop { g with pc := g.pc + 3, stack := v.toList ++ rest }) target → Steps p.tables e below (T.setTop g) target := by
  obtain ⟨v, vm₁, ⟨T', L', k', n'⟩, -, X', ⟨L, hQ, l', y', z'⟩, st⟩ := X.specialBack hx hy1 hown (mvT hZ w1) (mvT hZ w6) (mvT hZ w4) hy (backOf (W := W) hM hZ w4 w3 hf hl) hg hsize (Steps.refl _) hlen hstack hW hdg (fun _ _ => ⟨has, eT, hc, hs⟩)
  dsimp only [Pt.U, Pt.locs, Pt.cells, Pt.slots] at X' l' y' z' st hQ
  subst l' y' z'
  exact ⟨v, T', L, X', hQ, fun _ k => st.trans k⟩
end Own
section Own2
variable {p : Program} {l : Launch} {e : Env} {R : Room} {s : State} {m : MethodId} {args : Array Value} {below : List Frame} {meth : Method} {c : Code} {T : State} {locs : List Loc} {cells slots : Nat} {Z : State} {a0 : Array Value} {h : Heap}
/-- branches behind lcmp -/
theorem ownLt {x y : Int64} (q : x < y) : ifCond.holds .lt (lcmpW x y) = true ∧ ifCond.holds .ge (lcmpW x y) = false ∧ ifCond.holds .gt (lcmpW y x) = true ∧ ifCond.holds .le (lcmpW y x) = false := by
  simp only [if0]
  have h1 : lcmpW x y < 0 := by rw [lcW]; exact (lc_lt x y).2 q
  have h2 : 0 < lcmpW y x := by rw [lcW]; exact (lc_gt y x).2 q
  exact ⟨(tlt h1).1, (tlt h1).2.1, (tlt h2).2.2.1, (tlt h2).2.2.2⟩
theorem ownNlt {x y : Int64} (q : ¬ x < y) : ifCond.holds .lt (lcmpW x y) = false ∧ ifCond.holds .ge (lcmpW x y) = true ∧ ifCond.holds .gt (lcmpW y x) = false ∧ ifCond.holds .le (lcmpW y x) = true := by
  simp only [if0]
  have h1 : ¬ lcmpW x y < 0 := by rw [lcW]; exact fun z => q ((lc_lt x y).1 z)
  have h2 : ¬ 0 < lcmpW y x := by rw [lcW]; exact fun z => q ((lc_gt y x).1 z)
  exact ⟨(flt h1).1, (flt h1).2.1, (flt h2).2.2.1, (flt h2).2.2.2⟩
theorem ownEq {x y : Int64} (q : x = y) : ifCond.holds .eq (lcmpW x y) = true ∧ ifCond.holds .ne (lcmpW x y) = false := by
  simp only [if0]
  have h1 : lcmpW x y = 0 := by rw [lcW]; exact (lc_eq x y).2 q
  exact teq h1
theorem ownNeq {x y : Int64} (q : ¬ x = y) : ifCond.holds .eq (lcmpW x y) = false ∧ ifCond.holds .ne (lcmpW x y) = true := by
  simp only [if0]
  have h1 : ¬ lcmpW x y = 0 := by rw [lcW]; exact fun z => q ((lc_eq x y).1 z)
  exact feq h1
theorem ownLrem {tb : Tables} [Ours tb] {e : Env} {below : List Frame} {T target : State} {m : MethodId} {c : Code} {g : JFrame} (h : At T m c below) (hx : tb.exec = Jvm.exec) (hg : g.method = m) {x y : Int64} {rest : List Value} (hd : decode c.code g.pc = .ok (.lrem, 1)) (hs : g.stack = .long y :: .long x :: rest) (hy : y ≠ 0)
    (hr : Steps tb e below (T.setTop { g with pc := g.pc + 1, stack := .long (x % y) :: rest }) target) : Steps tb e below (T.setTop g) target :=
  XS.lrem h hx hg hd hs hy (by rw [lrem_mod]; exact hr)
theorem ownLen (X : Stand p l e R s m args below meth c T locs cells slots) (hx : p.tables.exec = Jvm.exec) (hZ : Z.Warmed39 s.vm) (eT : T.heap = h) {a : Addr} {cl : Cell} {ty : FieldType} {z : Int32} (A : Arr Z h a cl ty) (S : cl.slots.size = z.toNatClampNeg) (q : ¬ z < 0) {g : JFrame} (hg : g.method = m) {rest : List Value} (hs : g.stack = .ref a :: rest) (hd : decode c.code g.pc = .ok (.arraylength, 1)) :
    ∀ target, Steps p.tables e below (T.setTop { g with pc := g.pc + 1, stack := .int z :: rest }) target → Steps p.tables e below (T.setTop g) target := fun target k =>
  X.arraylength hx (by rw [eT]; exact A.1) (State.isArrayOf_alike hZ.alike A.2.1) hg hs hd target (by rw [len_of S q]; exact k)
theorem ownOrd {C f d : String} {a : Addr} {v : Int32} {args : Array Value} (ev : (Term.static C f d).eval args Z none [] Z = some (.ref a)) (hq : (Jvm.Cond.eq (Term.field (Term.static C f d) "java/lang/Enum" "ordinal" "I") (Term.int v)).value args Z none Z [] = some true) : Fld Z Z.heap a "java/lang/Enum" "ordinal" "I" (.int v) := by
  obtain ⟨x, y, h1, h2, h3, h4⟩ := cmp_v (Or.inl hq)
  rw [fld_at ev] at h1
  cases h2
  obtain ⟨z, rfl⟩ := h4
  have h5 : (Term.field (Term.static C f d) "java/lang/Enum" "ordinal" "I").eval args Z none [] Z = some (.int z) := by rw [fld_at ev]; exact h1
  have : z = v := gotT (Cond.eq_ints h5 (Term.int_eval v)) hq
  subst this
  exact Fld.start h1
end Own2
section Own3
variable {p : Program} {l : Launch} {e : Env} {R : Room} {s : State} {m : MethodId} {args : Array Value} {below : List Frame} {meth : Method} {c : Code} {T : State} {locs : List Loc} {cells slots : Nat} {Z : State} {a0 : Array Value} {h : Heap}
/-- two ways that come to one place, the heap as it was -/
def ownDia {α : Type} (X : Stand p l e R s m args below meth c T locs cells slots) (h : Heap) (P : α → Prop) (f : α → JFrame) (g : JFrame) : Prop :=
  ∃ (T' : State) (v : α), Stand p l e R s m args below meth c T' locs cells slots ∧ T'.heap = h ∧ P v ∧ ∀ t, Steps p.tables e below (T'.setTop (f v)) t → Steps p.tables e below (T.setTop g) t
end Own3
def ownTS (Z : State) (h : Heap) (n0 : Nat) (a bo bt : Addr) (rc dp o0 o1 t0 t1 er es ea : Int32) : Prop := n0 ≤ a ∧ n0 ≤ bo ∧ n0 ≤ bt ∧ a ≠ bo ∧ a ≠ bt ∧ bo ≠ bt ∧ Exa Z h a "com/example/rewoven_tree/rewoventree/storage/TableShape" ∧ Fld Z h a "com/example/rewoven_tree/rewoventree/storage/TableShape" "open" "[I" (.ref bo) ∧ Fld Z h a "com/example/rewoven_tree/rewoventree/storage/TableShape" "attributes" "[I" (.ref bt) ∧ Fld Z h a "com/example/rewoven_tree/rewoventree/storage/TableShape" "rowCount" "I" (.int rc) ∧ Fld Z h a "com/example/rewoven_tree/rewoventree/storage/TableShape" "depth" "I" (.int dp) ∧ (∃ di : Int32, Fld Z h a "com/example/rewoven_tree/rewoventree/storage/TableShape" "distance" "I" (.int di)) ∧ Fld Z h a "com/example/rewoven_tree/rewoventree/storage/TableShape" "endedRow" "I" (.int er) ∧ Fld Z h a "com/example/rewoven_tree/rewoventree/storage/TableShape" "endedSize" "I" (.int es) ∧ Fld Z h a "com/example/rewoven_tree/rewoventree/storage/TableShape" "endedAttributes" "I" (.int ea) ∧ (∃ k : ClassId, Arv Z h bo k .int (8 : Int32) [(.int o0), (.int o1), (.int (0 : Int32)), (.int (0 : Int32)), (.int (0 : Int32)), (.int (0 : Int32)), (.int (0 : Int32)), (.int (0 : Int32))] (.int (0 : Int32))) ∧ (∃ k : ClassId, Arv Z h bt k .int (8 : Int32) [(.int t0), (.int t1), (.int (0 : Int32)), (.int (0 : Int32)), (.int (0 : Int32)), (.int (0 : Int32)), (.int (0 : Int32)), (.int (0 : Int32))] (.int (0 : Int32)))
theorem own_s0 (p1 p2 p3 p4 p5 p6 : Int32) : ((0 : Int32) + (p1 &&& (268435455 : Int32))) = (p1 &&& (268435455 : Int32)) := by
  generalize p1 &&& (268435455 : Int32) = q1
  generalize p2 &&& (268435455 : Int32) = q2
  generalize p3 &&& (268435455 : Int32) = q3
  generalize p4 &&& (268435455 : Int32) = q4
  generalize p5 &&& (268435455 : Int32) = q5
  grind
theorem own_s1 (p1 p2 p3 p4 p5 p6 : Int32) : ((0 : Int32) + (p1 &&& (268435455 : Int32))) = (p1 &&& (268435455 : Int32)) := by
  generalize p1 &&& (268435455 : Int32) = q1
  generalize p2 &&& (268435455 : Int32) = q2
  generalize p3 &&& (268435455 : Int32) = q3
  generalize p4 &&& (268435455 : Int32) = q4
  generalize p5 &&& (268435455 : Int32) = q5
  grind
theorem own_s2 (p1 p2 p3 p4 p5 p6 : Int32) : ((((((0 : Int32) + (p1 &&& (268435455 : Int32))) + (1 : Int32)) + (p2 &&& (268435455 : Int32))) + (p3 &&& (268435455 : Int32))) - ((0 : Int32) + (p1 &&& (268435455 : Int32)))) = (((1 : Int32) + (p2 &&& (268435455 : Int32))) + (p3 &&& (268435455 : Int32))) := by
  generalize p1 &&& (268435455 : Int32) = q1
  generalize p2 &&& (268435455 : Int32) = q2
  generalize p3 &&& (268435455 : Int32) = q3
  generalize p4 &&& (268435455 : Int32) = q4
  generalize p5 &&& (268435455 : Int32) = q5
  grind
theorem own_s3 (p1 p2 p3 p4 p5 p6 : Int32) : (((0 : Int32) + (p4 &&& (268435455 : Int32))) + (p5 &&& (268435455 : Int32))) = ((p4 &&& (268435455 : Int32)) + (p5 &&& (268435455 : Int32))) := by
  generalize p1 &&& (268435455 : Int32) = q1
  generalize p2 &&& (268435455 : Int32) = q2
  generalize p3 &&& (268435455 : Int32) = q3
  generalize p4 &&& (268435455 : Int32) = q4
  generalize p5 &&& (268435455 : Int32) = q5
  grind
theorem own_s4 (p1 p2 p3 p4 p5 p6 : Int32) : ((((0 : Int32) + (p1 &&& (268435455 : Int32))) + (1 : Int32)) + (p2 &&& (268435455 : Int32))) = (((p1 &&& (268435455 : Int32)) + (1 : Int32)) + (p2 &&& (268435455 : Int32))) := by
  generalize p1 &&& (268435455 : Int32) = q1
  generalize p2 &&& (268435455 : Int32) = q2
  generalize p3 &&& (268435455 : Int32) = q3
  generalize p4 &&& (268435455 : Int32) = q4
  generalize p5 &&& (268435455 : Int32) = q5
  grind
theorem own_s5 (p1 p2 p3 p4 p5 p6 : Int32) : ((((0 : Int32) + (p1 &&& (268435455 : Int32))) + (1 : Int32)) + (p2 &&& (268435455 : Int32))) = (((p1 &&& (268435455 : Int32)) + (1 : Int32)) + (p2 &&& (268435455 : Int32))) := by
  generalize p1 &&& (268435455 : Int32) = q1
  generalize p2 &&& (268435455 : Int32) = q2
  generalize p3 &&& (268435455 : Int32) = q3
  generalize p4 &&& (268435455 : Int32) = q4
  generalize p5 &&& (268435455 : Int32) = q5
  grind
theorem own_s6 (p1 p2 p3 p4 p5 p6 : Int32) : (((((((0 : Int32) + (p1 &&& (268435455 : Int32))) + (1 : Int32)) + (p2 &&& (268435455 : Int32))) + (1 : Int32)) + (p3 &&& (268435455 : Int32))) - ((((0 : Int32) + (p1 &&& (268435455 : Int32))) + (1 : Int32)) + (p2 &&& (268435455 : Int32)))) = ((1 : Int32) + (p3 &&& (268435455 : Int32))) := by
  generalize p1 &&& (268435455 : Int32) = q1
  generalize p2 &&& (268435455 : Int32) = q2
  generalize p3 &&& (268435455 : Int32) = q3
  generalize p4 &&& (268435455 : Int32) = q4
  generalize p5 &&& (268435455 : Int32) = q5
  grind
theorem own_s7 (p1 p2 p3 p4 p5 p6 : Int32) : ((0 : Int32) + (p5 &&& (268435455 : Int32))) = (p5 &&& (268435455 : Int32)) := by
  generalize p1 &&& (268435455 : Int32) = q1
  generalize p2 &&& (268435455 : Int32) = q2
  generalize p3 &&& (268435455 : Int32) = q3
  generalize p4 &&& (268435455 : Int32) = q4
  generalize p5 &&& (268435455 : Int32) = q5
  grind
theorem own_s8 (p1 p2 p3 p4 p5 p6 : Int32) : ((0 : Int32) + (p1 &&& (268435455 : Int32))) = (p1 &&& (268435455 : Int32)) := by
  generalize p1 &&& (268435455 : Int32) = q1
  generalize p2 &&& (268435455 : Int32) = q2
  generalize p3 &&& (268435455 : Int32) = q3
  generalize p4 &&& (268435455 : Int32) = q4
  generalize p5 &&& (268435455 : Int32) = q5
  grind
theorem own_s9 (p1 p2 p3 p4 p5 p6 : Int32) : (((((((0 : Int32) + (p1 &&& (268435455 : Int32))) + (1 : Int32)) + (p2 &&& (268435455 : Int32))) + (1 : Int32)) + (p3 &&& (268435455 : Int32))) - ((0 : Int32) + (p1 &&& (268435455 : Int32)))) = (((2 : Int32) + (p2 &&& (268435455 : Int32))) + (p3 &&& (268435455 : Int32))) := by
  generalize p1 &&& (268435455 : Int32) = q1
  generalize p2 &&& (268435455 : Int32) = q2
  generalize p3 &&& (268435455 : Int32) = q3
  generalize p4 &&& (268435455 : Int32) = q4
  generalize p5 &&& (268435455 : Int32) = q5
  grind
theorem own_s10 (p1 p2 p3 p4 p5 p6 : Int32) : ((0 : Int32) + (p4 &&& (268435455 : Int32))) = (p4 &&& (268435455 : Int32)) := by
  generalize p1 &&& (268435455 : Int32) = q1
  generalize p2 &&& (268435455 : Int32) = q2
  generalize p3 &&& (268435455 : Int32) = q3
  generalize p4 &&& (268435455 : Int32) = q4
  generalize p5 &&& (268435455 : Int32) = q5
  grind
theorem d1_0 : decode prog_249_method_1_code 0 = .ok (.aload_n 0, 1) := by decide +kernel
theorem d1_1 : decode prog_249_method_1_code 1 = .ok (.invokespecial 1, 3) := by decide +kernel
theorem d1_4 : decode prog_249_method_1_code 4 = .ok (.aload_n 0, 1) := by decide +kernel
theorem d1_5 : decode prog_249_method_1_code 5 = .ok (.bipush 8, 2) := by decide +kernel
theorem d1_7 : decode prog_249_method_1_code 7 = .ok (.newarray .int, 2) := by decide +kernel
theorem d1_9 : decode prog_249_method_1_code 9 = .ok (.putfield 7, 3) := by decide +kernel
theorem d1_12 : decode prog_249_method_1_code 12 = .ok (.aload_n 0, 1) := by decide +kernel
theorem d1_13 : decode prog_249_method_1_code 13 = .ok (.bipush 8, 2) := by decide +kernel
theorem d1_15 : decode prog_249_method_1_code 15 = .ok (.newarray .int, 2) := by decide +kernel
theorem d1_17 : decode prog_249_method_1_code 17 = .ok (.putfield 13, 3) := by decide +kernel
theorem d1_20 : decode prog_249_method_1_code 20 = .ok (.return_, 1) := by decide +kernel
theorem pn_1 : plainName "com/example/rewoven_tree/rewoventree/storage/TableShape" = true := by first | (simp [plainName, overriddenIn]; done) | decide +kernel
theorem ef_1 (m : MethodId) (x0 : Addr) : entryFrame m #[(.ref x0)] 1 = mkF m 0 #[.val (.ref x0)] [] := by first | (simp [entryFrame, mkF, argsToLocals, Value.category]; done) | rfl
def Q1 (Z : State) (a1 : Addr) (h0 : Heap) (n0 : Nat) (v : Option Value) (h : Heap) (L : List Loc) : Prop := ∃ (bo : Addr) (bt : Addr), v = none ∧ Fr n0 L ∧ Keep h0 h [a1] ∧ n0 ≤ bo ∧ n0 ≤ bt ∧ h0.size ≤ bo ∧ h0.size ≤ bt ∧ ownTS Z h n0 a1 bo bt (0 : Int32) (0 : Int32) (0 : Int32) (0 : Int32) (0 : Int32) (0 : Int32) (0 : Int32) (0 : Int32) (0 : Int32)
set_option maxRecDepth 65536 in
set_option maxHeartbeats 40000000 in
theorem rm1 (l : Launch) (Z : State) (a0 : Array Value) (hw : ∀ d ∈ tables_1, d.before a0 Z = true) (ws : List Jvm.Cond) (a1 : Addr) (h0 : Heap) (n0 : Nat) (Z0 : n0 ≤ h0.size) (F_open : Fld Z h0 a1 "com/example/rewoven_tree/rewoventree/storage/TableShape" "open" "[I" .null) (F_attributes : Fld Z h0 a1 "com/example/rewoven_tree/rewoventree/storage/TableShape" "attributes" "[I" .null) (F_rowCount : Fld Z h0 a1 "com/example/rewoven_tree/rewoventree/storage/TableShape" "rowCount" "I" (.int (0 : Int32))) (F_depth : Fld Z h0 a1 "com/example/rewoven_tree/rewoventree/storage/TableShape" "depth" "I" (.int (0 : Int32))) (F_distance : Fld Z h0 a1 "com/example/rewoven_tree/rewoventree/storage/TableShape" "distance" "I" (.int (0 : Int32))) (F_endedRow : Fld Z h0 a1 "com/example/rewoven_tree/rewoventree/storage/TableShape" "endedRow" "I" (.int (0 : Int32))) (F_endedSize : Fld Z h0 a1 "com/example/rewoven_tree/rewoventree/storage/TableShape" "endedSize" "I" (.int (0 : Int32))) (F_endedAttributes : Fld Z h0 a1 "com/example/rewoven_tree/rewoventree/storage/TableShape" "endedAttributes" "I" (.int (0 : Int32))) (E1 : Exa Z h0 a1 "com/example/rewoven_tree/rewoventree/storage/TableShape") (ga : n0 ≤ a1) :
    MetFree l (⟨"com/example/rewoven_tree/rewoventree/storage/TableShape", "<init>", "()V"⟩ : MethodName) (head1 (Jvm.Cond.code (⟨"com/example/rewoven_tree/rewoventree/storage/TableShape", "<init>", "()V"⟩ : MethodName) prog_249_method_1_code 1 none :: ws) ({ frames := 1, cells := 2, slots := 16, locals := 12 } : Room)) (fun a U => a = #[(.ref a1)] ∧ Z.Warmed39 U.vm ∧ U.heap = h0) (fun _ _ _ _ _ => True) (fun _ U o U' => ∃ v L, o = .returned v ∧ Q1 Z a1 h0 n0 v U'.heap L ∧ FrameEnd U o U' L ({ frames := 1, cells := 2, slots := 16, locals := 12 } : Room).cells ({ frames := 1, cells := 2, slots := 16, locals := 12 } : Room).slots) := by
  have ww2 := hw _ (List.mem_of_getElem? (i := 2) rfl)
  have ww7 := hw _ (List.mem_of_getElem? (i := 7) rfl)
  have ww8 := hw _ (List.mem_of_getElem? (i := 8) rfl)
  have ww9 := hw _ (List.mem_of_getElem? (i := 9) rfl)
  have ww10 := hw _ (List.mem_of_getElem? (i := 10) rfl)
  have ww11 := hw _ (List.mem_of_getElem? (i := 11) rfl)
  have ww12 := hw _ (List.mem_of_getElem? (i := 12) rfl)
  have ww13 := hw _ (List.mem_of_getElem? (i := 13) rfl)
  have ww14 := hw _ (List.mem_of_getElem? (i := 14) rfl)
  have ww21 := hw _ (List.mem_of_getElem? (i := 21) rfl)
  have ww36 := hw _ (List.mem_of_getElem? (i := 36) rfl)
  have ww38 := hw _ (List.mem_of_getElem? (i := 38) rfl)
  have ww56 := hw _ (List.mem_of_getElem? (i := 56) rfl)
  have ww58 := hw _ (List.mem_of_getElem? (i := 58) rfl)
  have ww60 := hw _ (List.mem_of_getElem? (i := 60) rfl)
  refine MetFree.of_bodySF (plainFor_of_name pn_1) hisR ?_
  intro p e s m args below meth c s₁ Bd hml0 hP hK
  obtain ⟨rfl, hZ, hh⟩ := hP
  have hx := Bd.exec
  have hby := Bd.bytes
  have hlk : meth.locks = false := Bd.notSynchronized
  have hret := Bd.returns
  have hml : c.maxLocals = 1 := hml0
  have hown : s.vm.findClass "com/example/rewoven_tree/rewoventree/storage/TableShape" = some m.cls := findClass_of_methodNamed Bd.named
  have hnm := (name_of_methodNamed Bd.named Bd.method).1
  have X0 : Stand p l e ({ frames := 1, cells := 2, slots := 16, locals := 12 } : Room) s m #[(.ref a1)] below meth c s₁ [] 0 0 := Stand.of_body Bd
  have e0 : s₁.heap = h0 := by rw [← hh, Bd.state]; rfl
  have N0 := Fr.nil n0
  have K0 := Keep.refl h0 [a1]
  show OwnEnd p e below s (Q1 Z a1 h0 n0) ({ frames := 1, cells := 2, slots := 16, locals := 12 } : Room).cells ({ frames := 1, cells := 2, slots := 16, locals := 12 } : Room).slots _
  refine OwnEnd.go (fun _ k => castTop (ef_1 m a1) k) ?_
  show OwnEnd p e below s _ _ _ (s₁.setTop (mkF m 0 #[.val (.ref a1)] []))
  refine OwnEnd.go (fun _ k => XS.aloadN X0.here hx rfl (hb hby d1_0) rfl rfl k) ?_
  show OwnEnd p e below s _ _ _ (s₁.setTop (mkF m 1 #[.val (.ref a1)] [(.ref a1)]))
  obtain ⟨T101, X101, e101, st101⟩ := initO X0 hx hZ hown ww7 ww8 ww9 e0 (g := (mkF m 1 #[.val (.ref a1)] [(.ref a1)])) rfl (by rw [hml]; rfl) rfl (hb hby d1_1) (by decide) (W := 0) (by show 2 * 0 + _ ≤ _; exact Nat.le_of_eq rfl) (by decide)
  refine OwnEnd.go (fun _ k => st101 _ k) ?_
  show OwnEnd p e below s _ _ _ (T101.setTop (mkF m 4 #[.val (.ref a1)] []))
  refine OwnEnd.go (fun _ k => XS.aloadN X101.here hx rfl (hb hby d1_4) rfl rfl k) ?_
  show OwnEnd p e below s _ _ _ (T101.setTop (mkF m 5 #[.val (.ref a1)] [(.ref a1)]))
  refine OwnEnd.go (fun _ k => XS.bipush X101.here hx rfl (hb hby d1_5) k) ?_
  show OwnEnd p e below s _ _ _ (T101.setTop (mkF m 7 #[.val (.ref a1)] [(.int (8 : Int32)), (.ref a1)]))
  obtain ⟨T102, h102, k102, X102, e102, E102, A102, st102⟩ := newP (aty := .int) X101 hx hZ ww10 e101 (g := (mkF m 7 #[.val (.ref a1)] [(.int (8 : Int32)), (.ref a1)])) rfl (hb hby d1_7) rfl (by decide) (cap := 8) (by decide) (by decide) (by decide) (by decide)
  obtain ⟨b102, g102⟩ : ∃ z, z = h0.size := ⟨_, rfl⟩
  rw [← g102] at A102 st102
  have ne103 : a1 ≠ b102 := Nat.ne_of_lt (Nat.lt_of_lt_of_le F_open.lt (Nat.le_of_eq g102.symm))
  have u102 : n0 ≤ b102 := Nat.le_trans Z0 (Nat.le_of_eq g102.symm)
  have v102 : h0.size ≤ b102 := Nat.le_trans K0.1 (Nat.le_of_eq g102.symm)
  have F104 := F_open.ext E102
  have F105 := F_attributes.ext E102
  have F106 := F_rowCount.ext E102
  have F107 := F_depth.ext E102
  have F108 := F_distance.ext E102
  have F109 := F_endedRow.ext E102
  have F110 := F_endedSize.ext E102
  have F111 := F_endedAttributes.ext E102
  have F112 := E1.ext E102
  have K102 := K0.ext E102
  have Y102 := Nat.le_trans Z0 E102.1
  have V102 : Arv Z h102 b102 k102 .int (8 : Int32) [(.int (0 : Int32)), (.int (0 : Int32)), (.int (0 : Int32)), (.int (0 : Int32)), (.int (0 : Int32)), (.int (0 : Int32)), (.int (0 : Int32)), (.int (0 : Int32))] (.int (0 : Int32)) := (Arv.new A102 (by decide)).pad (pad_rep [] (.int (0 : Int32)) 8)
  refine OwnEnd.go (fun _ k => st102 _ k) ?_
  show OwnEnd p e below s _ _ _ (T102.setTop (mkF m 9 #[.val (.ref a1)] [(.ref b102), (.ref a1)]))
  obtain ⟨T113, h113, X113, e113, W113, st113⟩ := putF X102 hx hZ hown (host := "") (Or.inl ww11) Via.refl e102 F104 F112 (Or.inl ww12) ww2 (ty := (.array .int)) (by decide) rfl rfl (g := (mkF m 9 #[.val (.ref a1)] [(.ref b102), (.ref a1)])) rfl rfl (hb hby d1_9)
  have F114 := F104.same W113
  have F115 := F105.other W113 (Or.inr (slot_ne (Or.inl ww14) (Or.inl ww12) (by decide) (t := (.array .int)) (t' := (.array .int)) (by decide) (by decide)))
  have F116 := F106.other W113 (Or.inr (slot_ne (Or.inl ww21) (Or.inl ww12) (by decide) (t := .int) (t' := (.array .int)) (by decide) (by decide)))
  have F117 := F107.other W113 (Or.inr (slot_ne (Or.inl ww36) (Or.inl ww12) (by decide) (t := .int) (t' := (.array .int)) (by decide) (by decide)))
  have F118 := F108.other W113 (Or.inr (slot_ne (Or.inl ww38) (Or.inl ww12) (by decide) (t := .int) (t' := (.array .int)) (by decide) (by decide)))
  have F119 := F109.other W113 (Or.inr (slot_ne (Or.inl ww56) (Or.inl ww12) (by decide) (t := .int) (t' := (.array .int)) (by decide) (by decide)))
  have F120 := F110.other W113 (Or.inr (slot_ne (Or.inl ww58) (Or.inl ww12) (by decide) (t := .int) (t' := (.array .int)) (by decide) (by decide)))
  have F121 := F111.other W113 (Or.inr (slot_ne (Or.inl ww60) (Or.inl ww12) (by decide) (t := .int) (t' := (.array .int)) (by decide) (by decide)))
  have F122 := F112.wr W113
  have F123 := V102.other W113 (Ne.symm ne103)
  have N113 := Fr.snoc X113 N0 ga
  have K113 := K102.wr W113 (Or.inl (List.mem_of_getElem? (i := 0) rfl))
  have Y113 := Nat.le_trans Y102 (Nat.le_of_eq W113.size.symm)
  refine OwnEnd.go (fun _ k => st113 _ k) ?_
  show OwnEnd p e below s _ _ _ (T113.setTop (mkF m 12 #[.val (.ref a1)] []))
  refine OwnEnd.go (fun _ k => XS.aloadN X113.here hx rfl (hb hby d1_12) rfl rfl k) ?_
  show OwnEnd p e below s _ _ _ (T113.setTop (mkF m 13 #[.val (.ref a1)] [(.ref a1)]))
  refine OwnEnd.go (fun _ k => XS.bipush X113.here hx rfl (hb hby d1_13) k) ?_
  show OwnEnd p e below s _ _ _ (T113.setTop (mkF m 15 #[.val (.ref a1)] [(.int (8 : Int32)), (.ref a1)]))
  obtain ⟨T124, h124, k124, X124, e124, E124, A124, st124⟩ := newP (aty := .int) X113 hx hZ ww10 e113 (g := (mkF m 15 #[.val (.ref a1)] [(.int (8 : Int32)), (.ref a1)])) rfl (hb hby d1_15) rfl (by decide) (cap := 8) (by decide) (by decide) (by decide) (by decide)
  obtain ⟨b124, g124⟩ : ∃ z, z = h113.size := ⟨_, rfl⟩
  rw [← g124] at A124 st124
  have ne125 : a1 ≠ b124 := Nat.ne_of_lt (Nat.lt_of_lt_of_le F114.lt (Nat.le_of_eq g124.symm))
  have ne126 : b102 ≠ b124 := Nat.ne_of_lt (Nat.lt_of_lt_of_le F123.lt (Nat.le_of_eq g124.symm))
  have u124 : n0 ≤ b124 := Nat.le_trans Y113 (Nat.le_of_eq g124.symm)
  have v124 : h0.size ≤ b124 := Nat.le_trans K113.1 (Nat.le_of_eq g124.symm)
  have F127 := F114.ext E124
  have F128 := F115.ext E124
  have F129 := F116.ext E124
  have F130 := F117.ext E124
  have F131 := F118.ext E124
  have F132 := F119.ext E124
  have F133 := F120.ext E124
  have F134 := F121.ext E124
  have F135 := F122.ext E124
  have F136 := F123.ext E124
  have K124 := K113.ext E124
  have Y124 := Nat.le_trans Y113 E124.1
  have V124 : Arv Z h124 b124 k124 .int (8 : Int32) [(.int (0 : Int32)), (.int (0 : Int32)), (.int (0 : Int32)), (.int (0 : Int32)), (.int (0 : Int32)), (.int (0 : Int32)), (.int (0 : Int32)), (.int (0 : Int32))] (.int (0 : Int32)) := (Arv.new A124 (by decide)).pad (pad_rep [] (.int (0 : Int32)) 8)
  refine OwnEnd.go (fun _ k => st124 _ k) ?_
  show OwnEnd p e below s _ _ _ (T124.setTop (mkF m 17 #[.val (.ref a1)] [(.ref b124), (.ref a1)]))
  obtain ⟨T137, h137, X137, e137, W137, st137⟩ := putF X124 hx hZ hown (host := "") (Or.inl ww13) Via.refl e124 F128 F135 (Or.inl ww14) ww2 (ty := (.array .int)) (by decide) rfl rfl (g := (mkF m 17 #[.val (.ref a1)] [(.ref b124), (.ref a1)])) rfl rfl (hb hby d1_17)
  have F138 := F127.other W137 (Or.inr (slot_ne (Or.inl ww12) (Or.inl ww14) (by decide) (t := (.array .int)) (t' := (.array .int)) (by decide) (by decide)))
  have F139 := F128.same W137
  have F140 := F129.other W137 (Or.inr (slot_ne (Or.inl ww21) (Or.inl ww14) (by decide) (t := .int) (t' := (.array .int)) (by decide) (by decide)))
  have F141 := F130.other W137 (Or.inr (slot_ne (Or.inl ww36) (Or.inl ww14) (by decide) (t := .int) (t' := (.array .int)) (by decide) (by decide)))
  have F142 := F131.other W137 (Or.inr (slot_ne (Or.inl ww38) (Or.inl ww14) (by decide) (t := .int) (t' := (.array .int)) (by decide) (by decide)))
  have F143 := F132.other W137 (Or.inr (slot_ne (Or.inl ww56) (Or.inl ww14) (by decide) (t := .int) (t' := (.array .int)) (by decide) (by decide)))
  have F144 := F133.other W137 (Or.inr (slot_ne (Or.inl ww58) (Or.inl ww14) (by decide) (t := .int) (t' := (.array .int)) (by decide) (by decide)))
  have F145 := F134.other W137 (Or.inr (slot_ne (Or.inl ww60) (Or.inl ww14) (by decide) (t := .int) (t' := (.array .int)) (by decide) (by decide)))
  have F146 := F135.wr W137
  have F147 := F136.other W137 (Ne.symm ne103)
  have F148 := V124.other W137 (Ne.symm ne125)
  have N137 := Fr.snoc X137 N113 ga
  have K137 := K124.wr W137 (Or.inl (List.mem_of_getElem? (i := 0) rfl))
  have Y137 := Nat.le_trans Y124 (Nat.le_of_eq W137.size.symm)
  refine OwnEnd.go (fun _ k => st137 _ k) ?_
  show OwnEnd p e below s _ _ _ (T137.setTop (mkF m 20 #[.val (.ref a1)] []))
  refine ownRetV X137 hx hlk hret (hb hby d1_20) (by decide) (by decide) ?_
  show Q1 Z a1 h0 n0 _ T137.heap _
  rw [e137]
  exact ⟨b102, b124, rfl, N137, K137, u102, u124, v102, v124, ⟨ga, u102, u124, ne103, ne125, ne126, F146, F138, F139, F140, F141, ⟨_, F142⟩, F143, F144, F145, ⟨_, F147⟩, ⟨_, F148⟩⟩⟩
theorem d3_0 : decode prog_249_method_4_code 0 = .ok (.aload_n 0, 1) := by decide +kernel
theorem d3_1 : decode prog_249_method_4_code 1 = .ok (.dup, 1) := by decide +kernel
theorem d3_2 : decode prog_249_method_4_code 2 = .ok (.getfield 42, 3) := by decide +kernel
theorem d3_5 : decode prog_249_method_4_code 5 = .ok (.iload_n 1, 1) := by decide +kernel
theorem d3_6 : decode prog_249_method_4_code 6 = .ok (.iadd, 1) := by decide +kernel
theorem d3_7 : decode prog_249_method_4_code 7 = .ok (.putfield 42, 3) := by decide +kernel
theorem d3_10 : decode prog_249_method_4_code 10 = .ok (.return_, 1) := by decide +kernel
theorem pn_3 : plainName "com/example/rewoven_tree/rewoventree/storage/TableShape" = true := by first | (simp [plainName, overriddenIn]; done) | decide +kernel
theorem ef_3 (m : MethodId) (x0 : Addr) (x1 : Int32) : entryFrame m #[(.ref x0), (.int x1)] 2 = mkF m 0 #[.val (.ref x0), .val (.int x1)] [] := by first | (simp [entryFrame, mkF, argsToLocals, Value.category]; done) | rfl
def Q3 (Z : State) (a1 : Addr) (p2 : Int32) (bo : Addr) (bt : Addr) (rc : Int32) (o0 : Int32) (o1 : Int32) (t0 : Int32) (t1 : Int32) (er : Int32) (es : Int32) (ea : Int32) (dp : Int32) (h0 : Heap) (n0 : Nat) (v : Option Value) (h : Heap) (L : List Loc) : Prop := v = none ∧ Fr n0 L ∧ Keep h0 h [a1, bo, bt] ∧ ownTS Z h n0 a1 bo bt (rc + p2) dp o0 o1 t0 t1 er es ea
set_option maxRecDepth 65536 in
set_option maxHeartbeats 40000000 in
theorem rm3 (l : Launch) (Z : State) (a0 : Array Value) (hw : ∀ d ∈ tables_1, d.before a0 Z = true) (ws : List Jvm.Cond) (a1 : Addr) (p2 : Int32) (bo : Addr) (bt : Addr) (rc : Int32) (o0 : Int32) (o1 : Int32) (t0 : Int32) (t1 : Int32) (er : Int32) (es : Int32) (ea : Int32) (dp : Int32) (h0 : Heap) (n0 : Nat) (Z0 : n0 ≤ h0.size) (B0 : ownTS Z h0 n0 a1 bo bt rc dp o0 o1 t0 t1 er es ea) :
    MetFree l (⟨"com/example/rewoven_tree/rewoventree/storage/TableShape", "pass", "(I)V"⟩ : MethodName) (head1 (Jvm.Cond.code (⟨"com/example/rewoven_tree/rewoventree/storage/TableShape", "pass", "(I)V"⟩ : MethodName) prog_249_method_4_code 2 none :: ws) ({ frames := 0, cells := 0, slots := 0, locals := 0 } : Room)) (fun a U => a = #[(.ref a1), (.int p2)] ∧ Z.Warmed39 U.vm ∧ U.heap = h0) (fun _ _ _ _ _ => True) (fun _ U o U' => ∃ v L, o = .returned v ∧ Q3 Z a1 p2 bo bt rc o0 o1 t0 t1 er es ea dp h0 n0 v U'.heap L ∧ FrameEnd U o U' L ({ frames := 0, cells := 0, slots := 0, locals := 0 } : Room).cells ({ frames := 0, cells := 0, slots := 0, locals := 0 } : Room).slots) := by
  have ww2 := hw _ (List.mem_of_getElem? (i := 2) rfl)
  have ww12 := hw _ (List.mem_of_getElem? (i := 12) rfl)
  have ww14 := hw _ (List.mem_of_getElem? (i := 14) rfl)
  have ww20 := hw _ (List.mem_of_getElem? (i := 20) rfl)
  have ww21 := hw _ (List.mem_of_getElem? (i := 21) rfl)
  have ww36 := hw _ (List.mem_of_getElem? (i := 36) rfl)
  have ww38 := hw _ (List.mem_of_getElem? (i := 38) rfl)
  have ww56 := hw _ (List.mem_of_getElem? (i := 56) rfl)
  have ww58 := hw _ (List.mem_of_getElem? (i := 58) rfl)
  have ww60 := hw _ (List.mem_of_getElem? (i := 60) rfl)
  refine MetFree.of_bodySF (plainFor_of_name pn_3) hisR ?_
  intro p e s m args below meth c s₁ Bd hml0 hP hK
  obtain ⟨rfl, hZ, hh⟩ := hP
  have hx := Bd.exec
  have hby := Bd.bytes
  have hlk : meth.locks = false := Bd.notSynchronized
  have hret := Bd.returns
  have hml : c.maxLocals = 2 := hml0
  have hown : s.vm.findClass "com/example/rewoven_tree/rewoventree/storage/TableShape" = some m.cls := findClass_of_methodNamed Bd.named
  have hnm := (name_of_methodNamed Bd.named Bd.method).1
  have X0 : Stand p l e ({ frames := 0, cells := 0, slots := 0, locals := 0 } : Room) s m #[(.ref a1), (.int p2)] below meth c s₁ [] 0 0 := Stand.of_body Bd
  have e0 : s₁.heap = h0 := by rw [← hh, Bd.state]; rfl
  have N0 := Fr.nil n0
  have K0 := Keep.refl h0 [a1, bo, bt]
  show OwnEnd p e below s (Q3 Z a1 p2 bo bt rc o0 o1 t0 t1 er es ea dp h0 n0) ({ frames := 0, cells := 0, slots := 0, locals := 0 } : Room).cells ({ frames := 0, cells := 0, slots := 0, locals := 0 } : Room).slots _
  refine OwnEnd.go (fun _ k => castTop (ef_3 m a1 p2) k) ?_
  obtain ⟨ga, go, gt, n1, n2, n3, E1, F_open, F_attr, F_rc, F_dp, ⟨di, F_di⟩, F_er, F_es, F_ea, ⟨ko, V_o⟩, ⟨kt, V_t⟩⟩ := B0
  show OwnEnd p e below s _ _ _ (s₁.setTop (mkF m 0 #[.val (.ref a1), .val (.int p2)] []))
  refine OwnEnd.go (fun _ k => XS.aloadN X0.here hx rfl (hb hby d3_0) rfl rfl k) ?_
  show OwnEnd p e below s _ _ _ (s₁.setTop (mkF m 1 #[.val (.ref a1), .val (.int p2)] [(.ref a1)]))
  refine OwnEnd.go (fun _ k => XS.dup X0.here hx rfl (hb hby d3_1) rfl rfl k) ?_
  show OwnEnd p e below s _ _ _ (s₁.setTop (mkF m 2 #[.val (.ref a1), .val (.int p2)] [(.ref a1), (.ref a1)]))
  obtain ⟨T101, X101, e101, st101⟩ := getF X0 hx hZ hown (host := "") (Or.inl ww20) Via.refl e0 F_rc (g := (mkF m 2 #[.val (.ref a1), .val (.int p2)] [(.ref a1), (.ref a1)])) rfl rfl (hb hby d3_2)
  refine OwnEnd.go (fun _ k => st101 _ k) ?_
  show OwnEnd p e below s _ _ _ (T101.setTop (mkF m 5 #[.val (.ref a1), .val (.int p2)] [(.int rc), (.ref a1)]))
  refine OwnEnd.go (fun _ k => XS.iloadN X101.here hx rfl (hb hby d3_5) rfl  k) ?_
  show OwnEnd p e below s _ _ _ (T101.setTop (mkF m 6 #[.val (.ref a1), .val (.int p2)] [(.int p2), (.int rc), (.ref a1)]))
  refine OwnEnd.go (fun _ k => XS.iadd X101.here hx rfl (hb hby d3_6) rfl k) ?_
  show OwnEnd p e below s _ _ _ (T101.setTop (mkF m 7 #[.val (.ref a1), .val (.int p2)] [(.int (rc + p2)), (.ref a1)]))
  obtain ⟨T102, h102, X102, e102, W102, st102⟩ := putF X101 hx hZ hown (host := "") (Or.inl ww20) Via.refl e101 F_rc E1 (Or.inl ww21) ww2 (ty := .int) (by decide) rfl rfl (g := (mkF m 7 #[.val (.ref a1), .val (.int p2)] [(.int (rc + p2)), (.ref a1)])) rfl rfl (hb hby d3_7)
  have F104 := E1.wr W102
  have F105 := F_open.other W102 (Or.inr (slot_ne (Or.inl ww12) (Or.inl ww21) (by decide) (t := (.array .int)) (t' := .int) (by decide) (by decide)))
  have F106 := F_attr.other W102 (Or.inr (slot_ne (Or.inl ww14) (Or.inl ww21) (by decide) (t := (.array .int)) (t' := .int) (by decide) (by decide)))
  have F107 := F_rc.same W102
  have F108 := F_dp.other W102 (Or.inr (slot_ne (Or.inl ww36) (Or.inl ww21) (by decide) (t := .int) (t' := .int) (by decide) (by decide)))
  have F109 := F_di.other W102 (Or.inr (slot_ne (Or.inl ww38) (Or.inl ww21) (by decide) (t := .int) (t' := .int) (by decide) (by decide)))
  have F110 := F_er.other W102 (Or.inr (slot_ne (Or.inl ww56) (Or.inl ww21) (by decide) (t := .int) (t' := .int) (by decide) (by decide)))
  have F111 := F_es.other W102 (Or.inr (slot_ne (Or.inl ww58) (Or.inl ww21) (by decide) (t := .int) (t' := .int) (by decide) (by decide)))
  have F112 := F_ea.other W102 (Or.inr (slot_ne (Or.inl ww60) (Or.inl ww21) (by decide) (t := .int) (t' := .int) (by decide) (by decide)))
  have F113 := V_o.other W102 (Ne.symm n1)
  have F114 := V_t.other W102 (Ne.symm n2)
  have N102 := Fr.snoc X102 N0 ga
  have K102 := K0.wr W102 (Or.inl (List.mem_of_getElem? (i := 0) rfl))
  have Y102 := Nat.le_trans Z0 (Nat.le_of_eq W102.size.symm)
  refine OwnEnd.go (fun _ k => st102 _ k) ?_
  show OwnEnd p e below s _ _ _ (T102.setTop (mkF m 10 #[.val (.ref a1), .val (.int p2)] []))
  refine ownRetV X102 hx hlk hret (hb hby d3_10) (by decide) (by decide) ?_
  show Q3 Z a1 p2 bo bt rc o0 o1 t0 t1 er es ea dp h0 n0 _ T102.heap _
  rw [e102]
  exact ⟨rfl, N102, K102, ⟨ga, go, gt, n1, n2, n3, F104, F105, F106, F107, F108, ⟨_, F109⟩, F110, F111, F112, ⟨_, F113⟩, ⟨_, F114⟩⟩⟩
theorem d8_0 : decode prog_249_method_7_code 0 = .ok (.aload_n 0, 1) := by decide +kernel
theorem d8_1 : decode prog_249_method_7_code 1 = .ok (.getfield 48, 3) := by decide +kernel
theorem d8_4 : decode prog_249_method_7_code 4 = .ok (.ireturn, 1) := by decide +kernel
theorem pn_8 : plainName "com/example/rewoven_tree/rewoventree/storage/TableShape" = true := by first | (simp [plainName, overriddenIn]; done) | decide +kernel
theorem ef_8 (m : MethodId) (x0 : Addr) : entryFrame m #[(.ref x0)] 1 = mkF m 0 #[.val (.ref x0)] [] := by first | (simp [entryFrame, mkF, argsToLocals, Value.category]; done) | rfl
def Q8 (Z : State) (a1 : Addr) (bo : Addr) (bt : Addr) (rc : Int32) (o0 : Int32) (o1 : Int32) (t0 : Int32) (t1 : Int32) (er : Int32) (es : Int32) (ea : Int32) (dp : Int32) (h0 : Heap) (n0 : Nat) (v : Option Value) (h : Heap) (L : List Loc) : Prop := v = some (.int er) ∧ Fr n0 L ∧ h = h0
set_option maxRecDepth 65536 in
set_option maxHeartbeats 40000000 in
theorem rm8 (l : Launch) (Z : State) (a0 : Array Value) (hw : ∀ d ∈ tables_1, d.before a0 Z = true) (ws : List Jvm.Cond) (a1 : Addr) (bo : Addr) (bt : Addr) (rc : Int32) (o0 : Int32) (o1 : Int32) (t0 : Int32) (t1 : Int32) (er : Int32) (es : Int32) (ea : Int32) (dp : Int32) (h0 : Heap) (n0 : Nat) (Z0 : n0 ≤ h0.size) (B0 : ownTS Z h0 n0 a1 bo bt rc dp o0 o1 t0 t1 er es ea) :
    MetFree l (⟨"com/example/rewoven_tree/rewoventree/storage/TableShape", "endedRow", "()I"⟩ : MethodName) (head1 (Jvm.Cond.code (⟨"com/example/rewoven_tree/rewoventree/storage/TableShape", "endedRow", "()I"⟩ : MethodName) prog_249_method_7_code 1 (some .int) :: ws) ({ frames := 0, cells := 0, slots := 0, locals := 0 } : Room)) (fun a U => a = #[(.ref a1)] ∧ Z.Warmed39 U.vm ∧ U.heap = h0) (fun _ _ _ _ _ => True) (fun _ U o U' => ∃ v L, o = .returned v ∧ Q8 Z a1 bo bt rc o0 o1 t0 t1 er es ea dp h0 n0 v U'.heap L ∧ FrameEnd U o U' L ({ frames := 0, cells := 0, slots := 0, locals := 0 } : Room).cells ({ frames := 0, cells := 0, slots := 0, locals := 0 } : Room).slots) := by
  have ww55 := hw _ (List.mem_of_getElem? (i := 55) rfl)
  refine MetFree.of_bodySF (plainFor_of_name pn_8) hisR ?_
  intro p e s m args below meth c s₁ Bd hml0 hP hK
  obtain ⟨rfl, hZ, hh⟩ := hP
  have hx := Bd.exec
  have hby := Bd.bytes
  have hlk : meth.locks = false := Bd.notSynchronized
  have hret := Bd.returns
  have hml : c.maxLocals = 1 := hml0
  have hown : s.vm.findClass "com/example/rewoven_tree/rewoventree/storage/TableShape" = some m.cls := findClass_of_methodNamed Bd.named
  have hnm := (name_of_methodNamed Bd.named Bd.method).1
  have X0 : Stand p l e ({ frames := 0, cells := 0, slots := 0, locals := 0 } : Room) s m #[(.ref a1)] below meth c s₁ [] 0 0 := Stand.of_body Bd
  have e0 : s₁.heap = h0 := by rw [← hh, Bd.state]; rfl
  have N0 := Fr.nil n0
  have K0 := Keep.refl h0 []
  show OwnEnd p e below s (Q8 Z a1 bo bt rc o0 o1 t0 t1 er es ea dp h0 n0) ({ frames := 0, cells := 0, slots := 0, locals := 0 } : Room).cells ({ frames := 0, cells := 0, slots := 0, locals := 0 } : Room).slots _
  refine OwnEnd.go (fun _ k => castTop (ef_8 m a1) k) ?_
  obtain ⟨ga, go, gt, n1, n2, n3, E1, F_open, F_attr, F_rc, F_dp, ⟨di, F_di⟩, F_er, F_es, F_ea, ⟨ko, V_o⟩, ⟨kt, V_t⟩⟩ := B0
  show OwnEnd p e below s _ _ _ (s₁.setTop (mkF m 0 #[.val (.ref a1)] []))
  refine OwnEnd.go (fun _ k => XS.aloadN X0.here hx rfl (hb hby d8_0) rfl rfl k) ?_
  show OwnEnd p e below s _ _ _ (s₁.setTop (mkF m 1 #[.val (.ref a1)] [(.ref a1)]))
  obtain ⟨T101, X101, e101, st101⟩ := getF X0 hx hZ hown (host := "") (Or.inl ww55) Via.refl e0 F_er (g := (mkF m 1 #[.val (.ref a1)] [(.ref a1)])) rfl rfl (hb hby d8_1)
  refine OwnEnd.go (fun _ k => st101 _ k) ?_
  show OwnEnd p e below s _ _ _ (T101.setTop (mkF m 4 #[.val (.ref a1)] [(.int er)]))
  refine ownRetI X101 hx hlk hret (hb hby d8_4) (by decide) (by decide) ?_
  show Q8 Z a1 bo bt rc o0 o1 t0 t1 er es ea dp h0 n0 _ T101.heap _
  rw [e101]
  exact ⟨rfl, N0, rfl⟩
theorem d9_0 : decode prog_249_method_8_code 0 = .ok (.aload_n 0, 1) := by decide +kernel
theorem d9_1 : decode prog_249_method_8_code 1 = .ok (.getfield 51, 3) := by decide +kernel
theorem d9_4 : decode prog_249_method_8_code 4 = .ok (.ireturn, 1) := by decide +kernel
theorem pn_9 : plainName "com/example/rewoven_tree/rewoventree/storage/TableShape" = true := by first | (simp [plainName, overriddenIn]; done) | decide +kernel
theorem ef_9 (m : MethodId) (x0 : Addr) : entryFrame m #[(.ref x0)] 1 = mkF m 0 #[.val (.ref x0)] [] := by first | (simp [entryFrame, mkF, argsToLocals, Value.category]; done) | rfl
def Q9 (Z : State) (a1 : Addr) (bo : Addr) (bt : Addr) (rc : Int32) (o0 : Int32) (o1 : Int32) (t0 : Int32) (t1 : Int32) (er : Int32) (es : Int32) (ea : Int32) (dp : Int32) (h0 : Heap) (n0 : Nat) (v : Option Value) (h : Heap) (L : List Loc) : Prop := v = some (.int es) ∧ Fr n0 L ∧ h = h0
set_option maxRecDepth 65536 in
set_option maxHeartbeats 40000000 in
theorem rm9 (l : Launch) (Z : State) (a0 : Array Value) (hw : ∀ d ∈ tables_1, d.before a0 Z = true) (ws : List Jvm.Cond) (a1 : Addr) (bo : Addr) (bt : Addr) (rc : Int32) (o0 : Int32) (o1 : Int32) (t0 : Int32) (t1 : Int32) (er : Int32) (es : Int32) (ea : Int32) (dp : Int32) (h0 : Heap) (n0 : Nat) (Z0 : n0 ≤ h0.size) (B0 : ownTS Z h0 n0 a1 bo bt rc dp o0 o1 t0 t1 er es ea) :
    MetFree l (⟨"com/example/rewoven_tree/rewoventree/storage/TableShape", "endedSize", "()I"⟩ : MethodName) (head1 (Jvm.Cond.code (⟨"com/example/rewoven_tree/rewoventree/storage/TableShape", "endedSize", "()I"⟩ : MethodName) prog_249_method_8_code 1 (some .int) :: ws) ({ frames := 0, cells := 0, slots := 0, locals := 0 } : Room)) (fun a U => a = #[(.ref a1)] ∧ Z.Warmed39 U.vm ∧ U.heap = h0) (fun _ _ _ _ _ => True) (fun _ U o U' => ∃ v L, o = .returned v ∧ Q9 Z a1 bo bt rc o0 o1 t0 t1 er es ea dp h0 n0 v U'.heap L ∧ FrameEnd U o U' L ({ frames := 0, cells := 0, slots := 0, locals := 0 } : Room).cells ({ frames := 0, cells := 0, slots := 0, locals := 0 } : Room).slots) := by
  have ww57 := hw _ (List.mem_of_getElem? (i := 57) rfl)
  refine MetFree.of_bodySF (plainFor_of_name pn_9) hisR ?_
  intro p e s m args below meth c s₁ Bd hml0 hP hK
  obtain ⟨rfl, hZ, hh⟩ := hP
  have hx := Bd.exec
  have hby := Bd.bytes
  have hlk : meth.locks = false := Bd.notSynchronized
  have hret := Bd.returns
  have hml : c.maxLocals = 1 := hml0
  have hown : s.vm.findClass "com/example/rewoven_tree/rewoventree/storage/TableShape" = some m.cls := findClass_of_methodNamed Bd.named
  have hnm := (name_of_methodNamed Bd.named Bd.method).1
  have X0 : Stand p l e ({ frames := 0, cells := 0, slots := 0, locals := 0 } : Room) s m #[(.ref a1)] below meth c s₁ [] 0 0 := Stand.of_body Bd
  have e0 : s₁.heap = h0 := by rw [← hh, Bd.state]; rfl
  have N0 := Fr.nil n0
  have K0 := Keep.refl h0 []
  show OwnEnd p e below s (Q9 Z a1 bo bt rc o0 o1 t0 t1 er es ea dp h0 n0) ({ frames := 0, cells := 0, slots := 0, locals := 0 } : Room).cells ({ frames := 0, cells := 0, slots := 0, locals := 0 } : Room).slots _
  refine OwnEnd.go (fun _ k => castTop (ef_9 m a1) k) ?_
  obtain ⟨ga, go, gt, n1, n2, n3, E1, F_open, F_attr, F_rc, F_dp, ⟨di, F_di⟩, F_er, F_es, F_ea, ⟨ko, V_o⟩, ⟨kt, V_t⟩⟩ := B0
  show OwnEnd p e below s _ _ _ (s₁.setTop (mkF m 0 #[.val (.ref a1)] []))
  refine OwnEnd.go (fun _ k => XS.aloadN X0.here hx rfl (hb hby d9_0) rfl rfl k) ?_
  show OwnEnd p e below s _ _ _ (s₁.setTop (mkF m 1 #[.val (.ref a1)] [(.ref a1)]))
  obtain ⟨T101, X101, e101, st101⟩ := getF X0 hx hZ hown (host := "") (Or.inl ww57) Via.refl e0 F_es (g := (mkF m 1 #[.val (.ref a1)] [(.ref a1)])) rfl rfl (hb hby d9_1)
  refine OwnEnd.go (fun _ k => st101 _ k) ?_
  show OwnEnd p e below s _ _ _ (T101.setTop (mkF m 4 #[.val (.ref a1)] [(.int es)]))
  refine ownRetI X101 hx hlk hret (hb hby d9_4) (by decide) (by decide) ?_
  show Q9 Z a1 bo bt rc o0 o1 t0 t1 er es ea dp h0 n0 _ T101.heap _
  rw [e101]
  exact ⟨rfl, N0, rfl⟩
theorem d10_0 : decode prog_249_method_9_code 0 = .ok (.aload_n 0, 1) := by decide +kernel
theorem d10_1 : decode prog_249_method_9_code 1 = .ok (.getfield 54, 3) := by decide +kernel
theorem d10_4 : decode prog_249_method_9_code 4 = .ok (.ireturn, 1) := by decide +kernel
theorem pn_10 : plainName "com/example/rewoven_tree/rewoventree/storage/TableShape" = true := by first | (simp [plainName, overriddenIn]; done) | decide +kernel
theorem ef_10 (m : MethodId) (x0 : Addr) : entryFrame m #[(.ref x0)] 1 = mkF m 0 #[.val (.ref x0)] [] := by first | (simp [entryFrame, mkF, argsToLocals, Value.category]; done) | rfl
def Q10 (Z : State) (a1 : Addr) (bo : Addr) (bt : Addr) (rc : Int32) (o0 : Int32) (o1 : Int32) (t0 : Int32) (t1 : Int32) (er : Int32) (es : Int32) (ea : Int32) (dp : Int32) (h0 : Heap) (n0 : Nat) (v : Option Value) (h : Heap) (L : List Loc) : Prop := v = some (.int ea) ∧ Fr n0 L ∧ h = h0
set_option maxRecDepth 65536 in
set_option maxHeartbeats 40000000 in
theorem rm10 (l : Launch) (Z : State) (a0 : Array Value) (hw : ∀ d ∈ tables_1, d.before a0 Z = true) (ws : List Jvm.Cond) (a1 : Addr) (bo : Addr) (bt : Addr) (rc : Int32) (o0 : Int32) (o1 : Int32) (t0 : Int32) (t1 : Int32) (er : Int32) (es : Int32) (ea : Int32) (dp : Int32) (h0 : Heap) (n0 : Nat) (Z0 : n0 ≤ h0.size) (B0 : ownTS Z h0 n0 a1 bo bt rc dp o0 o1 t0 t1 er es ea) :
    MetFree l (⟨"com/example/rewoven_tree/rewoventree/storage/TableShape", "endedAttributeCount", "()I"⟩ : MethodName) (head1 (Jvm.Cond.code (⟨"com/example/rewoven_tree/rewoventree/storage/TableShape", "endedAttributeCount", "()I"⟩ : MethodName) prog_249_method_9_code 1 (some .int) :: ws) ({ frames := 0, cells := 0, slots := 0, locals := 0 } : Room)) (fun a U => a = #[(.ref a1)] ∧ Z.Warmed39 U.vm ∧ U.heap = h0) (fun _ _ _ _ _ => True) (fun _ U o U' => ∃ v L, o = .returned v ∧ Q10 Z a1 bo bt rc o0 o1 t0 t1 er es ea dp h0 n0 v U'.heap L ∧ FrameEnd U o U' L ({ frames := 0, cells := 0, slots := 0, locals := 0 } : Room).cells ({ frames := 0, cells := 0, slots := 0, locals := 0 } : Room).slots) := by
  have ww59 := hw _ (List.mem_of_getElem? (i := 59) rfl)
  refine MetFree.of_bodySF (plainFor_of_name pn_10) hisR ?_
  intro p e s m args below meth c s₁ Bd hml0 hP hK
  obtain ⟨rfl, hZ, hh⟩ := hP
  have hx := Bd.exec
  have hby := Bd.bytes
  have hlk : meth.locks = false := Bd.notSynchronized
  have hret := Bd.returns
  have hml : c.maxLocals = 1 := hml0
  have hown : s.vm.findClass "com/example/rewoven_tree/rewoventree/storage/TableShape" = some m.cls := findClass_of_methodNamed Bd.named
  have hnm := (name_of_methodNamed Bd.named Bd.method).1
  have X0 : Stand p l e ({ frames := 0, cells := 0, slots := 0, locals := 0 } : Room) s m #[(.ref a1)] below meth c s₁ [] 0 0 := Stand.of_body Bd
  have e0 : s₁.heap = h0 := by rw [← hh, Bd.state]; rfl
  have N0 := Fr.nil n0
  have K0 := Keep.refl h0 []
  show OwnEnd p e below s (Q10 Z a1 bo bt rc o0 o1 t0 t1 er es ea dp h0 n0) ({ frames := 0, cells := 0, slots := 0, locals := 0 } : Room).cells ({ frames := 0, cells := 0, slots := 0, locals := 0 } : Room).slots _
  refine OwnEnd.go (fun _ k => castTop (ef_10 m a1) k) ?_
  obtain ⟨ga, go, gt, n1, n2, n3, E1, F_open, F_attr, F_rc, F_dp, ⟨di, F_di⟩, F_er, F_es, F_ea, ⟨ko, V_o⟩, ⟨kt, V_t⟩⟩ := B0
  show OwnEnd p e below s _ _ _ (s₁.setTop (mkF m 0 #[.val (.ref a1)] []))
  refine OwnEnd.go (fun _ k => XS.aloadN X0.here hx rfl (hb hby d10_0) rfl rfl k) ?_
  show OwnEnd p e below s _ _ _ (s₁.setTop (mkF m 1 #[.val (.ref a1)] [(.ref a1)]))
  obtain ⟨T101, X101, e101, st101⟩ := getF X0 hx hZ hown (host := "") (Or.inl ww59) Via.refl e0 F_ea (g := (mkF m 1 #[.val (.ref a1)] [(.ref a1)])) rfl rfl (hb hby d10_1)
  refine OwnEnd.go (fun _ k => st101 _ k) ?_
  show OwnEnd p e below s _ _ _ (T101.setTop (mkF m 4 #[.val (.ref a1)] [(.int ea)]))
  refine ownRetI X101 hx hlk hret (hb hby d10_4) (by decide) (by decide) ?_
  show Q10 Z a1 bo bt rc o0 o1 t0 t1 er es ea dp h0 n0 _ T101.heap _
  rw [e101]
  exact ⟨rfl, N0, rfl⟩
theorem d5d0_0 : decode prog_249_method_3_code 0 = .ok (.aload_n 0, 1) := by decide +kernel
theorem d5d0_1 : decode prog_249_method_3_code 1 = .ok (.getfield 42, 3) := by decide +kernel
theorem d5d0_4 : decode prog_249_method_3_code 4 = .ok (.istore_n 2, 1) := by decide +kernel
theorem d5d0_5 : decode prog_249_method_3_code 5 = .ok (.aload_n 0, 1) := by decide +kernel
theorem d5d0_6 : decode prog_249_method_3_code 6 = .ok (.aload_n 0, 1) := by decide +kernel
theorem d5d0_7 : decode prog_249_method_3_code 7 = .ok (.getfield 26, 3) := by decide +kernel
theorem d5d0_10 : decode prog_249_method_3_code 10 = .ok (.ifCond .ne 7, 3) := by decide +kernel
theorem d5d0_13 : decode prog_249_method_3_code 13 = .ok (.iconst 0, 1) := by decide +kernel
theorem d5d0_14 : decode prog_249_method_3_code 14 = .ok (.goto 16, 3) := by decide +kernel
theorem d5d0_30 : decode prog_249_method_3_code 30 = .ok (.putfield 45, 3) := by decide +kernel
theorem d5d0_33 : decode prog_249_method_3_code 33 = .ok (.aload_n 0, 1) := by decide +kernel
theorem d5d0_34 : decode prog_249_method_3_code 34 = .ok (.dup, 1) := by decide +kernel
theorem d5d0_35 : decode prog_249_method_3_code 35 = .ok (.getfield 42, 3) := by decide +kernel
theorem d5d0_38 : decode prog_249_method_3_code 38 = .ok (.iload_n 1, 1) := by decide +kernel
theorem d5d0_39 : decode prog_249_method_3_code 39 = .ok (.iadd, 1) := by decide +kernel
theorem d5d0_40 : decode prog_249_method_3_code 40 = .ok (.putfield 42, 3) := by decide +kernel
theorem d5d0_43 : decode prog_249_method_3_code 43 = .ok (.iload_n 2, 1) := by decide +kernel
theorem d5d0_44 : decode prog_249_method_3_code 44 = .ok (.ireturn, 1) := by decide +kernel
theorem pn_5d0 : plainName "com/example/rewoven_tree/rewoventree/storage/TableShape" = true := by first | (simp [plainName, overriddenIn]; done) | decide +kernel
theorem ef_5d0 (m : MethodId) (x0 : Addr) (x1 : Int32) : entryFrame m #[(.ref x0), (.int x1)] 3 = mkF m 0 #[.val (.ref x0), .val (.int x1), .unset] [] := by first | (simp [entryFrame, mkF, argsToLocals, Value.category]; done) | rfl
def Q5d0 (Z : State) (a1 : Addr) (p2 : Int32) (bo : Addr) (bt : Addr) (rc : Int32) (o0 : Int32) (o1 : Int32) (t0 : Int32) (t1 : Int32) (er : Int32) (es : Int32) (ea : Int32) (h0 : Heap) (n0 : Nat) (v : Option Value) (h : Heap) (L : List Loc) : Prop := v = some (.int rc) ∧ Fr n0 L ∧ Keep h0 h [a1, bo, bt] ∧ ownTS Z h n0 a1 bo bt (rc + p2) (0 : Int32) o0 o1 t0 t1 er es ea
set_option maxRecDepth 65536 in
set_option maxHeartbeats 40000000 in
theorem rm5d0 (l : Launch) (Z : State) (a0 : Array Value) (hw : ∀ d ∈ tables_1, d.before a0 Z = true) (ws : List Jvm.Cond) (a1 : Addr) (p2 : Int32) (bo : Addr) (bt : Addr) (rc : Int32) (o0 : Int32) (o1 : Int32) (t0 : Int32) (t1 : Int32) (er : Int32) (es : Int32) (ea : Int32) (h0 : Heap) (n0 : Nat) (Z0 : n0 ≤ h0.size) (B0 : ownTS Z h0 n0 a1 bo bt rc (0 : Int32) o0 o1 t0 t1 er es ea) :
    MetFree l (⟨"com/example/rewoven_tree/rewoventree/storage/TableShape", "placeSubtree", "(I)I"⟩ : MethodName) (head1 (Jvm.Cond.code (⟨"com/example/rewoven_tree/rewoventree/storage/TableShape", "placeSubtree", "(I)I"⟩ : MethodName) prog_249_method_3_code 3 (some .int) :: ws) ({ frames := 0, cells := 0, slots := 0, locals := 0 } : Room)) (fun a U => a = #[(.ref a1), (.int p2)] ∧ Z.Warmed39 U.vm ∧ U.heap = h0) (fun _ _ _ _ _ => True) (fun _ U o U' => ∃ v L, o = .returned v ∧ Q5d0 Z a1 p2 bo bt rc o0 o1 t0 t1 er es ea h0 n0 v U'.heap L ∧ FrameEnd U o U' L ({ frames := 0, cells := 0, slots := 0, locals := 0 } : Room).cells ({ frames := 0, cells := 0, slots := 0, locals := 0 } : Room).slots) := by
  have ww2 := hw _ (List.mem_of_getElem? (i := 2) rfl)
  have ww12 := hw _ (List.mem_of_getElem? (i := 12) rfl)
  have ww14 := hw _ (List.mem_of_getElem? (i := 14) rfl)
  have ww20 := hw _ (List.mem_of_getElem? (i := 20) rfl)
  have ww21 := hw _ (List.mem_of_getElem? (i := 21) rfl)
  have ww35 := hw _ (List.mem_of_getElem? (i := 35) rfl)
  have ww36 := hw _ (List.mem_of_getElem? (i := 36) rfl)
  have ww37 := hw _ (List.mem_of_getElem? (i := 37) rfl)
  have ww38 := hw _ (List.mem_of_getElem? (i := 38) rfl)
  have ww56 := hw _ (List.mem_of_getElem? (i := 56) rfl)
  have ww58 := hw _ (List.mem_of_getElem? (i := 58) rfl)
  have ww60 := hw _ (List.mem_of_getElem? (i := 60) rfl)
  refine MetFree.of_bodySF (plainFor_of_name pn_5d0) hisR ?_
  intro p e s m args below meth c s₁ Bd hml0 hP hK
  obtain ⟨rfl, hZ, hh⟩ := hP
  have hx := Bd.exec
  have hby := Bd.bytes
  have hlk : meth.locks = false := Bd.notSynchronized
  have hret := Bd.returns
  have hml : c.maxLocals = 3 := hml0
  have hown : s.vm.findClass "com/example/rewoven_tree/rewoventree/storage/TableShape" = some m.cls := findClass_of_methodNamed Bd.named
  have hnm := (name_of_methodNamed Bd.named Bd.method).1
  have X0 : Stand p l e ({ frames := 0, cells := 0, slots := 0, locals := 0 } : Room) s m #[(.ref a1), (.int p2)] below meth c s₁ [] 0 0 := Stand.of_body Bd
  have e0 : s₁.heap = h0 := by rw [← hh, Bd.state]; rfl
  have N0 := Fr.nil n0
  have K0 := Keep.refl h0 [a1, bo, bt]
  show OwnEnd p e below s (Q5d0 Z a1 p2 bo bt rc o0 o1 t0 t1 er es ea h0 n0) ({ frames := 0, cells := 0, slots := 0, locals := 0 } : Room).cells ({ frames := 0, cells := 0, slots := 0, locals := 0 } : Room).slots _
  refine OwnEnd.go (fun _ k => castTop (ef_5d0 m a1 p2) k) ?_
  obtain ⟨ga, go, gt, n1, n2, n3, E1, F_open, F_attr, F_rc, F_dp, ⟨di, F_di⟩, F_er, F_es, F_ea, ⟨ko, V_o⟩, ⟨kt, V_t⟩⟩ := B0
  show OwnEnd p e below s _ _ _ (s₁.setTop (mkF m 0 #[.val (.ref a1), .val (.int p2), .unset] []))
  refine OwnEnd.go (fun _ k => XS.aloadN X0.here hx rfl (hb hby d5d0_0) rfl rfl k) ?_
  show OwnEnd p e below s _ _ _ (s₁.setTop (mkF m 1 #[.val (.ref a1), .val (.int p2), .unset] [(.ref a1)]))
  obtain ⟨T101, X101, e101, st101⟩ := getF X0 hx hZ hown (host := "") (Or.inl ww20) Via.refl e0 F_rc (g := (mkF m 1 #[.val (.ref a1), .val (.int p2), .unset] [(.ref a1)])) rfl rfl (hb hby d5d0_1)
  refine OwnEnd.go (fun _ k => st101 _ k) ?_
  show OwnEnd p e below s _ _ _ (T101.setTop (mkF m 4 #[.val (.ref a1), .val (.int p2), .unset] [(.int rc)]))
  refine OwnEnd.go (fun _ k => XS.istoreN X101.here hx rfl (hb hby d5d0_4) rfl  (l' := #[.val (.ref a1), .val (.int p2), .val (.int rc)]) rfl k) ?_
  show OwnEnd p e below s _ _ _ (T101.setTop (mkF m 5 #[.val (.ref a1), .val (.int p2), .val (.int rc)] []))
  refine OwnEnd.go (fun _ k => XS.aloadN X101.here hx rfl (hb hby d5d0_5) rfl rfl k) ?_
  show OwnEnd p e below s _ _ _ (T101.setTop (mkF m 6 #[.val (.ref a1), .val (.int p2), .val (.int rc)] [(.ref a1)]))
  refine OwnEnd.go (fun _ k => XS.aloadN X101.here hx rfl (hb hby d5d0_6) rfl rfl k) ?_
  show OwnEnd p e below s _ _ _ (T101.setTop (mkF m 7 #[.val (.ref a1), .val (.int p2), .val (.int rc)] [(.ref a1), (.ref a1)]))
  obtain ⟨T102, X102, e102, st102⟩ := getF X101 hx hZ hown (host := "") (Or.inl ww35) Via.refl e101 F_dp (g := (mkF m 7 #[.val (.ref a1), .val (.int p2), .val (.int rc)] [(.ref a1), (.ref a1)])) rfl rfl (hb hby d5d0_7)
  refine OwnEnd.go (fun _ k => st102 _ k) ?_
  show OwnEnd p e below s _ _ _ (T102.setTop (mkF m 10 #[.val (.ref a1), .val (.int p2), .val (.int rc)] [(.int (0 : Int32)), (.ref a1)]))
  refine OwnEnd.go (fun _ k => XS.ifNo X102.here hx rfl (hb hby d5d0_10) rfl ((if0 _ _).trans (teq (by decide : (0 : Int32) = (0 : Int32))).2) k) ?_
  show OwnEnd p e below s _ _ _ (T102.setTop (mkF m 13 #[.val (.ref a1), .val (.int p2), .val (.int rc)] [(.ref a1)]))
  refine OwnEnd.go (fun _ k => XS.iconst X102.here hx rfl (hb hby d5d0_13) k) ?_
  show OwnEnd p e below s _ _ _ (T102.setTop (mkF m 14 #[.val (.ref a1), .val (.int p2), .val (.int rc)] [(.int (0 : Int32)), (.ref a1)]))
  refine OwnEnd.go (fun _ k => XS.goto X102.here hx rfl (pc0 := 14) (pc' := 30) rfl (hb hby d5d0_14) (by decide) (by decide) k) ?_
  show OwnEnd p e below s _ _ _ (T102.setTop (mkF m 30 #[.val (.ref a1), .val (.int p2), .val (.int rc)] [(.int (0 : Int32)), (.ref a1)]))
  obtain ⟨T103, h103, X103, e103, W103, st103⟩ := putF X102 hx hZ hown (host := "") (Or.inl ww37) Via.refl e102 F_di E1 (Or.inl ww38) ww2 (ty := .int) (by decide) rfl rfl (g := (mkF m 30 #[.val (.ref a1), .val (.int p2), .val (.int rc)] [(.int (0 : Int32)), (.ref a1)])) rfl rfl (hb hby d5d0_30)
  have F105 := E1.wr W103
  have F106 := F_open.other W103 (Or.inr (slot_ne (Or.inl ww12) (Or.inl ww38) (by decide) (t := (.array .int)) (t' := .int) (by decide) (by decide)))
  have F107 := F_attr.other W103 (Or.inr (slot_ne (Or.inl ww14) (Or.inl ww38) (by decide) (t := (.array .int)) (t' := .int) (by decide) (by decide)))
  have F108 := F_rc.other W103 (Or.inr (slot_ne (Or.inl ww21) (Or.inl ww38) (by decide) (t := .int) (t' := .int) (by decide) (by decide)))
  have F109 := F_dp.other W103 (Or.inr (slot_ne (Or.inl ww36) (Or.inl ww38) (by decide) (t := .int) (t' := .int) (by decide) (by decide)))
  have F110 := F_di.same W103
  have F111 := F_er.other W103 (Or.inr (slot_ne (Or.inl ww56) (Or.inl ww38) (by decide) (t := .int) (t' := .int) (by decide) (by decide)))
  have F112 := F_es.other W103 (Or.inr (slot_ne (Or.inl ww58) (Or.inl ww38) (by decide) (t := .int) (t' := .int) (by decide) (by decide)))
  have F113 := F_ea.other W103 (Or.inr (slot_ne (Or.inl ww60) (Or.inl ww38) (by decide) (t := .int) (t' := .int) (by decide) (by decide)))
  have F114 := V_o.other W103 (Ne.symm n1)
  have F115 := V_t.other W103 (Ne.symm n2)
  have N103 := Fr.snoc X103 N0 ga
  have K103 := K0.wr W103 (Or.inl (List.mem_of_getElem? (i := 0) rfl))
  have Y103 := Nat.le_trans Z0 (Nat.le_of_eq W103.size.symm)
  refine OwnEnd.go (fun _ k => st103 _ k) ?_
  show OwnEnd p e below s _ _ _ (T103.setTop (mkF m 33 #[.val (.ref a1), .val (.int p2), .val (.int rc)] []))
  refine OwnEnd.go (fun _ k => XS.aloadN X103.here hx rfl (hb hby d5d0_33) rfl rfl k) ?_
  show OwnEnd p e below s _ _ _ (T103.setTop (mkF m 34 #[.val (.ref a1), .val (.int p2), .val (.int rc)] [(.ref a1)]))
  refine OwnEnd.go (fun _ k => XS.dup X103.here hx rfl (hb hby d5d0_34) rfl rfl k) ?_
  show OwnEnd p e below s _ _ _ (T103.setTop (mkF m 35 #[.val (.ref a1), .val (.int p2), .val (.int rc)] [(.ref a1), (.ref a1)]))
  obtain ⟨T116, X116, e116, st116⟩ := getF X103 hx hZ hown (host := "") (Or.inl ww20) Via.refl e103 F108 (g := (mkF m 35 #[.val (.ref a1), .val (.int p2), .val (.int rc)] [(.ref a1), (.ref a1)])) rfl rfl (hb hby d5d0_35)
  refine OwnEnd.go (fun _ k => st116 _ k) ?_
  show OwnEnd p e below s _ _ _ (T116.setTop (mkF m 38 #[.val (.ref a1), .val (.int p2), .val (.int rc)] [(.int rc), (.ref a1)]))
  refine OwnEnd.go (fun _ k => XS.iloadN X116.here hx rfl (hb hby d5d0_38) rfl  k) ?_
  show OwnEnd p e below s _ _ _ (T116.setTop (mkF m 39 #[.val (.ref a1), .val (.int p2), .val (.int rc)] [(.int p2), (.int rc), (.ref a1)]))
  refine OwnEnd.go (fun _ k => XS.iadd X116.here hx rfl (hb hby d5d0_39) rfl k) ?_
  show OwnEnd p e below s _ _ _ (T116.setTop (mkF m 40 #[.val (.ref a1), .val (.int p2), .val (.int rc)] [(.int (rc + p2)), (.ref a1)]))
  obtain ⟨T117, h117, X117, e117, W117, st117⟩ := putF X116 hx hZ hown (host := "") (Or.inl ww20) Via.refl e116 F108 F105 (Or.inl ww21) ww2 (ty := .int) (by decide) rfl rfl (g := (mkF m 40 #[.val (.ref a1), .val (.int p2), .val (.int rc)] [(.int (rc + p2)), (.ref a1)])) rfl rfl (hb hby d5d0_40)
  have F118 := F105.wr W117
  have F119 := F106.other W117 (Or.inr (slot_ne (Or.inl ww12) (Or.inl ww21) (by decide) (t := (.array .int)) (t' := .int) (by decide) (by decide)))
  have F120 := F107.other W117 (Or.inr (slot_ne (Or.inl ww14) (Or.inl ww21) (by decide) (t := (.array .int)) (t' := .int) (by decide) (by decide)))
  have F121 := F108.same W117
  have F122 := F109.other W117 (Or.inr (slot_ne (Or.inl ww36) (Or.inl ww21) (by decide) (t := .int) (t' := .int) (by decide) (by decide)))
  have F123 := F110.other W117 (Or.inr (slot_ne (Or.inl ww38) (Or.inl ww21) (by decide) (t := .int) (t' := .int) (by decide) (by decide)))
  have F124 := F111.other W117 (Or.inr (slot_ne (Or.inl ww56) (Or.inl ww21) (by decide) (t := .int) (t' := .int) (by decide) (by decide)))
  have F125 := F112.other W117 (Or.inr (slot_ne (Or.inl ww58) (Or.inl ww21) (by decide) (t := .int) (t' := .int) (by decide) (by decide)))
  have F126 := F113.other W117 (Or.inr (slot_ne (Or.inl ww60) (Or.inl ww21) (by decide) (t := .int) (t' := .int) (by decide) (by decide)))
  have F127 := F114.other W117 (Ne.symm n1)
  have F128 := F115.other W117 (Ne.symm n2)
  have N117 := Fr.snoc X117 N103 ga
  have K117 := K103.wr W117 (Or.inl (List.mem_of_getElem? (i := 0) rfl))
  have Y117 := Nat.le_trans Y103 (Nat.le_of_eq W117.size.symm)
  refine OwnEnd.go (fun _ k => st117 _ k) ?_
  show OwnEnd p e below s _ _ _ (T117.setTop (mkF m 43 #[.val (.ref a1), .val (.int p2), .val (.int rc)] []))
  refine OwnEnd.go (fun _ k => XS.iloadN X117.here hx rfl (hb hby d5d0_43) rfl  k) ?_
  show OwnEnd p e below s _ _ _ (T117.setTop (mkF m 44 #[.val (.ref a1), .val (.int p2), .val (.int rc)] [(.int rc)]))
  refine ownRetI X117 hx hlk hret (hb hby d5d0_44) (by decide) (by decide) ?_
  show Q5d0 Z a1 p2 bo bt rc o0 o1 t0 t1 er es ea h0 n0 _ T117.heap _
  rw [e117]
  exact ⟨rfl, N117, K117, ⟨ga, go, gt, n1, n2, n3, F118, F119, F120, F121, F122, ⟨_, F123⟩, F124, F125, F126, ⟨_, F127⟩, ⟨_, F128⟩⟩⟩
theorem d4d0open_0 : decode prog_249_method_2_code 0 = .ok (.aload_n 0, 1) := by decide +kernel
theorem d4d0open_1 : decode prog_249_method_2_code 1 = .ok (.iconst 1, 1) := by decide +kernel
theorem d4d0open_2 : decode prog_249_method_2_code 2 = .ok (.invokevirtual 16, 3) := by decide +kernel
theorem d4d0open_5 : decode prog_249_method_2_code 5 = .ok (.istore_n 2, 1) := by decide +kernel
theorem d4d0open_6 : decode prog_249_method_2_code 6 = .ok (.aload_n 1, 1) := by decide +kernel
theorem d4d0open_7 : decode prog_249_method_2_code 7 = .ok (.getstatic 20, 3) := by decide +kernel
theorem d4d0open_10 : decode prog_249_method_2_code 10 = .ok (.if_acmp .ne 25, 3) := by decide +kernel
theorem d4d0open_35 : decode prog_249_method_2_code 35 = .ok (.aload_n 1, 1) := by decide +kernel
theorem d4d0open_36 : decode prog_249_method_2_code 36 = .ok (.getstatic 30, 3) := by decide +kernel
theorem d4d0open_39 : decode prog_249_method_2_code 39 = .ok (.if_acmp .eq 10, 3) := by decide +kernel
theorem d4d0open_42 : decode prog_249_method_2_code 42 = .ok (.aload_n 1, 1) := by decide +kernel
theorem d4d0open_43 : decode prog_249_method_2_code 43 = .ok (.getstatic 33, 3) := by decide +kernel
theorem d4d0open_46 : decode prog_249_method_2_code 46 = .ok (.if_acmp .ne 79, 3) := by decide +kernel
theorem d4d0open_49 : decode prog_249_method_2_code 49 = .ok (.aload_n 0, 1) := by decide +kernel
theorem d4d0open_50 : decode prog_249_method_2_code 50 = .ok (.getfield 26, 3) := by decide +kernel
theorem d4d0open_53 : decode prog_249_method_2_code 53 = .ok (.aload_n 0, 1) := by decide +kernel
theorem d4d0open_54 : decode prog_249_method_2_code 54 = .ok (.getfield 7, 3) := by decide +kernel
theorem d4d0open_57 : decode prog_249_method_2_code 57 = .ok (.arraylength, 1) := by decide +kernel
theorem d4d0open_58 : decode prog_249_method_2_code 58 = .ok (.if_icmp .ne 37, 3) := by decide +kernel
theorem d4d0open_95 : decode prog_249_method_2_code 95 = .ok (.aload_n 0, 1) := by decide +kernel
theorem d4d0open_96 : decode prog_249_method_2_code 96 = .ok (.getfield 7, 3) := by decide +kernel
theorem d4d0open_99 : decode prog_249_method_2_code 99 = .ok (.aload_n 0, 1) := by decide +kernel
theorem d4d0open_100 : decode prog_249_method_2_code 100 = .ok (.getfield 26, 3) := by decide +kernel
theorem d4d0open_103 : decode prog_249_method_2_code 103 = .ok (.iload_n 2, 1) := by decide +kernel
theorem d4d0open_104 : decode prog_249_method_2_code 104 = .ok (.iastore, 1) := by decide +kernel
theorem d4d0open_105 : decode prog_249_method_2_code 105 = .ok (.aload_n 0, 1) := by decide +kernel
theorem d4d0open_106 : decode prog_249_method_2_code 106 = .ok (.getfield 13, 3) := by decide +kernel
theorem d4d0open_109 : decode prog_249_method_2_code 109 = .ok (.aload_n 0, 1) := by decide +kernel
theorem d4d0open_110 : decode prog_249_method_2_code 110 = .ok (.getfield 26, 3) := by decide +kernel
theorem d4d0open_113 : decode prog_249_method_2_code 113 = .ok (.iconst 0, 1) := by decide +kernel
theorem d4d0open_114 : decode prog_249_method_2_code 114 = .ok (.iastore, 1) := by decide +kernel
theorem d4d0open_115 : decode prog_249_method_2_code 115 = .ok (.aload_n 0, 1) := by decide +kernel
theorem d4d0open_116 : decode prog_249_method_2_code 116 = .ok (.dup, 1) := by decide +kernel
theorem d4d0open_117 : decode prog_249_method_2_code 117 = .ok (.getfield 26, 3) := by decide +kernel
theorem d4d0open_120 : decode prog_249_method_2_code 120 = .ok (.iconst 1, 1) := by decide +kernel
theorem d4d0open_121 : decode prog_249_method_2_code 121 = .ok (.iadd, 1) := by decide +kernel
theorem d4d0open_122 : decode prog_249_method_2_code 122 = .ok (.putfield 26, 3) := by decide +kernel
theorem d4d0open_125 : decode prog_249_method_2_code 125 = .ok (.iload_n 2, 1) := by decide +kernel
theorem d4d0open_126 : decode prog_249_method_2_code 126 = .ok (.ireturn, 1) := by decide +kernel
theorem pn_4d0open : plainName "com/example/rewoven_tree/rewoventree/storage/TableShape" = true := by first | (simp [plainName, overriddenIn]; done) | decide +kernel
theorem pd4d0open_0 : parseMethodDescriptor "(I)I" = some ⟨[.int], some .int⟩ := by decide +kernel
theorem ef_4d0open (m : MethodId) (x0 : Addr) (x1 : Addr) : entryFrame m #[(.ref x0), (.ref x1)] 3 = mkF m 0 #[.val (.ref x0), .val (.ref x1), .unset] [] := by first | (simp [entryFrame, mkF, argsToLocals, Value.category]; done) | rfl
def Q4d0open (Z : State) (a1 : Addr) (a2 : Addr) (bo : Addr) (bt : Addr) (rc : Int32) (o0 : Int32) (o1 : Int32) (t0 : Int32) (t1 : Int32) (er : Int32) (es : Int32) (ea : Int32) (xA : Addr) (xE : Addr) (xD : Addr) (h0 : Heap) (n0 : Nat) (v : Option Value) (h : Heap) (L : List Loc) : Prop := v = some (.int rc) ∧ Fr n0 L ∧ Keep h0 h [a1, bo, bt] ∧ ownTS Z h n0 a1 bo bt (rc + (1 : Int32)) (1 : Int32) rc o1 (0 : Int32) t1 er es ea
set_option maxRecDepth 65536 in
set_option maxHeartbeats 40000000 in
theorem rm4d0open (l : Launch) (Z : State) (a0 : Array Value) (hw : ∀ d ∈ tables_1, d.before a0 Z = true) (ws : List Jvm.Cond) (a1 : Addr) (a2 : Addr) (bo : Addr) (bt : Addr) (rc : Int32) (o0 : Int32) (o1 : Int32) (t0 : Int32) (t1 : Int32) (er : Int32) (es : Int32) (ea : Int32) (xA : Addr) (xE : Addr) (xD : Addr) (h0 : Heap) (n0 : Nat) (Z0 : n0 ≤ h0.size) (O0 : Old Z n0 h0) (SA : Sta Z Z.heap "com/example/rewoven_tree/rewoventree/storage/NodeKind" "ATTRIBUTE" "Lcom/example/rewoven_tree/rewoventree/storage/NodeKind;" (.ref xA)) (SE : Sta Z Z.heap "com/example/rewoven_tree/rewoventree/storage/NodeKind" "ELEMENT" "Lcom/example/rewoven_tree/rewoventree/storage/NodeKind;" (.ref xE)) (SD : Sta Z Z.heap "com/example/rewoven_tree/rewoventree/storage/NodeKind" "DOCUMENT" "Lcom/example/rewoven_tree/rewoventree/storage/NodeKind;" (.ref xD)) (nA : a2 ≠ xA) (hk : a2 = xE ∨ a2 = xD) (B0 : ownTS Z h0 n0 a1 bo bt rc (0 : Int32) o0 o1 t0 t1 er es ea) :
    MetFree l (⟨"com/example/rewoven_tree/rewoventree/storage/TableShape", "place", "(Lcom/example/rewoven_tree/rewoventree/storage/NodeKind;)I"⟩ : MethodName) (head1 (Jvm.Cond.code (⟨"com/example/rewoven_tree/rewoventree/storage/TableShape", "place", "(Lcom/example/rewoven_tree/rewoventree/storage/NodeKind;)I"⟩ : MethodName) prog_249_method_2_code 3 (some .int) :: ws) ({ frames := 1, cells := 0, slots := 0, locals := 14 } : Room)) (fun a U => a = #[(.ref a1), (.ref a2)] ∧ Z.Warmed39 U.vm ∧ U.heap = h0) (fun _ _ _ _ _ => True) (fun _ U o U' => ∃ v L, o = .returned v ∧ Q4d0open Z a1 a2 bo bt rc o0 o1 t0 t1 er es ea xA xE xD h0 n0 v U'.heap L ∧ FrameEnd U o U' L ({ frames := 1, cells := 0, slots := 0, locals := 14 } : Room).cells ({ frames := 1, cells := 0, slots := 0, locals := 14 } : Room).slots) := by
  have ww2 := hw _ (List.mem_of_getElem? (i := 2) rfl)
  have ww3 := hw _ (List.mem_of_getElem? (i := 3) rfl)
  have ww11 := hw _ (List.mem_of_getElem? (i := 11) rfl)
  have ww12 := hw _ (List.mem_of_getElem? (i := 12) rfl)
  have ww13 := hw _ (List.mem_of_getElem? (i := 13) rfl)
  have ww14 := hw _ (List.mem_of_getElem? (i := 14) rfl)
  have ww21 := hw _ (List.mem_of_getElem? (i := 21) rfl)
  have ww30 := hw _ (List.mem_of_getElem? (i := 30) rfl)
  have ww31 := hw _ (List.mem_of_getElem? (i := 31) rfl)
  have ww32 := hw _ (List.mem_of_getElem? (i := 32) rfl)
  have ww33 := hw _ (List.mem_of_getElem? (i := 33) rfl)
  have ww34 := hw _ (List.mem_of_getElem? (i := 34) rfl)
  have ww35 := hw _ (List.mem_of_getElem? (i := 35) rfl)
  have ww36 := hw _ (List.mem_of_getElem? (i := 36) rfl)
  have ww38 := hw _ (List.mem_of_getElem? (i := 38) rfl)
  have ww39 := hw _ (List.mem_of_getElem? (i := 39) rfl)
  have ww41 := hw _ (List.mem_of_getElem? (i := 41) rfl)
  have ww43 := hw _ (List.mem_of_getElem? (i := 43) rfl)
  have ww56 := hw _ (List.mem_of_getElem? (i := 56) rfl)
  have ww58 := hw _ (List.mem_of_getElem? (i := 58) rfl)
  have ww60 := hw _ (List.mem_of_getElem? (i := 60) rfl)
  refine MetFree.of_bodySF (plainFor_of_name pn_4d0open) hisR ?_
  intro p e s m args below meth c s₁ Bd hml0 hP hK
  obtain ⟨rfl, hZ, hh⟩ := hP
  have hx := Bd.exec
  have hby := Bd.bytes
  have hlk : meth.locks = false := Bd.notSynchronized
  have hret := Bd.returns
  have hml : c.maxLocals = 3 := hml0
  have hown : s.vm.findClass "com/example/rewoven_tree/rewoventree/storage/TableShape" = some m.cls := findClass_of_methodNamed Bd.named
  have hnm := (name_of_methodNamed Bd.named Bd.method).1
  have X0 : Stand p l e ({ frames := 1, cells := 0, slots := 0, locals := 14 } : Room) s m #[(.ref a1), (.ref a2)] below meth c s₁ [] 0 0 := Stand.of_body Bd
  have e0 : s₁.heap = h0 := by rw [← hh, Bd.state]; rfl
  have N0 := Fr.nil n0
  have K0 := Keep.refl h0 [a1, bo, bt]
  show OwnEnd p e below s (Q4d0open Z a1 a2 bo bt rc o0 o1 t0 t1 er es ea xA xE xD h0 n0) ({ frames := 1, cells := 0, slots := 0, locals := 14 } : Room).cells ({ frames := 1, cells := 0, slots := 0, locals := 14 } : Room).slots _
  refine OwnEnd.go (fun _ k => castTop (ef_4d0open m a1 a2) k) ?_
  have E1 := B0.2.2.2.2.2.2.1
  have ga := B0.1
  have go := B0.2.1
  have gt := B0.2.2.1
  show OwnEnd p e below s _ _ _ (s₁.setTop (mkF m 0 #[.val (.ref a1), .val (.ref a2), .unset] []))
  refine OwnEnd.go (fun _ k => XS.aloadN X0.here hx rfl (hb hby d4d0open_0) rfl rfl k) ?_
  show OwnEnd p e below s _ _ _ (s₁.setTop (mkF m 1 #[.val (.ref a1), .val (.ref a2), .unset] [(.ref a1)]))
  refine OwnEnd.go (fun _ k => XS.iconst X0.here hx rfl (hb hby d4d0open_1) k) ?_
  show OwnEnd p e below s _ _ _ (s₁.setTop (mkF m 2 #[.val (.ref a1), .val (.ref a2), .unset] [(.int (1 : Int32)), (.ref a1)]))
  obtain ⟨_, T101, L101, X101, hQ101, st101⟩ := ownCallV X0 hx hZ hown ww30 ww31 ww33 ww32 ww3 ww34 (by decide) (rm5d0 l Z a0 hw [] a1 (1 : Int32) bo bt rc o0 o1 t0 t1 er es ea h0 n0 Z0  B0) e0 E1 0 (by decide) (by decide) (by decide) (by decide) (g := (mkF m 2 #[.val (.ref a1), .val (.ref a2), .unset] [(.int (1 : Int32)), (.ref a1)])) rfl (by rw [hml]; rfl) (argsL := [(.int (1 : Int32))]) (rest := []) (lenOf pd4d0open_0 rfl) rfl rfl (by show 2 * 0 + _ ≤ _; exact Nat.le_of_eq rfl) (hb hby d4d0open_2)
  obtain ⟨rfl, N101q, K101q, P102⟩ := hQ101
  have N101 := Fr.app N0 N101q
  have F104 := E1.keep K101q
  have K101 := K0.trans K101q (allS (Or.inl (List.mem_of_getElem? (i := 0) rfl)) (allS (Or.inl (List.mem_of_getElem? (i := 1) rfl)) (allS (Or.inl (List.mem_of_getElem? (i := 2) rfl)) all0)))
  have Y101 := Nat.le_trans Z0 K101q.1
  have O101 := O0.keep K101q (allS ga (allS go (allS gt all0)))
  refine OwnEnd.go (fun _ k => st101 _ k) ?_
  obtain ⟨-, -, -, n1, n2, n3, E2, F_open, F_attr, F_rc, F_dp, ⟨di, F_di⟩, F_er, F_es, F_ea, ⟨ko, V_o⟩, ⟨kt, V_t⟩⟩ := P102
  show OwnEnd p e below s _ _ _ (T101.setTop (mkF m 5 #[.val (.ref a1), .val (.ref a2), .unset] [(.int rc)]))
  refine OwnEnd.go (fun _ k => XS.istoreN X101.here hx rfl (hb hby d4d0open_5) rfl  (l' := #[.val (.ref a1), .val (.ref a2), .val (.int rc)]) rfl k) ?_
  show OwnEnd p e below s _ _ _ (T101.setTop (mkF m 6 #[.val (.ref a1), .val (.ref a2), .val (.int rc)] []))
  refine OwnEnd.go (fun _ k => XS.aloadN X101.here hx rfl (hb hby d4d0open_6) rfl rfl k) ?_
  show OwnEnd p e below s _ _ _ (T101.setTop (mkF m 7 #[.val (.ref a1), .val (.ref a2), .val (.int rc)] [(.ref a2)]))
  obtain ⟨T105, X105, e105, st105⟩ := getS2 X101 hx hZ hown (host := "") (Or.inl ww39) Via.refl (rfl : T101.heap = T101.heap) (SA.ext O101.2) (g := (mkF m 7 #[.val (.ref a1), .val (.ref a2), .val (.int rc)] [(.ref a2)])) rfl (hb hby d4d0open_7)
  refine OwnEnd.go (fun _ k => st105 _ k) ?_
  show OwnEnd p e below s _ _ _ (T105.setTop (mkF m 10 #[.val (.ref a1), .val (.ref a2), .val (.int rc)] [(.ref xA), (.ref a2)]))
  refine OwnEnd.go (fun _ k => Jvm.RoadKit.acmp (g := (mkF m 10 #[.val (.ref a1), .val (.ref a2), .val (.int rc)] [(.ref xA), (.ref a2)])) X105 hx rfl rfl rfl (pc0 := 10) (pc' := 35) (same := false) rfl (hb hby d4d0open_10) rfl (decide_eq_false fun q => nA (Value.ref.inj q)) (by decide) (by decide) k) ?_
  show OwnEnd p e below s _ _ _ (T105.setTop (mkF m 35 #[.val (.ref a1), .val (.ref a2), .val (.int rc)] []))
  refine OwnEnd.go (fun _ k => XS.aloadN X105.here hx rfl (hb hby d4d0open_35) rfl rfl k) ?_
  show OwnEnd p e below s _ _ _ (T105.setTop (mkF m 36 #[.val (.ref a1), .val (.ref a2), .val (.int rc)] [(.ref a2)]))
  obtain ⟨T106, X106, e106, st106⟩ := getS2 X105 hx hZ hown (host := "") (Or.inl ww41) Via.refl e105 (SE.ext O101.2) (g := (mkF m 36 #[.val (.ref a1), .val (.ref a2), .val (.int rc)] [(.ref a2)])) rfl (hb hby d4d0open_36)
  refine OwnEnd.go (fun _ k => st106 _ k) ?_
  show OwnEnd p e below s _ _ _ (T106.setTop (mkF m 39 #[.val (.ref a1), .val (.ref a2), .val (.int rc)] [(.ref xE), (.ref a2)]))
  by_cases ha107 : a2 = xE
  · refine OwnEnd.go (fun _ k => Jvm.RoadKit.acmp (g := (mkF m 39 #[.val (.ref a1), .val (.ref a2), .val (.int rc)] [(.ref xE), (.ref a2)])) X106 hx rfl rfl rfl (pc0 := 39) (pc' := 49) (same := true) rfl (hb hby d4d0open_39) rfl (decide_eq_true (congrArg Value.ref ha107)) (by decide) (by decide) k) ?_
    show OwnEnd p e below s _ _ _ (T106.setTop (mkF m 49 #[.val (.ref a1), .val (.ref a2), .val (.int rc)] []))
    refine OwnEnd.go (fun _ k => XS.aloadN X106.here hx rfl (hb hby d4d0open_49) rfl rfl k) ?_
    show OwnEnd p e below s _ _ _ (T106.setTop (mkF m 50 #[.val (.ref a1), .val (.ref a2), .val (.int rc)] [(.ref a1)]))
    obtain ⟨T108, X108, e108, st108⟩ := getF X106 hx hZ hown (host := "") (Or.inl ww35) Via.refl e106 F_dp (g := (mkF m 50 #[.val (.ref a1), .val (.ref a2), .val (.int rc)] [(.ref a1)])) rfl rfl (hb hby d4d0open_50)
    refine OwnEnd.go (fun _ k => st108 _ k) ?_
    show OwnEnd p e below s _ _ _ (T108.setTop (mkF m 53 #[.val (.ref a1), .val (.ref a2), .val (.int rc)] [(.int (0 : Int32))]))
    refine OwnEnd.go (fun _ k => XS.aloadN X108.here hx rfl (hb hby d4d0open_53) rfl rfl k) ?_
    show OwnEnd p e below s _ _ _ (T108.setTop (mkF m 54 #[.val (.ref a1), .val (.ref a2), .val (.int rc)] [(.ref a1), (.int (0 : Int32))]))
    obtain ⟨T109, X109, e109, st109⟩ := getF X108 hx hZ hown (host := "") (Or.inl ww11) Via.refl e108 F_open (g := (mkF m 54 #[.val (.ref a1), .val (.ref a2), .val (.int rc)] [(.ref a1), (.int (0 : Int32))])) rfl rfl (hb hby d4d0open_54)
    refine OwnEnd.go (fun _ k => st109 _ k) ?_
    show OwnEnd p e below s _ _ _ (T109.setTop (mkF m 57 #[.val (.ref a1), .val (.ref a2), .val (.int rc)] [(.ref bo), (.int (0 : Int32))]))
    obtain ⟨c110, Ar110, q110, S110, G110, H110, J110⟩ := id V_o
    refine OwnEnd.go (fun _ k => ownLen X109 hx hZ e109 Ar110 S110 G110 (g := (mkF m 57 #[.val (.ref a1), .val (.ref a2), .val (.int rc)] [(.ref bo), (.int (0 : Int32))])) rfl rfl (hb hby d4d0open_57) _ k) ?_
    show OwnEnd p e below s _ _ _ (T109.setTop (mkF m 58 #[.val (.ref a1), .val (.ref a2), .val (.int rc)] [(.int (8 : Int32)), (.int (0 : Int32))]))
    refine OwnEnd.go (fun _ k => XS.icmpYes X109.here hx rfl (pc0 := 58) (pc' := 95) rfl (hb hby d4d0open_58) rfl (feq (by decide : ¬ (0 : Int32) = (8 : Int32))).2 (by decide) (by decide) k) ?_
    show OwnEnd p e below s _ _ _ (T109.setTop (mkF m 95 #[.val (.ref a1), .val (.ref a2), .val (.int rc)] []))
    refine OwnEnd.go (fun _ k => XS.aloadN X109.here hx rfl (hb hby d4d0open_95) rfl rfl k) ?_
    show OwnEnd p e below s _ _ _ (T109.setTop (mkF m 96 #[.val (.ref a1), .val (.ref a2), .val (.int rc)] [(.ref a1)]))
    obtain ⟨T111, X111, e111, st111⟩ := getF X109 hx hZ hown (host := "") (Or.inl ww11) Via.refl e109 F_open (g := (mkF m 96 #[.val (.ref a1), .val (.ref a2), .val (.int rc)] [(.ref a1)])) rfl rfl (hb hby d4d0open_96)
    refine OwnEnd.go (fun _ k => st111 _ k) ?_
    show OwnEnd p e below s _ _ _ (T111.setTop (mkF m 99 #[.val (.ref a1), .val (.ref a2), .val (.int rc)] [(.ref bo)]))
    refine OwnEnd.go (fun _ k => XS.aloadN X111.here hx rfl (hb hby d4d0open_99) rfl rfl k) ?_
    show OwnEnd p e below s _ _ _ (T111.setTop (mkF m 100 #[.val (.ref a1), .val (.ref a2), .val (.int rc)] [(.ref a1), (.ref bo)]))
    obtain ⟨T112, X112, e112, st112⟩ := getF X111 hx hZ hown (host := "") (Or.inl ww35) Via.refl e111 F_dp (g := (mkF m 100 #[.val (.ref a1), .val (.ref a2), .val (.int rc)] [(.ref a1), (.ref bo)])) rfl rfl (hb hby d4d0open_100)
    refine OwnEnd.go (fun _ k => st112 _ k) ?_
    show OwnEnd p e below s _ _ _ (T112.setTop (mkF m 103 #[.val (.ref a1), .val (.ref a2), .val (.int rc)] [(.int (0 : Int32)), (.ref bo)]))
    refine OwnEnd.go (fun _ k => XS.iloadN X112.here hx rfl (hb hby d4d0open_103) rfl  k) ?_
    show OwnEnd p e below s _ _ _ (T112.setTop (mkF m 104 #[.val (.ref a1), .val (.ref a2), .val (.int rc)] [(.int rc), (.int (0 : Int32)), (.ref bo)]))
    obtain ⟨c113, Ar113, q113, S113, G113, H113, J113⟩ := id V_o
    obtain ⟨T113, h113, X113, e113, W113, st113⟩ := stI X112 hx hZ e112 Ar113 (j := (0 : Int32)) (inb_of S113 ⟨by decide, by decide⟩) (g := (mkF m 104 #[.val (.ref a1), .val (.ref a2), .val (.int rc)] [(.int rc), (.int (0 : Int32)), (.ref bo)])) rfl rfl (hb hby d4d0open_104)
    have V113 : Arv Z h113 bo ko .int (8 : Int32) [(.int rc), (.int o1), (.int (0 : Int32)), (.int (0 : Int32)), (.int (0 : Int32)), (.int (0 : Int32)), (.int (0 : Int32)), (.int (0 : Int32))] (.int (0 : Int32)) := Arv.set Ar113 q113 S113 G113 H113 J113 rfl W113 0 rfl (Nat.le_of_ble_eq_true rfl)
    have F114 := E2.wr W113
    have F115 := F_open.other W113 (Or.inl n1)
    have F116 := F_attr.other W113 (Or.inl n1)
    have F117 := F_rc.other W113 (Or.inl n1)
    have F118 := F_dp.other W113 (Or.inl n1)
    have F119 := F_di.other W113 (Or.inl n1)
    have F120 := F_er.other W113 (Or.inl n1)
    have F121 := F_es.other W113 (Or.inl n1)
    have F122 := F_ea.other W113 (Or.inl n1)
    have F124 := V_t.other W113 (Ne.symm n3)
    have N113 := Fr.snoc X113 N101 go
    have K113 := K101.wr W113 (Or.inl (List.mem_of_getElem? (i := 1) rfl))
    have Y113 := Nat.le_trans Y101 (Nat.le_of_eq W113.size.symm)
    have O113 := O101.wr W113 go
    refine OwnEnd.go (fun _ k => st113 _ k) ?_
    show OwnEnd p e below s _ _ _ (T113.setTop (mkF m 105 #[.val (.ref a1), .val (.ref a2), .val (.int rc)] []))
    refine OwnEnd.go (fun _ k => XS.aloadN X113.here hx rfl (hb hby d4d0open_105) rfl rfl k) ?_
    show OwnEnd p e below s _ _ _ (T113.setTop (mkF m 106 #[.val (.ref a1), .val (.ref a2), .val (.int rc)] [(.ref a1)]))
    obtain ⟨T125, X125, e125, st125⟩ := getF X113 hx hZ hown (host := "") (Or.inl ww13) Via.refl e113 F116 (g := (mkF m 106 #[.val (.ref a1), .val (.ref a2), .val (.int rc)] [(.ref a1)])) rfl rfl (hb hby d4d0open_106)
    refine OwnEnd.go (fun _ k => st125 _ k) ?_
    show OwnEnd p e below s _ _ _ (T125.setTop (mkF m 109 #[.val (.ref a1), .val (.ref a2), .val (.int rc)] [(.ref bt)]))
    refine OwnEnd.go (fun _ k => XS.aloadN X125.here hx rfl (hb hby d4d0open_109) rfl rfl k) ?_
    show OwnEnd p e below s _ _ _ (T125.setTop (mkF m 110 #[.val (.ref a1), .val (.ref a2), .val (.int rc)] [(.ref a1), (.ref bt)]))
    obtain ⟨T126, X126, e126, st126⟩ := getF X125 hx hZ hown (host := "") (Or.inl ww35) Via.refl e125 F118 (g := (mkF m 110 #[.val (.ref a1), .val (.ref a2), .val (.int rc)] [(.ref a1), (.ref bt)])) rfl rfl (hb hby d4d0open_110)
    refine OwnEnd.go (fun _ k => st126 _ k) ?_
    show OwnEnd p e below s _ _ _ (T126.setTop (mkF m 113 #[.val (.ref a1), .val (.ref a2), .val (.int rc)] [(.int (0 : Int32)), (.ref bt)]))
    refine OwnEnd.go (fun _ k => XS.iconst X126.here hx rfl (hb hby d4d0open_113) k) ?_
    show OwnEnd p e below s _ _ _ (T126.setTop (mkF m 114 #[.val (.ref a1), .val (.ref a2), .val (.int rc)] [(.int (0 : Int32)), (.int (0 : Int32)), (.ref bt)]))
    obtain ⟨c127, Ar127, q127, S127, G127, H127, J127⟩ := id F124
    obtain ⟨T127, h127, X127, e127, W127, st127⟩ := stI X126 hx hZ e126 Ar127 (j := (0 : Int32)) (inb_of S127 ⟨by decide, by decide⟩) (g := (mkF m 114 #[.val (.ref a1), .val (.ref a2), .val (.int rc)] [(.int (0 : Int32)), (.int (0 : Int32)), (.ref bt)])) rfl rfl (hb hby d4d0open_114)
    have V127 : Arv Z h127 bt kt .int (8 : Int32) [(.int (0 : Int32)), (.int t1), (.int (0 : Int32)), (.int (0 : Int32)), (.int (0 : Int32)), (.int (0 : Int32)), (.int (0 : Int32)), (.int (0 : Int32))] (.int (0 : Int32)) := Arv.set Ar127 q127 S127 G127 H127 J127 rfl W127 0 rfl (Nat.le_of_ble_eq_true rfl)
    have F128 := F114.wr W127
    have F129 := F115.other W127 (Or.inl n2)
    have F130 := F116.other W127 (Or.inl n2)
    have F131 := F117.other W127 (Or.inl n2)
    have F132 := F118.other W127 (Or.inl n2)
    have F133 := F119.other W127 (Or.inl n2)
    have F134 := F120.other W127 (Or.inl n2)
    have F135 := F121.other W127 (Or.inl n2)
    have F136 := F122.other W127 (Or.inl n2)
    have F138 := V113.other W127 n3
    have N127 := Fr.snoc X127 N113 gt
    have K127 := K113.wr W127 (Or.inl (List.mem_of_getElem? (i := 2) rfl))
    have Y127 := Nat.le_trans Y113 (Nat.le_of_eq W127.size.symm)
    have O127 := O113.wr W127 gt
    refine OwnEnd.go (fun _ k => st127 _ k) ?_
    show OwnEnd p e below s _ _ _ (T127.setTop (mkF m 115 #[.val (.ref a1), .val (.ref a2), .val (.int rc)] []))
    refine OwnEnd.go (fun _ k => XS.aloadN X127.here hx rfl (hb hby d4d0open_115) rfl rfl k) ?_
    show OwnEnd p e below s _ _ _ (T127.setTop (mkF m 116 #[.val (.ref a1), .val (.ref a2), .val (.int rc)] [(.ref a1)]))
    refine OwnEnd.go (fun _ k => XS.dup X127.here hx rfl (hb hby d4d0open_116) rfl rfl k) ?_
    show OwnEnd p e below s _ _ _ (T127.setTop (mkF m 117 #[.val (.ref a1), .val (.ref a2), .val (.int rc)] [(.ref a1), (.ref a1)]))
    obtain ⟨T139, X139, e139, st139⟩ := getF X127 hx hZ hown (host := "") (Or.inl ww35) Via.refl e127 F132 (g := (mkF m 117 #[.val (.ref a1), .val (.ref a2), .val (.int rc)] [(.ref a1), (.ref a1)])) rfl rfl (hb hby d4d0open_117)
    refine OwnEnd.go (fun _ k => st139 _ k) ?_
    show OwnEnd p e below s _ _ _ (T139.setTop (mkF m 120 #[.val (.ref a1), .val (.ref a2), .val (.int rc)] [(.int (0 : Int32)), (.ref a1)]))
    refine OwnEnd.go (fun _ k => XS.iconst X139.here hx rfl (hb hby d4d0open_120) k) ?_
    show OwnEnd p e below s _ _ _ (T139.setTop (mkF m 121 #[.val (.ref a1), .val (.ref a2), .val (.int rc)] [(.int (1 : Int32)), (.int (0 : Int32)), (.ref a1)]))
    refine OwnEnd.go (fun _ k => XS.iadd X139.here hx rfl (hb hby d4d0open_121) rfl k) ?_
    show OwnEnd p e below s _ _ _ (T139.setTop (mkF m 122 #[.val (.ref a1), .val (.ref a2), .val (.int rc)] [(.int (1 : Int32)), (.ref a1)]))
    obtain ⟨T140, h140, X140, e140, W140, st140⟩ := putF X139 hx hZ hown (host := "") (Or.inl ww35) Via.refl e139 F132 F128 (Or.inl ww36) ww2 (ty := .int) (by decide) rfl rfl (g := (mkF m 122 #[.val (.ref a1), .val (.ref a2), .val (.int rc)] [(.int (1 : Int32)), (.ref a1)])) rfl rfl (hb hby d4d0open_122)
    have F141 := F128.wr W140
    have F142 := F129.other W140 (Or.inr (slot_ne (Or.inl ww12) (Or.inl ww36) (by decide) (t := (.array .int)) (t' := .int) (by decide) (by decide)))
    have F143 := F130.other W140 (Or.inr (slot_ne (Or.inl ww14) (Or.inl ww36) (by decide) (t := (.array .int)) (t' := .int) (by decide) (by decide)))
    have F144 := F131.other W140 (Or.inr (slot_ne (Or.inl ww21) (Or.inl ww36) (by decide) (t := .int) (t' := .int) (by decide) (by decide)))
    have F145 := F132.same W140
    have F146 := F133.other W140 (Or.inr (slot_ne (Or.inl ww38) (Or.inl ww36) (by decide) (t := .int) (t' := .int) (by decide) (by decide)))
    have F147 := F134.other W140 (Or.inr (slot_ne (Or.inl ww56) (Or.inl ww36) (by decide) (t := .int) (t' := .int) (by decide) (by decide)))
    have F148 := F135.other W140 (Or.inr (slot_ne (Or.inl ww58) (Or.inl ww36) (by decide) (t := .int) (t' := .int) (by decide) (by decide)))
    have F149 := F136.other W140 (Or.inr (slot_ne (Or.inl ww60) (Or.inl ww36) (by decide) (t := .int) (t' := .int) (by decide) (by decide)))
    have F150 := F138.other W140 (Ne.symm n1)
    have F151 := V127.other W140 (Ne.symm n2)
    have N140 := Fr.snoc X140 N127 ga
    have K140 := K127.wr W140 (Or.inl (List.mem_of_getElem? (i := 0) rfl))
    have Y140 := Nat.le_trans Y127 (Nat.le_of_eq W140.size.symm)
    have O140 := O127.wr W140 ga
    refine OwnEnd.go (fun _ k => st140 _ k) ?_
    show OwnEnd p e below s _ _ _ (T140.setTop (mkF m 125 #[.val (.ref a1), .val (.ref a2), .val (.int rc)] []))
    refine OwnEnd.go (fun _ k => XS.iloadN X140.here hx rfl (hb hby d4d0open_125) rfl  k) ?_
    show OwnEnd p e below s _ _ _ (T140.setTop (mkF m 126 #[.val (.ref a1), .val (.ref a2), .val (.int rc)] [(.int rc)]))
    refine ownRetI X140 hx hlk hret (hb hby d4d0open_126) (by decide) (by decide) ?_
    show Q4d0open Z a1 a2 bo bt rc o0 o1 t0 t1 er es ea xA xE xD h0 n0 _ T140.heap _
    rw [e140]
    exact ⟨rfl, N140, K140, ⟨ga, go, gt, n1, n2, n3, F141, F142, F143, F144, F145, ⟨_, F146⟩, F147, F148, F149, ⟨_, F150⟩, ⟨_, F151⟩⟩⟩
  · refine OwnEnd.go (fun _ k => Jvm.RoadKit.acmp (g := (mkF m 39 #[.val (.ref a1), .val (.ref a2), .val (.int rc)] [(.ref xE), (.ref a2)])) X106 hx rfl rfl rfl (pc0 := 39) (pc' := 42) (same := false) rfl (hb hby d4d0open_39) rfl (decide_eq_false fun q => ha107 (Value.ref.inj q)) (by decide) (by decide) k) ?_
    show OwnEnd p e below s _ _ _ (T106.setTop (mkF m 42 #[.val (.ref a1), .val (.ref a2), .val (.int rc)] []))
    refine OwnEnd.go (fun _ k => XS.aloadN X106.here hx rfl (hb hby d4d0open_42) rfl rfl k) ?_
    show OwnEnd p e below s _ _ _ (T106.setTop (mkF m 43 #[.val (.ref a1), .val (.ref a2), .val (.int rc)] [(.ref a2)]))
    obtain ⟨T152, X152, e152, st152⟩ := getS2 X106 hx hZ hown (host := "") (Or.inl ww43) Via.refl e106 (SD.ext O101.2) (g := (mkF m 43 #[.val (.ref a1), .val (.ref a2), .val (.int rc)] [(.ref a2)])) rfl (hb hby d4d0open_43)
    refine OwnEnd.go (fun _ k => st152 _ k) ?_
    show OwnEnd p e below s _ _ _ (T152.setTop (mkF m 46 #[.val (.ref a1), .val (.ref a2), .val (.int rc)] [(.ref xD), (.ref a2)]))
    refine OwnEnd.go (fun _ k => Jvm.RoadKit.acmp (g := (mkF m 46 #[.val (.ref a1), .val (.ref a2), .val (.int rc)] [(.ref xD), (.ref a2)])) X152 hx rfl rfl rfl (pc0 := 46) (pc' := 49) (same := true) rfl (hb hby d4d0open_46) rfl (decide_eq_true (congrArg Value.ref (hk.resolve_left ha107))) (by decide) (by decide) k) ?_
    show OwnEnd p e below s _ _ _ (T152.setTop (mkF m 49 #[.val (.ref a1), .val (.ref a2), .val (.int rc)] []))
    refine OwnEnd.go (fun _ k => XS.aloadN X152.here hx rfl (hb hby d4d0open_49) rfl rfl k) ?_
    show OwnEnd p e below s _ _ _ (T152.setTop (mkF m 50 #[.val (.ref a1), .val (.ref a2), .val (.int rc)] [(.ref a1)]))
    obtain ⟨T153, X153, e153, st153⟩ := getF X152 hx hZ hown (host := "") (Or.inl ww35) Via.refl e152 F_dp (g := (mkF m 50 #[.val (.ref a1), .val (.ref a2), .val (.int rc)] [(.ref a1)])) rfl rfl (hb hby d4d0open_50)
    refine OwnEnd.go (fun _ k => st153 _ k) ?_
    show OwnEnd p e below s _ _ _ (T153.setTop (mkF m 53 #[.val (.ref a1), .val (.ref a2), .val (.int rc)] [(.int (0 : Int32))]))
    refine OwnEnd.go (fun _ k => XS.aloadN X153.here hx rfl (hb hby d4d0open_53) rfl rfl k) ?_
    show OwnEnd p e below s _ _ _ (T153.setTop (mkF m 54 #[.val (.ref a1), .val (.ref a2), .val (.int rc)] [(.ref a1), (.int (0 : Int32))]))
    obtain ⟨T154, X154, e154, st154⟩ := getF X153 hx hZ hown (host := "") (Or.inl ww11) Via.refl e153 F_open (g := (mkF m 54 #[.val (.ref a1), .val (.ref a2), .val (.int rc)] [(.ref a1), (.int (0 : Int32))])) rfl rfl (hb hby d4d0open_54)
    refine OwnEnd.go (fun _ k => st154 _ k) ?_
    show OwnEnd p e below s _ _ _ (T154.setTop (mkF m 57 #[.val (.ref a1), .val (.ref a2), .val (.int rc)] [(.ref bo), (.int (0 : Int32))]))
    obtain ⟨c155, Ar155, q155, S155, G155, H155, J155⟩ := id V_o
    refine OwnEnd.go (fun _ k => ownLen X154 hx hZ e154 Ar155 S155 G155 (g := (mkF m 57 #[.val (.ref a1), .val (.ref a2), .val (.int rc)] [(.ref bo), (.int (0 : Int32))])) rfl rfl (hb hby d4d0open_57) _ k) ?_
    show OwnEnd p e below s _ _ _ (T154.setTop (mkF m 58 #[.val (.ref a1), .val (.ref a2), .val (.int rc)] [(.int (8 : Int32)), (.int (0 : Int32))]))
    refine OwnEnd.go (fun _ k => XS.icmpYes X154.here hx rfl (pc0 := 58) (pc' := 95) rfl (hb hby d4d0open_58) rfl (feq (by decide : ¬ (0 : Int32) = (8 : Int32))).2 (by decide) (by decide) k) ?_
    show OwnEnd p e below s _ _ _ (T154.setTop (mkF m 95 #[.val (.ref a1), .val (.ref a2), .val (.int rc)] []))
    refine OwnEnd.go (fun _ k => XS.aloadN X154.here hx rfl (hb hby d4d0open_95) rfl rfl k) ?_
    show OwnEnd p e below s _ _ _ (T154.setTop (mkF m 96 #[.val (.ref a1), .val (.ref a2), .val (.int rc)] [(.ref a1)]))
    obtain ⟨T156, X156, e156, st156⟩ := getF X154 hx hZ hown (host := "") (Or.inl ww11) Via.refl e154 F_open (g := (mkF m 96 #[.val (.ref a1), .val (.ref a2), .val (.int rc)] [(.ref a1)])) rfl rfl (hb hby d4d0open_96)
    refine OwnEnd.go (fun _ k => st156 _ k) ?_
    show OwnEnd p e below s _ _ _ (T156.setTop (mkF m 99 #[.val (.ref a1), .val (.ref a2), .val (.int rc)] [(.ref bo)]))
    refine OwnEnd.go (fun _ k => XS.aloadN X156.here hx rfl (hb hby d4d0open_99) rfl rfl k) ?_
    show OwnEnd p e below s _ _ _ (T156.setTop (mkF m 100 #[.val (.ref a1), .val (.ref a2), .val (.int rc)] [(.ref a1), (.ref bo)]))
    obtain ⟨T157, X157, e157, st157⟩ := getF X156 hx hZ hown (host := "") (Or.inl ww35) Via.refl e156 F_dp (g := (mkF m 100 #[.val (.ref a1), .val (.ref a2), .val (.int rc)] [(.ref a1), (.ref bo)])) rfl rfl (hb hby d4d0open_100)
    refine OwnEnd.go (fun _ k => st157 _ k) ?_
    show OwnEnd p e below s _ _ _ (T157.setTop (mkF m 103 #[.val (.ref a1), .val (.ref a2), .val (.int rc)] [(.int (0 : Int32)), (.ref bo)]))
    refine OwnEnd.go (fun _ k => XS.iloadN X157.here hx rfl (hb hby d4d0open_103) rfl  k) ?_
    show OwnEnd p e below s _ _ _ (T157.setTop (mkF m 104 #[.val (.ref a1), .val (.ref a2), .val (.int rc)] [(.int rc), (.int (0 : Int32)), (.ref bo)]))
    obtain ⟨c158, Ar158, q158, S158, G158, H158, J158⟩ := id V_o
    obtain ⟨T158, h158, X158, e158, W158, st158⟩ := stI X157 hx hZ e157 Ar158 (j := (0 : Int32)) (inb_of S158 ⟨by decide, by decide⟩) (g := (mkF m 104 #[.val (.ref a1), .val (.ref a2), .val (.int rc)] [(.int rc), (.int (0 : Int32)), (.ref bo)])) rfl rfl (hb hby d4d0open_104)
    have V158 : Arv Z h158 bo ko .int (8 : Int32) [(.int rc), (.int o1), (.int (0 : Int32)), (.int (0 : Int32)), (.int (0 : Int32)), (.int (0 : Int32)), (.int (0 : Int32)), (.int (0 : Int32))] (.int (0 : Int32)) := Arv.set Ar158 q158 S158 G158 H158 J158 rfl W158 0 rfl (Nat.le_of_ble_eq_true rfl)
    have F159 := E2.wr W158
    have F160 := F_open.other W158 (Or.inl n1)
    have F161 := F_attr.other W158 (Or.inl n1)
    have F162 := F_rc.other W158 (Or.inl n1)
    have F163 := F_dp.other W158 (Or.inl n1)
    have F164 := F_di.other W158 (Or.inl n1)
    have F165 := F_er.other W158 (Or.inl n1)
    have F166 := F_es.other W158 (Or.inl n1)
    have F167 := F_ea.other W158 (Or.inl n1)
    have F169 := V_t.other W158 (Ne.symm n3)
    have N158 := Fr.snoc X158 N101 go
    have K158 := K101.wr W158 (Or.inl (List.mem_of_getElem? (i := 1) rfl))
    have Y158 := Nat.le_trans Y101 (Nat.le_of_eq W158.size.symm)
    have O158 := O101.wr W158 go
    refine OwnEnd.go (fun _ k => st158 _ k) ?_
    show OwnEnd p e below s _ _ _ (T158.setTop (mkF m 105 #[.val (.ref a1), .val (.ref a2), .val (.int rc)] []))
    refine OwnEnd.go (fun _ k => XS.aloadN X158.here hx rfl (hb hby d4d0open_105) rfl rfl k) ?_
    show OwnEnd p e below s _ _ _ (T158.setTop (mkF m 106 #[.val (.ref a1), .val (.ref a2), .val (.int rc)] [(.ref a1)]))
    obtain ⟨T170, X170, e170, st170⟩ := getF X158 hx hZ hown (host := "") (Or.inl ww13) Via.refl e158 F161 (g := (mkF m 106 #[.val (.ref a1), .val (.ref a2), .val (.int rc)] [(.ref a1)])) rfl rfl (hb hby d4d0open_106)
    refine OwnEnd.go (fun _ k => st170 _ k) ?_
    show OwnEnd p e below s _ _ _ (T170.setTop (mkF m 109 #[.val (.ref a1), .val (.ref a2), .val (.int rc)] [(.ref bt)]))
    refine OwnEnd.go (fun _ k => XS.aloadN X170.here hx rfl (hb hby d4d0open_109) rfl rfl k) ?_
    show OwnEnd p e below s _ _ _ (T170.setTop (mkF m 110 #[.val (.ref a1), .val (.ref a2), .val (.int rc)] [(.ref a1), (.ref bt)]))
    obtain ⟨T171, X171, e171, st171⟩ := getF X170 hx hZ hown (host := "") (Or.inl ww35) Via.refl e170 F163 (g := (mkF m 110 #[.val (.ref a1), .val (.ref a2), .val (.int rc)] [(.ref a1), (.ref bt)])) rfl rfl (hb hby d4d0open_110)
    refine OwnEnd.go (fun _ k => st171 _ k) ?_
    show OwnEnd p e below s _ _ _ (T171.setTop (mkF m 113 #[.val (.ref a1), .val (.ref a2), .val (.int rc)] [(.int (0 : Int32)), (.ref bt)]))
    refine OwnEnd.go (fun _ k => XS.iconst X171.here hx rfl (hb hby d4d0open_113) k) ?_
    show OwnEnd p e below s _ _ _ (T171.setTop (mkF m 114 #[.val (.ref a1), .val (.ref a2), .val (.int rc)] [(.int (0 : Int32)), (.int (0 : Int32)), (.ref bt)]))
    obtain ⟨c172, Ar172, q172, S172, G172, H172, J172⟩ := id F169
    obtain ⟨T172, h172, X172, e172, W172, st172⟩ := stI X171 hx hZ e171 Ar172 (j := (0 : Int32)) (inb_of S172 ⟨by decide, by decide⟩) (g := (mkF m 114 #[.val (.ref a1), .val (.ref a2), .val (.int rc)] [(.int (0 : Int32)), (.int (0 : Int32)), (.ref bt)])) rfl rfl (hb hby d4d0open_114)
    have V172 : Arv Z h172 bt kt .int (8 : Int32) [(.int (0 : Int32)), (.int t1), (.int (0 : Int32)), (.int (0 : Int32)), (.int (0 : Int32)), (.int (0 : Int32)), (.int (0 : Int32)), (.int (0 : Int32))] (.int (0 : Int32)) := Arv.set Ar172 q172 S172 G172 H172 J172 rfl W172 0 rfl (Nat.le_of_ble_eq_true rfl)
    have F173 := F159.wr W172
    have F174 := F160.other W172 (Or.inl n2)
    have F175 := F161.other W172 (Or.inl n2)
    have F176 := F162.other W172 (Or.inl n2)
    have F177 := F163.other W172 (Or.inl n2)
    have F178 := F164.other W172 (Or.inl n2)
    have F179 := F165.other W172 (Or.inl n2)
    have F180 := F166.other W172 (Or.inl n2)
    have F181 := F167.other W172 (Or.inl n2)
    have F183 := V158.other W172 n3
    have N172 := Fr.snoc X172 N158 gt
    have K172 := K158.wr W172 (Or.inl (List.mem_of_getElem? (i := 2) rfl))
    have Y172 := Nat.le_trans Y158 (Nat.le_of_eq W172.size.symm)
    have O172 := O158.wr W172 gt
    refine OwnEnd.go (fun _ k => st172 _ k) ?_
    show OwnEnd p e below s _ _ _ (T172.setTop (mkF m 115 #[.val (.ref a1), .val (.ref a2), .val (.int rc)] []))
    refine OwnEnd.go (fun _ k => XS.aloadN X172.here hx rfl (hb hby d4d0open_115) rfl rfl k) ?_
    show OwnEnd p e below s _ _ _ (T172.setTop (mkF m 116 #[.val (.ref a1), .val (.ref a2), .val (.int rc)] [(.ref a1)]))
    refine OwnEnd.go (fun _ k => XS.dup X172.here hx rfl (hb hby d4d0open_116) rfl rfl k) ?_
    show OwnEnd p e below s _ _ _ (T172.setTop (mkF m 117 #[.val (.ref a1), .val (.ref a2), .val (.int rc)] [(.ref a1), (.ref a1)]))
    obtain ⟨T184, X184, e184, st184⟩ := getF X172 hx hZ hown (host := "") (Or.inl ww35) Via.refl e172 F177 (g := (mkF m 117 #[.val (.ref a1), .val (.ref a2), .val (.int rc)] [(.ref a1), (.ref a1)])) rfl rfl (hb hby d4d0open_117)
    refine OwnEnd.go (fun _ k => st184 _ k) ?_
    show OwnEnd p e below s _ _ _ (T184.setTop (mkF m 120 #[.val (.ref a1), .val (.ref a2), .val (.int rc)] [(.int (0 : Int32)), (.ref a1)]))
    refine OwnEnd.go (fun _ k => XS.iconst X184.here hx rfl (hb hby d4d0open_120) k) ?_
    show OwnEnd p e below s _ _ _ (T184.setTop (mkF m 121 #[.val (.ref a1), .val (.ref a2), .val (.int rc)] [(.int (1 : Int32)), (.int (0 : Int32)), (.ref a1)]))
    refine OwnEnd.go (fun _ k => XS.iadd X184.here hx rfl (hb hby d4d0open_121) rfl k) ?_
    show OwnEnd p e below s _ _ _ (T184.setTop (mkF m 122 #[.val (.ref a1), .val (.ref a2), .val (.int rc)] [(.int (1 : Int32)), (.ref a1)]))
    obtain ⟨T185, h185, X185, e185, W185, st185⟩ := putF X184 hx hZ hown (host := "") (Or.inl ww35) Via.refl e184 F177 F173 (Or.inl ww36) ww2 (ty := .int) (by decide) rfl rfl (g := (mkF m 122 #[.val (.ref a1), .val (.ref a2), .val (.int rc)] [(.int (1 : Int32)), (.ref a1)])) rfl rfl (hb hby d4d0open_122)
    have F186 := F173.wr W185
    have F187 := F174.other W185 (Or.inr (slot_ne (Or.inl ww12) (Or.inl ww36) (by decide) (t := (.array .int)) (t' := .int) (by decide) (by decide)))
    have F188 := F175.other W185 (Or.inr (slot_ne (Or.inl ww14) (Or.inl ww36) (by decide) (t := (.array .int)) (t' := .int) (by decide) (by decide)))
    have F189 := F176.other W185 (Or.inr (slot_ne (Or.inl ww21) (Or.inl ww36) (by decide) (t := .int) (t' := .int) (by decide) (by decide)))
    have F190 := F177.same W185
    have F191 := F178.other W185 (Or.inr (slot_ne (Or.inl ww38) (Or.inl ww36) (by decide) (t := .int) (t' := .int) (by decide) (by decide)))
    have F192 := F179.other W185 (Or.inr (slot_ne (Or.inl ww56) (Or.inl ww36) (by decide) (t := .int) (t' := .int) (by decide) (by decide)))
    have F193 := F180.other W185 (Or.inr (slot_ne (Or.inl ww58) (Or.inl ww36) (by decide) (t := .int) (t' := .int) (by decide) (by decide)))
    have F194 := F181.other W185 (Or.inr (slot_ne (Or.inl ww60) (Or.inl ww36) (by decide) (t := .int) (t' := .int) (by decide) (by decide)))
    have F195 := F183.other W185 (Ne.symm n1)
    have F196 := V172.other W185 (Ne.symm n2)
    have N185 := Fr.snoc X185 N172 ga
    have K185 := K172.wr W185 (Or.inl (List.mem_of_getElem? (i := 0) rfl))
    have Y185 := Nat.le_trans Y172 (Nat.le_of_eq W185.size.symm)
    have O185 := O172.wr W185 ga
    refine OwnEnd.go (fun _ k => st185 _ k) ?_
    show OwnEnd p e below s _ _ _ (T185.setTop (mkF m 125 #[.val (.ref a1), .val (.ref a2), .val (.int rc)] []))
    refine OwnEnd.go (fun _ k => XS.iloadN X185.here hx rfl (hb hby d4d0open_125) rfl  k) ?_
    show OwnEnd p e below s _ _ _ (T185.setTop (mkF m 126 #[.val (.ref a1), .val (.ref a2), .val (.int rc)] [(.int rc)]))
    refine ownRetI X185 hx hlk hret (hb hby d4d0open_126) (by decide) (by decide) ?_
    show Q4d0open Z a1 a2 bo bt rc o0 o1 t0 t1 er es ea xA xE xD h0 n0 _ T185.heap _
    rw [e185]
    exact ⟨rfl, N185, K185, ⟨ga, go, gt, n1, n2, n3, F186, F187, F188, F189, F190, ⟨_, F191⟩, F192, F193, F194, ⟨_, F195⟩, ⟨_, F196⟩⟩⟩
theorem d6d1_0 : decode prog_249_method_5_code 0 = .ok (.aload_n 0, 1) := by decide +kernel
theorem d6d1_1 : decode prog_249_method_5_code 1 = .ok (.getfield 13, 3) := by decide +kernel
theorem d6d1_4 : decode prog_249_method_5_code 4 = .ok (.aload_n 0, 1) := by decide +kernel
theorem d6d1_5 : decode prog_249_method_5_code 5 = .ok (.getfield 26, 3) := by decide +kernel
theorem d6d1_8 : decode prog_249_method_5_code 8 = .ok (.iconst 1, 1) := by decide +kernel
theorem d6d1_9 : decode prog_249_method_5_code 9 = .ok (.isub, 1) := by decide +kernel
theorem d6d1_10 : decode prog_249_method_5_code 10 = .ok (.dup2, 1) := by decide +kernel
theorem d6d1_11 : decode prog_249_method_5_code 11 = .ok (.iaload, 1) := by decide +kernel
theorem d6d1_12 : decode prog_249_method_5_code 12 = .ok (.iload_n 1, 1) := by decide +kernel
theorem d6d1_13 : decode prog_249_method_5_code 13 = .ok (.iadd, 1) := by decide +kernel
theorem d6d1_14 : decode prog_249_method_5_code 14 = .ok (.iastore, 1) := by decide +kernel
theorem d6d1_15 : decode prog_249_method_5_code 15 = .ok (.return_, 1) := by decide +kernel
theorem pn_6d1 : plainName "com/example/rewoven_tree/rewoventree/storage/TableShape" = true := by first | (simp [plainName, overriddenIn]; done) | decide +kernel
theorem ef_6d1 (m : MethodId) (x0 : Addr) (x1 : Int32) : entryFrame m #[(.ref x0), (.int x1)] 2 = mkF m 0 #[.val (.ref x0), .val (.int x1)] [] := by first | (simp [entryFrame, mkF, argsToLocals, Value.category]; done) | rfl
def Q6d1 (Z : State) (a1 : Addr) (p2 : Int32) (bo : Addr) (bt : Addr) (rc : Int32) (o0 : Int32) (o1 : Int32) (t0 : Int32) (t1 : Int32) (er : Int32) (es : Int32) (ea : Int32) (h0 : Heap) (n0 : Nat) (v : Option Value) (h : Heap) (L : List Loc) : Prop := v = none ∧ Fr n0 L ∧ Keep h0 h [a1, bo, bt] ∧ ownTS Z h n0 a1 bo bt rc (1 : Int32) o0 o1 (t0 + p2) t1 er es ea
set_option maxRecDepth 65536 in
set_option maxHeartbeats 40000000 in
theorem rm6d1 (l : Launch) (Z : State) (a0 : Array Value) (hw : ∀ d ∈ tables_1, d.before a0 Z = true) (ws : List Jvm.Cond) (a1 : Addr) (p2 : Int32) (bo : Addr) (bt : Addr) (rc : Int32) (o0 : Int32) (o1 : Int32) (t0 : Int32) (t1 : Int32) (er : Int32) (es : Int32) (ea : Int32) (h0 : Heap) (n0 : Nat) (Z0 : n0 ≤ h0.size) (B0 : ownTS Z h0 n0 a1 bo bt rc (1 : Int32) o0 o1 t0 t1 er es ea) :
    MetFree l (⟨"com/example/rewoven_tree/rewoventree/storage/TableShape", "addAttributes", "(I)V"⟩ : MethodName) (head1 (Jvm.Cond.code (⟨"com/example/rewoven_tree/rewoventree/storage/TableShape", "addAttributes", "(I)V"⟩ : MethodName) prog_249_method_5_code 2 none :: ws) ({ frames := 0, cells := 0, slots := 0, locals := 0 } : Room)) (fun a U => a = #[(.ref a1), (.int p2)] ∧ Z.Warmed39 U.vm ∧ U.heap = h0) (fun _ _ _ _ _ => True) (fun _ U o U' => ∃ v L, o = .returned v ∧ Q6d1 Z a1 p2 bo bt rc o0 o1 t0 t1 er es ea h0 n0 v U'.heap L ∧ FrameEnd U o U' L ({ frames := 0, cells := 0, slots := 0, locals := 0 } : Room).cells ({ frames := 0, cells := 0, slots := 0, locals := 0 } : Room).slots) := by
  have ww13 := hw _ (List.mem_of_getElem? (i := 13) rfl)
  have ww35 := hw _ (List.mem_of_getElem? (i := 35) rfl)
  refine MetFree.of_bodySF (plainFor_of_name pn_6d1) hisR ?_
  intro p e s m args below meth c s₁ Bd hml0 hP hK
  obtain ⟨rfl, hZ, hh⟩ := hP
  have hx := Bd.exec
  have hby := Bd.bytes
  have hlk : meth.locks = false := Bd.notSynchronized
  have hret := Bd.returns
  have hml : c.maxLocals = 2 := hml0
  have hown : s.vm.findClass "com/example/rewoven_tree/rewoventree/storage/TableShape" = some m.cls := findClass_of_methodNamed Bd.named
  have hnm := (name_of_methodNamed Bd.named Bd.method).1
  have X0 : Stand p l e ({ frames := 0, cells := 0, slots := 0, locals := 0 } : Room) s m #[(.ref a1), (.int p2)] below meth c s₁ [] 0 0 := Stand.of_body Bd
  have e0 : s₁.heap = h0 := by rw [← hh, Bd.state]; rfl
  have N0 := Fr.nil n0
  have K0 := Keep.refl h0 [a1, bo, bt]
  show OwnEnd p e below s (Q6d1 Z a1 p2 bo bt rc o0 o1 t0 t1 er es ea h0 n0) ({ frames := 0, cells := 0, slots := 0, locals := 0 } : Room).cells ({ frames := 0, cells := 0, slots := 0, locals := 0 } : Room).slots _
  refine OwnEnd.go (fun _ k => castTop (ef_6d1 m a1 p2) k) ?_
  obtain ⟨ga, go, gt, n1, n2, n3, E1, F_open, F_attr, F_rc, F_dp, ⟨di, F_di⟩, F_er, F_es, F_ea, ⟨ko, V_o⟩, ⟨kt, V_t⟩⟩ := B0
  show OwnEnd p e below s _ _ _ (s₁.setTop (mkF m 0 #[.val (.ref a1), .val (.int p2)] []))
  refine OwnEnd.go (fun _ k => XS.aloadN X0.here hx rfl (hb hby d6d1_0) rfl rfl k) ?_
  show OwnEnd p e below s _ _ _ (s₁.setTop (mkF m 1 #[.val (.ref a1), .val (.int p2)] [(.ref a1)]))
  obtain ⟨T101, X101, e101, st101⟩ := getF X0 hx hZ hown (host := "") (Or.inl ww13) Via.refl e0 F_attr (g := (mkF m 1 #[.val (.ref a1), .val (.int p2)] [(.ref a1)])) rfl rfl (hb hby d6d1_1)
  refine OwnEnd.go (fun _ k => st101 _ k) ?_
  show OwnEnd p e below s _ _ _ (T101.setTop (mkF m 4 #[.val (.ref a1), .val (.int p2)] [(.ref bt)]))
  refine OwnEnd.go (fun _ k => XS.aloadN X101.here hx rfl (hb hby d6d1_4) rfl rfl k) ?_
  show OwnEnd p e below s _ _ _ (T101.setTop (mkF m 5 #[.val (.ref a1), .val (.int p2)] [(.ref a1), (.ref bt)]))
  obtain ⟨T102, X102, e102, st102⟩ := getF X101 hx hZ hown (host := "") (Or.inl ww35) Via.refl e101 F_dp (g := (mkF m 5 #[.val (.ref a1), .val (.int p2)] [(.ref a1), (.ref bt)])) rfl rfl (hb hby d6d1_5)
  refine OwnEnd.go (fun _ k => st102 _ k) ?_
  show OwnEnd p e below s _ _ _ (T102.setTop (mkF m 8 #[.val (.ref a1), .val (.int p2)] [(.int (1 : Int32)), (.ref bt)]))
  refine OwnEnd.go (fun _ k => XS.iconst X102.here hx rfl (hb hby d6d1_8) k) ?_
  show OwnEnd p e below s _ _ _ (T102.setTop (mkF m 9 #[.val (.ref a1), .val (.int p2)] [(.int (1 : Int32)), (.int (1 : Int32)), (.ref bt)]))
  refine OwnEnd.go (fun _ k => XS.isub X102.here hx rfl (hb hby d6d1_9) rfl k) ?_
  show OwnEnd p e below s _ _ _ (T102.setTop (mkF m 10 #[.val (.ref a1), .val (.int p2)] [(.int (0 : Int32)), (.ref bt)]))
  refine OwnEnd.go (fun _ k => XT.dup2 X102.here hx rfl (hb hby d6d1_10) rfl rfl rfl k) ?_
  show OwnEnd p e below s _ _ _ (T102.setTop (mkF m 11 #[.val (.ref a1), .val (.int p2)] [(.int (0 : Int32)), (.ref bt), (.int (0 : Int32)), (.ref bt)]))
  obtain ⟨c103, Ar103, q103, S103, G103, H103, J103⟩ := id V_t
  have i103 := inb_of (j := (0 : Int32)) S103 ⟨by decide, by decide⟩
  refine OwnEnd.go (fun _ k => X102.iaload hx (j := (0 : Int32)) (v := (.int t0)) (by rw [e102]; exact Ar103.1) (State.isArrayOf_alike hZ.alike Ar103.2.1) Ar103.2.2 i103 (Has.at H103 i103 rfl) (g := (mkF m 11 #[.val (.ref a1), .val (.int p2)] [(.int (0 : Int32)), (.ref bt), (.int (0 : Int32)), (.ref bt)])) rfl rfl (hb hby d6d1_11) _ k) ?_
  show OwnEnd p e below s _ _ _ (T102.setTop (mkF m 12 #[.val (.ref a1), .val (.int p2)] [(.int t0), (.int (0 : Int32)), (.ref bt)]))
  refine OwnEnd.go (fun _ k => XS.iloadN X102.here hx rfl (hb hby d6d1_12) rfl  k) ?_
  show OwnEnd p e below s _ _ _ (T102.setTop (mkF m 13 #[.val (.ref a1), .val (.int p2)] [(.int p2), (.int t0), (.int (0 : Int32)), (.ref bt)]))
  refine OwnEnd.go (fun _ k => XS.iadd X102.here hx rfl (hb hby d6d1_13) rfl k) ?_
  show OwnEnd p e below s _ _ _ (T102.setTop (mkF m 14 #[.val (.ref a1), .val (.int p2)] [(.int (t0 + p2)), (.int (0 : Int32)), (.ref bt)]))
  obtain ⟨c104, Ar104, q104, S104, G104, H104, J104⟩ := id V_t
  obtain ⟨T104, h104, X104, e104, W104, st104⟩ := stI X102 hx hZ e102 Ar104 (j := (0 : Int32)) (inb_of S104 ⟨by decide, by decide⟩) (g := (mkF m 14 #[.val (.ref a1), .val (.int p2)] [(.int (t0 + p2)), (.int (0 : Int32)), (.ref bt)])) rfl rfl (hb hby d6d1_14)
  have V104 : Arv Z h104 bt kt .int (8 : Int32) [(.int (t0 + p2)), (.int t1), (.int (0 : Int32)), (.int (0 : Int32)), (.int (0 : Int32)), (.int (0 : Int32)), (.int (0 : Int32)), (.int (0 : Int32))] (.int (0 : Int32)) := Arv.set Ar104 q104 S104 G104 H104 J104 rfl W104 0 rfl (Nat.le_of_ble_eq_true rfl)
  have F106 := E1.wr W104
  have F107 := F_open.other W104 (Or.inl n2)
  have F108 := F_attr.other W104 (Or.inl n2)
  have F109 := F_rc.other W104 (Or.inl n2)
  have F110 := F_dp.other W104 (Or.inl n2)
  have F111 := F_di.other W104 (Or.inl n2)
  have F112 := F_er.other W104 (Or.inl n2)
  have F113 := F_es.other W104 (Or.inl n2)
  have F114 := F_ea.other W104 (Or.inl n2)
  have F115 := V_o.other W104 n3
  have N104 := Fr.snoc X104 N0 gt
  have K104 := K0.wr W104 (Or.inl (List.mem_of_getElem? (i := 2) rfl))
  have Y104 := Nat.le_trans Z0 (Nat.le_of_eq W104.size.symm)
  refine OwnEnd.go (fun _ k => st104 _ k) ?_
  show OwnEnd p e below s _ _ _ (T104.setTop (mkF m 15 #[.val (.ref a1), .val (.int p2)] []))
  refine ownRetV X104 hx hlk hret (hb hby d6d1_15) (by decide) (by decide) ?_
  show Q6d1 Z a1 p2 bo bt rc o0 o1 t0 t1 er es ea h0 n0 _ T104.heap _
  rw [e104]
  exact ⟨rfl, N104, K104, ⟨ga, go, gt, n1, n2, n3, F106, F107, F108, F109, F110, ⟨_, F111⟩, F112, F113, F114, ⟨_, F115⟩, ⟨_, V104⟩⟩⟩
theorem d7d1_0 : decode prog_249_method_6_code 0 = .ok (.aload_n 0, 1) := by decide +kernel
theorem d7d1_1 : decode prog_249_method_6_code 1 = .ok (.dup, 1) := by decide +kernel
theorem d7d1_2 : decode prog_249_method_6_code 2 = .ok (.getfield 26, 3) := by decide +kernel
theorem d7d1_5 : decode prog_249_method_6_code 5 = .ok (.iconst 1, 1) := by decide +kernel
theorem d7d1_6 : decode prog_249_method_6_code 6 = .ok (.isub, 1) := by decide +kernel
theorem d7d1_7 : decode prog_249_method_6_code 7 = .ok (.putfield 26, 3) := by decide +kernel
theorem d7d1_10 : decode prog_249_method_6_code 10 = .ok (.aload_n 0, 1) := by decide +kernel
theorem d7d1_11 : decode prog_249_method_6_code 11 = .ok (.aload_n 0, 1) := by decide +kernel
theorem d7d1_12 : decode prog_249_method_6_code 12 = .ok (.getfield 7, 3) := by decide +kernel
theorem d7d1_15 : decode prog_249_method_6_code 15 = .ok (.aload_n 0, 1) := by decide +kernel
theorem d7d1_16 : decode prog_249_method_6_code 16 = .ok (.getfield 26, 3) := by decide +kernel
theorem d7d1_19 : decode prog_249_method_6_code 19 = .ok (.iaload, 1) := by decide +kernel
theorem d7d1_20 : decode prog_249_method_6_code 20 = .ok (.putfield 48, 3) := by decide +kernel
theorem d7d1_23 : decode prog_249_method_6_code 23 = .ok (.aload_n 0, 1) := by decide +kernel
theorem d7d1_24 : decode prog_249_method_6_code 24 = .ok (.aload_n 0, 1) := by decide +kernel
theorem d7d1_25 : decode prog_249_method_6_code 25 = .ok (.getfield 42, 3) := by decide +kernel
theorem d7d1_28 : decode prog_249_method_6_code 28 = .ok (.aload_n 0, 1) := by decide +kernel
theorem d7d1_29 : decode prog_249_method_6_code 29 = .ok (.getfield 7, 3) := by decide +kernel
theorem d7d1_32 : decode prog_249_method_6_code 32 = .ok (.aload_n 0, 1) := by decide +kernel
theorem d7d1_33 : decode prog_249_method_6_code 33 = .ok (.getfield 26, 3) := by decide +kernel
theorem d7d1_36 : decode prog_249_method_6_code 36 = .ok (.iaload, 1) := by decide +kernel
theorem d7d1_37 : decode prog_249_method_6_code 37 = .ok (.isub, 1) := by decide +kernel
theorem d7d1_38 : decode prog_249_method_6_code 38 = .ok (.putfield 51, 3) := by decide +kernel
theorem d7d1_41 : decode prog_249_method_6_code 41 = .ok (.aload_n 0, 1) := by decide +kernel
theorem d7d1_42 : decode prog_249_method_6_code 42 = .ok (.aload_n 0, 1) := by decide +kernel
theorem d7d1_43 : decode prog_249_method_6_code 43 = .ok (.getfield 13, 3) := by decide +kernel
theorem d7d1_46 : decode prog_249_method_6_code 46 = .ok (.aload_n 0, 1) := by decide +kernel
theorem d7d1_47 : decode prog_249_method_6_code 47 = .ok (.getfield 26, 3) := by decide +kernel
theorem d7d1_50 : decode prog_249_method_6_code 50 = .ok (.iaload, 1) := by decide +kernel
theorem d7d1_51 : decode prog_249_method_6_code 51 = .ok (.putfield 54, 3) := by decide +kernel
theorem d7d1_54 : decode prog_249_method_6_code 54 = .ok (.return_, 1) := by decide +kernel
theorem pn_7d1 : plainName "com/example/rewoven_tree/rewoventree/storage/TableShape" = true := by first | (simp [plainName, overriddenIn]; done) | decide +kernel
theorem ef_7d1 (m : MethodId) (x0 : Addr) : entryFrame m #[(.ref x0)] 1 = mkF m 0 #[.val (.ref x0)] [] := by first | (simp [entryFrame, mkF, argsToLocals, Value.category]; done) | rfl
def Q7d1 (Z : State) (a1 : Addr) (bo : Addr) (bt : Addr) (rc : Int32) (o0 : Int32) (o1 : Int32) (t0 : Int32) (t1 : Int32) (er : Int32) (es : Int32) (ea : Int32) (h0 : Heap) (n0 : Nat) (v : Option Value) (h : Heap) (L : List Loc) : Prop := v = none ∧ Fr n0 L ∧ Keep h0 h [a1, bo, bt] ∧ ownTS Z h n0 a1 bo bt rc (0 : Int32) o0 o1 t0 t1 o0 (rc - o0) t0
set_option maxRecDepth 65536 in
set_option maxHeartbeats 40000000 in
theorem rm7d1 (l : Launch) (Z : State) (a0 : Array Value) (hw : ∀ d ∈ tables_1, d.before a0 Z = true) (ws : List Jvm.Cond) (a1 : Addr) (bo : Addr) (bt : Addr) (rc : Int32) (o0 : Int32) (o1 : Int32) (t0 : Int32) (t1 : Int32) (er : Int32) (es : Int32) (ea : Int32) (h0 : Heap) (n0 : Nat) (Z0 : n0 ≤ h0.size) (B0 : ownTS Z h0 n0 a1 bo bt rc (1 : Int32) o0 o1 t0 t1 er es ea) :
    MetFree l (⟨"com/example/rewoven_tree/rewoventree/storage/TableShape", "end", "()V"⟩ : MethodName) (head1 (Jvm.Cond.code (⟨"com/example/rewoven_tree/rewoventree/storage/TableShape", "end", "()V"⟩ : MethodName) prog_249_method_6_code 1 none :: ws) ({ frames := 0, cells := 0, slots := 0, locals := 0 } : Room)) (fun a U => a = #[(.ref a1)] ∧ Z.Warmed39 U.vm ∧ U.heap = h0) (fun _ _ _ _ _ => True) (fun _ U o U' => ∃ v L, o = .returned v ∧ Q7d1 Z a1 bo bt rc o0 o1 t0 t1 er es ea h0 n0 v U'.heap L ∧ FrameEnd U o U' L ({ frames := 0, cells := 0, slots := 0, locals := 0 } : Room).cells ({ frames := 0, cells := 0, slots := 0, locals := 0 } : Room).slots) := by
  have ww2 := hw _ (List.mem_of_getElem? (i := 2) rfl)
  have ww11 := hw _ (List.mem_of_getElem? (i := 11) rfl)
  have ww12 := hw _ (List.mem_of_getElem? (i := 12) rfl)
  have ww13 := hw _ (List.mem_of_getElem? (i := 13) rfl)
  have ww14 := hw _ (List.mem_of_getElem? (i := 14) rfl)
  have ww20 := hw _ (List.mem_of_getElem? (i := 20) rfl)
  have ww21 := hw _ (List.mem_of_getElem? (i := 21) rfl)
  have ww35 := hw _ (List.mem_of_getElem? (i := 35) rfl)
  have ww36 := hw _ (List.mem_of_getElem? (i := 36) rfl)
  have ww38 := hw _ (List.mem_of_getElem? (i := 38) rfl)
  have ww55 := hw _ (List.mem_of_getElem? (i := 55) rfl)
  have ww56 := hw _ (List.mem_of_getElem? (i := 56) rfl)
  have ww57 := hw _ (List.mem_of_getElem? (i := 57) rfl)
  have ww58 := hw _ (List.mem_of_getElem? (i := 58) rfl)
  have ww59 := hw _ (List.mem_of_getElem? (i := 59) rfl)
  have ww60 := hw _ (List.mem_of_getElem? (i := 60) rfl)
  refine MetFree.of_bodySF (plainFor_of_name pn_7d1) hisR ?_
  intro p e s m args below meth c s₁ Bd hml0 hP hK
  obtain ⟨rfl, hZ, hh⟩ := hP
  have hx := Bd.exec
  have hby := Bd.bytes
  have hlk : meth.locks = false := Bd.notSynchronized
  have hret := Bd.returns
  have hml : c.maxLocals = 1 := hml0
  have hown : s.vm.findClass "com/example/rewoven_tree/rewoventree/storage/TableShape" = some m.cls := findClass_of_methodNamed Bd.named
  have hnm := (name_of_methodNamed Bd.named Bd.method).1
  have X0 : Stand p l e ({ frames := 0, cells := 0, slots := 0, locals := 0 } : Room) s m #[(.ref a1)] below meth c s₁ [] 0 0 := Stand.of_body Bd
  have e0 : s₁.heap = h0 := by rw [← hh, Bd.state]; rfl
  have N0 := Fr.nil n0
  have K0 := Keep.refl h0 [a1, bo, bt]
  show OwnEnd p e below s (Q7d1 Z a1 bo bt rc o0 o1 t0 t1 er es ea h0 n0) ({ frames := 0, cells := 0, slots := 0, locals := 0 } : Room).cells ({ frames := 0, cells := 0, slots := 0, locals := 0 } : Room).slots _
  refine OwnEnd.go (fun _ k => castTop (ef_7d1 m a1) k) ?_
  obtain ⟨ga, go, gt, n1, n2, n3, E1, F_open, F_attr, F_rc, F_dp, ⟨di, F_di⟩, F_er, F_es, F_ea, ⟨ko, V_o⟩, ⟨kt, V_t⟩⟩ := B0
  show OwnEnd p e below s _ _ _ (s₁.setTop (mkF m 0 #[.val (.ref a1)] []))
  refine OwnEnd.go (fun _ k => XS.aloadN X0.here hx rfl (hb hby d7d1_0) rfl rfl k) ?_
  show OwnEnd p e below s _ _ _ (s₁.setTop (mkF m 1 #[.val (.ref a1)] [(.ref a1)]))
  refine OwnEnd.go (fun _ k => XS.dup X0.here hx rfl (hb hby d7d1_1) rfl rfl k) ?_
  show OwnEnd p e below s _ _ _ (s₁.setTop (mkF m 2 #[.val (.ref a1)] [(.ref a1), (.ref a1)]))
  obtain ⟨T101, X101, e101, st101⟩ := getF X0 hx hZ hown (host := "") (Or.inl ww35) Via.refl e0 F_dp (g := (mkF m 2 #[.val (.ref a1)] [(.ref a1), (.ref a1)])) rfl rfl (hb hby d7d1_2)
  refine OwnEnd.go (fun _ k => st101 _ k) ?_
  show OwnEnd p e below s _ _ _ (T101.setTop (mkF m 5 #[.val (.ref a1)] [(.int (1 : Int32)), (.ref a1)]))
  refine OwnEnd.go (fun _ k => XS.iconst X101.here hx rfl (hb hby d7d1_5) k) ?_
  show OwnEnd p e below s _ _ _ (T101.setTop (mkF m 6 #[.val (.ref a1)] [(.int (1 : Int32)), (.int (1 : Int32)), (.ref a1)]))
  refine OwnEnd.go (fun _ k => XS.isub X101.here hx rfl (hb hby d7d1_6) rfl k) ?_
  show OwnEnd p e below s _ _ _ (T101.setTop (mkF m 7 #[.val (.ref a1)] [(.int (0 : Int32)), (.ref a1)]))
  obtain ⟨T102, h102, X102, e102, W102, st102⟩ := putF X101 hx hZ hown (host := "") (Or.inl ww35) Via.refl e101 F_dp E1 (Or.inl ww36) ww2 (ty := .int) (by decide) rfl rfl (g := (mkF m 7 #[.val (.ref a1)] [(.int (0 : Int32)), (.ref a1)])) rfl rfl (hb hby d7d1_7)
  have F104 := E1.wr W102
  have F105 := F_open.other W102 (Or.inr (slot_ne (Or.inl ww12) (Or.inl ww36) (by decide) (t := (.array .int)) (t' := .int) (by decide) (by decide)))
  have F106 := F_attr.other W102 (Or.inr (slot_ne (Or.inl ww14) (Or.inl ww36) (by decide) (t := (.array .int)) (t' := .int) (by decide) (by decide)))
  have F107 := F_rc.other W102 (Or.inr (slot_ne (Or.inl ww21) (Or.inl ww36) (by decide) (t := .int) (t' := .int) (by decide) (by decide)))
  have F108 := F_dp.same W102
  have F109 := F_di.other W102 (Or.inr (slot_ne (Or.inl ww38) (Or.inl ww36) (by decide) (t := .int) (t' := .int) (by decide) (by decide)))
  have F110 := F_er.other W102 (Or.inr (slot_ne (Or.inl ww56) (Or.inl ww36) (by decide) (t := .int) (t' := .int) (by decide) (by decide)))
  have F111 := F_es.other W102 (Or.inr (slot_ne (Or.inl ww58) (Or.inl ww36) (by decide) (t := .int) (t' := .int) (by decide) (by decide)))
  have F112 := F_ea.other W102 (Or.inr (slot_ne (Or.inl ww60) (Or.inl ww36) (by decide) (t := .int) (t' := .int) (by decide) (by decide)))
  have F113 := V_o.other W102 (Ne.symm n1)
  have F114 := V_t.other W102 (Ne.symm n2)
  have N102 := Fr.snoc X102 N0 ga
  have K102 := K0.wr W102 (Or.inl (List.mem_of_getElem? (i := 0) rfl))
  have Y102 := Nat.le_trans Z0 (Nat.le_of_eq W102.size.symm)
  refine OwnEnd.go (fun _ k => st102 _ k) ?_
  show OwnEnd p e below s _ _ _ (T102.setTop (mkF m 10 #[.val (.ref a1)] []))
  refine OwnEnd.go (fun _ k => XS.aloadN X102.here hx rfl (hb hby d7d1_10) rfl rfl k) ?_
  show OwnEnd p e below s _ _ _ (T102.setTop (mkF m 11 #[.val (.ref a1)] [(.ref a1)]))
  refine OwnEnd.go (fun _ k => XS.aloadN X102.here hx rfl (hb hby d7d1_11) rfl rfl k) ?_
  show OwnEnd p e below s _ _ _ (T102.setTop (mkF m 12 #[.val (.ref a1)] [(.ref a1), (.ref a1)]))
  obtain ⟨T115, X115, e115, st115⟩ := getF X102 hx hZ hown (host := "") (Or.inl ww11) Via.refl e102 F105 (g := (mkF m 12 #[.val (.ref a1)] [(.ref a1), (.ref a1)])) rfl rfl (hb hby d7d1_12)
  refine OwnEnd.go (fun _ k => st115 _ k) ?_
  show OwnEnd p e below s _ _ _ (T115.setTop (mkF m 15 #[.val (.ref a1)] [(.ref bo), (.ref a1)]))
  refine OwnEnd.go (fun _ k => XS.aloadN X115.here hx rfl (hb hby d7d1_15) rfl rfl k) ?_
  show OwnEnd p e below s _ _ _ (T115.setTop (mkF m 16 #[.val (.ref a1)] [(.ref a1), (.ref bo), (.ref a1)]))
  obtain ⟨T116, X116, e116, st116⟩ := getF X115 hx hZ hown (host := "") (Or.inl ww35) Via.refl e115 F108 (g := (mkF m 16 #[.val (.ref a1)] [(.ref a1), (.ref bo), (.ref a1)])) rfl rfl (hb hby d7d1_16)
  refine OwnEnd.go (fun _ k => st116 _ k) ?_
  show OwnEnd p e below s _ _ _ (T116.setTop (mkF m 19 #[.val (.ref a1)] [(.int (0 : Int32)), (.ref bo), (.ref a1)]))
  obtain ⟨c117, Ar117, q117, S117, G117, H117, J117⟩ := id F113
  have i117 := inb_of (j := (0 : Int32)) S117 ⟨by decide, by decide⟩
  refine OwnEnd.go (fun _ k => X116.iaload hx (j := (0 : Int32)) (v := (.int o0)) (by rw [e116]; exact Ar117.1) (State.isArrayOf_alike hZ.alike Ar117.2.1) Ar117.2.2 i117 (Has.at H117 i117 rfl) (g := (mkF m 19 #[.val (.ref a1)] [(.int (0 : Int32)), (.ref bo), (.ref a1)])) rfl rfl (hb hby d7d1_19) _ k) ?_
  show OwnEnd p e below s _ _ _ (T116.setTop (mkF m 20 #[.val (.ref a1)] [(.int o0), (.ref a1)]))
  obtain ⟨T118, h118, X118, e118, W118, st118⟩ := putF X116 hx hZ hown (host := "") (Or.inl ww55) Via.refl e116 F110 F104 (Or.inl ww56) ww2 (ty := .int) (by decide) rfl rfl (g := (mkF m 20 #[.val (.ref a1)] [(.int o0), (.ref a1)])) rfl rfl (hb hby d7d1_20)
  have F119 := F104.wr W118
  have F120 := F105.other W118 (Or.inr (slot_ne (Or.inl ww12) (Or.inl ww56) (by decide) (t := (.array .int)) (t' := .int) (by decide) (by decide)))
  have F121 := F106.other W118 (Or.inr (slot_ne (Or.inl ww14) (Or.inl ww56) (by decide) (t := (.array .int)) (t' := .int) (by decide) (by decide)))
  have F122 := F107.other W118 (Or.inr (slot_ne (Or.inl ww21) (Or.inl ww56) (by decide) (t := .int) (t' := .int) (by decide) (by decide)))
  have F123 := F108.other W118 (Or.inr (slot_ne (Or.inl ww36) (Or.inl ww56) (by decide) (t := .int) (t' := .int) (by decide) (by decide)))
  have F124 := F109.other W118 (Or.inr (slot_ne (Or.inl ww38) (Or.inl ww56) (by decide) (t := .int) (t' := .int) (by decide) (by decide)))
  have F125 := F110.same W118
  have F126 := F111.other W118 (Or.inr (slot_ne (Or.inl ww58) (Or.inl ww56) (by decide) (t := .int) (t' := .int) (by decide) (by decide)))
  have F127 := F112.other W118 (Or.inr (slot_ne (Or.inl ww60) (Or.inl ww56) (by decide) (t := .int) (t' := .int) (by decide) (by decide)))
  have F128 := F113.other W118 (Ne.symm n1)
  have F129 := F114.other W118 (Ne.symm n2)
  have N118 := Fr.snoc X118 N102 ga
  have K118 := K102.wr W118 (Or.inl (List.mem_of_getElem? (i := 0) rfl))
  have Y118 := Nat.le_trans Y102 (Nat.le_of_eq W118.size.symm)
  refine OwnEnd.go (fun _ k => st118 _ k) ?_
  show OwnEnd p e below s _ _ _ (T118.setTop (mkF m 23 #[.val (.ref a1)] []))
  refine OwnEnd.go (fun _ k => XS.aloadN X118.here hx rfl (hb hby d7d1_23) rfl rfl k) ?_
  show OwnEnd p e below s _ _ _ (T118.setTop (mkF m 24 #[.val (.ref a1)] [(.ref a1)]))
  refine OwnEnd.go (fun _ k => XS.aloadN X118.here hx rfl (hb hby d7d1_24) rfl rfl k) ?_
  show OwnEnd p e below s _ _ _ (T118.setTop (mkF m 25 #[.val (.ref a1)] [(.ref a1), (.ref a1)]))
  obtain ⟨T130, X130, e130, st130⟩ := getF X118 hx hZ hown (host := "") (Or.inl ww20) Via.refl e118 F122 (g := (mkF m 25 #[.val (.ref a1)] [(.ref a1), (.ref a1)])) rfl rfl (hb hby d7d1_25)
  refine OwnEnd.go (fun _ k => st130 _ k) ?_
  show OwnEnd p e below s _ _ _ (T130.setTop (mkF m 28 #[.val (.ref a1)] [(.int rc), (.ref a1)]))
  refine OwnEnd.go (fun _ k => XS.aloadN X130.here hx rfl (hb hby d7d1_28) rfl rfl k) ?_
  show OwnEnd p e below s _ _ _ (T130.setTop (mkF m 29 #[.val (.ref a1)] [(.ref a1), (.int rc), (.ref a1)]))
  obtain ⟨T131, X131, e131, st131⟩ := getF X130 hx hZ hown (host := "") (Or.inl ww11) Via.refl e130 F120 (g := (mkF m 29 #[.val (.ref a1)] [(.ref a1), (.int rc), (.ref a1)])) rfl rfl (hb hby d7d1_29)
  refine OwnEnd.go (fun _ k => st131 _ k) ?_
  show OwnEnd p e below s _ _ _ (T131.setTop (mkF m 32 #[.val (.ref a1)] [(.ref bo), (.int rc), (.ref a1)]))
  refine OwnEnd.go (fun _ k => XS.aloadN X131.here hx rfl (hb hby d7d1_32) rfl rfl k) ?_
  show OwnEnd p e below s _ _ _ (T131.setTop (mkF m 33 #[.val (.ref a1)] [(.ref a1), (.ref bo), (.int rc), (.ref a1)]))
  obtain ⟨T132, X132, e132, st132⟩ := getF X131 hx hZ hown (host := "") (Or.inl ww35) Via.refl e131 F123 (g := (mkF m 33 #[.val (.ref a1)] [(.ref a1), (.ref bo), (.int rc), (.ref a1)])) rfl rfl (hb hby d7d1_33)
  refine OwnEnd.go (fun _ k => st132 _ k) ?_
  show OwnEnd p e below s _ _ _ (T132.setTop (mkF m 36 #[.val (.ref a1)] [(.int (0 : Int32)), (.ref bo), (.int rc), (.ref a1)]))
  obtain ⟨c133, Ar133, q133, S133, G133, H133, J133⟩ := id F128
  have i133 := inb_of (j := (0 : Int32)) S133 ⟨by decide, by decide⟩
  refine OwnEnd.go (fun _ k => X132.iaload hx (j := (0 : Int32)) (v := (.int o0)) (by rw [e132]; exact Ar133.1) (State.isArrayOf_alike hZ.alike Ar133.2.1) Ar133.2.2 i133 (Has.at H133 i133 rfl) (g := (mkF m 36 #[.val (.ref a1)] [(.int (0 : Int32)), (.ref bo), (.int rc), (.ref a1)])) rfl rfl (hb hby d7d1_36) _ k) ?_
  show OwnEnd p e below s _ _ _ (T132.setTop (mkF m 37 #[.val (.ref a1)] [(.int o0), (.int rc), (.ref a1)]))
  refine OwnEnd.go (fun _ k => XS.isub X132.here hx rfl (hb hby d7d1_37) rfl k) ?_
  show OwnEnd p e below s _ _ _ (T132.setTop (mkF m 38 #[.val (.ref a1)] [(.int (rc - o0)), (.ref a1)]))
  obtain ⟨T134, h134, X134, e134, W134, st134⟩ := putF X132 hx hZ hown (host := "") (Or.inl ww57) Via.refl e132 F126 F119 (Or.inl ww58) ww2 (ty := .int) (by decide) rfl rfl (g := (mkF m 38 #[.val (.ref a1)] [(.int (rc - o0)), (.ref a1)])) rfl rfl (hb hby d7d1_38)
  have F135 := F119.wr W134
  have F136 := F120.other W134 (Or.inr (slot_ne (Or.inl ww12) (Or.inl ww58) (by decide) (t := (.array .int)) (t' := .int) (by decide) (by decide)))
  have F137 := F121.other W134 (Or.inr (slot_ne (Or.inl ww14) (Or.inl ww58) (by decide) (t := (.array .int)) (t' := .int) (by decide) (by decide)))
  have F138 := F122.other W134 (Or.inr (slot_ne (Or.inl ww21) (Or.inl ww58) (by decide) (t := .int) (t' := .int) (by decide) (by decide)))
  have F139 := F123.other W134 (Or.inr (slot_ne (Or.inl ww36) (Or.inl ww58) (by decide) (t := .int) (t' := .int) (by decide) (by decide)))
  have F140 := F124.other W134 (Or.inr (slot_ne (Or.inl ww38) (Or.inl ww58) (by decide) (t := .int) (t' := .int) (by decide) (by decide)))
  have F141 := F125.other W134 (Or.inr (slot_ne (Or.inl ww56) (Or.inl ww58) (by decide) (t := .int) (t' := .int) (by decide) (by decide)))
  have F142 := F126.same W134
  have F143 := F127.other W134 (Or.inr (slot_ne (Or.inl ww60) (Or.inl ww58) (by decide) (t := .int) (t' := .int) (by decide) (by decide)))
  have F144 := F128.other W134 (Ne.symm n1)
  have F145 := F129.other W134 (Ne.symm n2)
  have N134 := Fr.snoc X134 N118 ga
  have K134 := K118.wr W134 (Or.inl (List.mem_of_getElem? (i := 0) rfl))
  have Y134 := Nat.le_trans Y118 (Nat.le_of_eq W134.size.symm)
  refine OwnEnd.go (fun _ k => st134 _ k) ?_
  show OwnEnd p e below s _ _ _ (T134.setTop (mkF m 41 #[.val (.ref a1)] []))
  refine OwnEnd.go (fun _ k => XS.aloadN X134.here hx rfl (hb hby d7d1_41) rfl rfl k) ?_
  show OwnEnd p e below s _ _ _ (T134.setTop (mkF m 42 #[.val (.ref a1)] [(.ref a1)]))
  refine OwnEnd.go (fun _ k => XS.aloadN X134.here hx rfl (hb hby d7d1_42) rfl rfl k) ?_
  show OwnEnd p e below s _ _ _ (T134.setTop (mkF m 43 #[.val (.ref a1)] [(.ref a1), (.ref a1)]))
  obtain ⟨T146, X146, e146, st146⟩ := getF X134 hx hZ hown (host := "") (Or.inl ww13) Via.refl e134 F137 (g := (mkF m 43 #[.val (.ref a1)] [(.ref a1), (.ref a1)])) rfl rfl (hb hby d7d1_43)
  refine OwnEnd.go (fun _ k => st146 _ k) ?_
  show OwnEnd p e below s _ _ _ (T146.setTop (mkF m 46 #[.val (.ref a1)] [(.ref bt), (.ref a1)]))
  refine OwnEnd.go (fun _ k => XS.aloadN X146.here hx rfl (hb hby d7d1_46) rfl rfl k) ?_
  show OwnEnd p e below s _ _ _ (T146.setTop (mkF m 47 #[.val (.ref a1)] [(.ref a1), (.ref bt), (.ref a1)]))
  obtain ⟨T147, X147, e147, st147⟩ := getF X146 hx hZ hown (host := "") (Or.inl ww35) Via.refl e146 F139 (g := (mkF m 47 #[.val (.ref a1)] [(.ref a1), (.ref bt), (.ref a1)])) rfl rfl (hb hby d7d1_47)
  refine OwnEnd.go (fun _ k => st147 _ k) ?_
  show OwnEnd p e below s _ _ _ (T147.setTop (mkF m 50 #[.val (.ref a1)] [(.int (0 : Int32)), (.ref bt), (.ref a1)]))
  obtain ⟨c148, Ar148, q148, S148, G148, H148, J148⟩ := id F145
  have i148 := inb_of (j := (0 : Int32)) S148 ⟨by decide, by decide⟩
  refine OwnEnd.go (fun _ k => X147.iaload hx (j := (0 : Int32)) (v := (.int t0)) (by rw [e147]; exact Ar148.1) (State.isArrayOf_alike hZ.alike Ar148.2.1) Ar148.2.2 i148 (Has.at H148 i148 rfl) (g := (mkF m 50 #[.val (.ref a1)] [(.int (0 : Int32)), (.ref bt), (.ref a1)])) rfl rfl (hb hby d7d1_50) _ k) ?_
  show OwnEnd p e below s _ _ _ (T147.setTop (mkF m 51 #[.val (.ref a1)] [(.int t0), (.ref a1)]))
  obtain ⟨T149, h149, X149, e149, W149, st149⟩ := putF X147 hx hZ hown (host := "") (Or.inl ww59) Via.refl e147 F143 F135 (Or.inl ww60) ww2 (ty := .int) (by decide) rfl rfl (g := (mkF m 51 #[.val (.ref a1)] [(.int t0), (.ref a1)])) rfl rfl (hb hby d7d1_51)
  have F150 := F135.wr W149
  have F151 := F136.other W149 (Or.inr (slot_ne (Or.inl ww12) (Or.inl ww60) (by decide) (t := (.array .int)) (t' := .int) (by decide) (by decide)))
  have F152 := F137.other W149 (Or.inr (slot_ne (Or.inl ww14) (Or.inl ww60) (by decide) (t := (.array .int)) (t' := .int) (by decide) (by decide)))
  have F153 := F138.other W149 (Or.inr (slot_ne (Or.inl ww21) (Or.inl ww60) (by decide) (t := .int) (t' := .int) (by decide) (by decide)))
  have F154 := F139.other W149 (Or.inr (slot_ne (Or.inl ww36) (Or.inl ww60) (by decide) (t := .int) (t' := .int) (by decide) (by decide)))
  have F155 := F140.other W149 (Or.inr (slot_ne (Or.inl ww38) (Or.inl ww60) (by decide) (t := .int) (t' := .int) (by decide) (by decide)))
  have F156 := F141.other W149 (Or.inr (slot_ne (Or.inl ww56) (Or.inl ww60) (by decide) (t := .int) (t' := .int) (by decide) (by decide)))
  have F157 := F142.other W149 (Or.inr (slot_ne (Or.inl ww58) (Or.inl ww60) (by decide) (t := .int) (t' := .int) (by decide) (by decide)))
  have F158 := F143.same W149
  have F159 := F144.other W149 (Ne.symm n1)
  have F160 := F145.other W149 (Ne.symm n2)
  have N149 := Fr.snoc X149 N134 ga
  have K149 := K134.wr W149 (Or.inl (List.mem_of_getElem? (i := 0) rfl))
  have Y149 := Nat.le_trans Y134 (Nat.le_of_eq W149.size.symm)
  refine OwnEnd.go (fun _ k => st149 _ k) ?_
  show OwnEnd p e below s _ _ _ (T149.setTop (mkF m 54 #[.val (.ref a1)] []))
  refine ownRetV X149 hx hlk hret (hb hby d7d1_54) (by decide) (by decide) ?_
  show Q7d1 Z a1 bo bt rc o0 o1 t0 t1 er es ea h0 n0 _ T149.heap _
  rw [e149]
  exact ⟨rfl, N149, K149, ⟨ga, go, gt, n1, n2, n3, F150, F151, F152, F153, F154, ⟨_, F155⟩, F156, F157, F158, ⟨_, F159⟩, ⟨_, F160⟩⟩⟩
theorem d5d1_0 : decode prog_249_method_3_code 0 = .ok (.aload_n 0, 1) := by decide +kernel
theorem d5d1_1 : decode prog_249_method_3_code 1 = .ok (.getfield 42, 3) := by decide +kernel
theorem d5d1_4 : decode prog_249_method_3_code 4 = .ok (.istore_n 2, 1) := by decide +kernel
theorem d5d1_5 : decode prog_249_method_3_code 5 = .ok (.aload_n 0, 1) := by decide +kernel
theorem d5d1_6 : decode prog_249_method_3_code 6 = .ok (.aload_n 0, 1) := by decide +kernel
theorem d5d1_7 : decode prog_249_method_3_code 7 = .ok (.getfield 26, 3) := by decide +kernel
theorem d5d1_10 : decode prog_249_method_3_code 10 = .ok (.ifCond .ne 7, 3) := by decide +kernel
theorem d5d1_17 : decode prog_249_method_3_code 17 = .ok (.iload_n 2, 1) := by decide +kernel
theorem d5d1_18 : decode prog_249_method_3_code 18 = .ok (.aload_n 0, 1) := by decide +kernel
theorem d5d1_19 : decode prog_249_method_3_code 19 = .ok (.getfield 7, 3) := by decide +kernel
theorem d5d1_22 : decode prog_249_method_3_code 22 = .ok (.aload_n 0, 1) := by decide +kernel
theorem d5d1_23 : decode prog_249_method_3_code 23 = .ok (.getfield 26, 3) := by decide +kernel
theorem d5d1_26 : decode prog_249_method_3_code 26 = .ok (.iconst 1, 1) := by decide +kernel
theorem d5d1_27 : decode prog_249_method_3_code 27 = .ok (.isub, 1) := by decide +kernel
theorem d5d1_28 : decode prog_249_method_3_code 28 = .ok (.iaload, 1) := by decide +kernel
theorem d5d1_29 : decode prog_249_method_3_code 29 = .ok (.isub, 1) := by decide +kernel
theorem d5d1_30 : decode prog_249_method_3_code 30 = .ok (.putfield 45, 3) := by decide +kernel
theorem d5d1_33 : decode prog_249_method_3_code 33 = .ok (.aload_n 0, 1) := by decide +kernel
theorem d5d1_34 : decode prog_249_method_3_code 34 = .ok (.dup, 1) := by decide +kernel
theorem d5d1_35 : decode prog_249_method_3_code 35 = .ok (.getfield 42, 3) := by decide +kernel
theorem d5d1_38 : decode prog_249_method_3_code 38 = .ok (.iload_n 1, 1) := by decide +kernel
theorem d5d1_39 : decode prog_249_method_3_code 39 = .ok (.iadd, 1) := by decide +kernel
theorem d5d1_40 : decode prog_249_method_3_code 40 = .ok (.putfield 42, 3) := by decide +kernel
theorem d5d1_43 : decode prog_249_method_3_code 43 = .ok (.iload_n 2, 1) := by decide +kernel
theorem d5d1_44 : decode prog_249_method_3_code 44 = .ok (.ireturn, 1) := by decide +kernel
theorem pn_5d1 : plainName "com/example/rewoven_tree/rewoventree/storage/TableShape" = true := by first | (simp [plainName, overriddenIn]; done) | decide +kernel
theorem ef_5d1 (m : MethodId) (x0 : Addr) (x1 : Int32) : entryFrame m #[(.ref x0), (.int x1)] 3 = mkF m 0 #[.val (.ref x0), .val (.int x1), .unset] [] := by first | (simp [entryFrame, mkF, argsToLocals, Value.category]; done) | rfl
def Q5d1 (Z : State) (a1 : Addr) (p2 : Int32) (bo : Addr) (bt : Addr) (rc : Int32) (o0 : Int32) (o1 : Int32) (t0 : Int32) (t1 : Int32) (er : Int32) (es : Int32) (ea : Int32) (h0 : Heap) (n0 : Nat) (v : Option Value) (h : Heap) (L : List Loc) : Prop := v = some (.int rc) ∧ Fr n0 L ∧ Keep h0 h [a1, bo, bt] ∧ ownTS Z h n0 a1 bo bt (rc + p2) (1 : Int32) o0 o1 t0 t1 er es ea
set_option maxRecDepth 65536 in
set_option maxHeartbeats 40000000 in
theorem rm5d1 (l : Launch) (Z : State) (a0 : Array Value) (hw : ∀ d ∈ tables_1, d.before a0 Z = true) (ws : List Jvm.Cond) (a1 : Addr) (p2 : Int32) (bo : Addr) (bt : Addr) (rc : Int32) (o0 : Int32) (o1 : Int32) (t0 : Int32) (t1 : Int32) (er : Int32) (es : Int32) (ea : Int32) (h0 : Heap) (n0 : Nat) (Z0 : n0 ≤ h0.size) (B0 : ownTS Z h0 n0 a1 bo bt rc (1 : Int32) o0 o1 t0 t1 er es ea) :
    MetFree l (⟨"com/example/rewoven_tree/rewoventree/storage/TableShape", "placeSubtree", "(I)I"⟩ : MethodName) (head1 (Jvm.Cond.code (⟨"com/example/rewoven_tree/rewoventree/storage/TableShape", "placeSubtree", "(I)I"⟩ : MethodName) prog_249_method_3_code 3 (some .int) :: ws) ({ frames := 0, cells := 0, slots := 0, locals := 0 } : Room)) (fun a U => a = #[(.ref a1), (.int p2)] ∧ Z.Warmed39 U.vm ∧ U.heap = h0) (fun _ _ _ _ _ => True) (fun _ U o U' => ∃ v L, o = .returned v ∧ Q5d1 Z a1 p2 bo bt rc o0 o1 t0 t1 er es ea h0 n0 v U'.heap L ∧ FrameEnd U o U' L ({ frames := 0, cells := 0, slots := 0, locals := 0 } : Room).cells ({ frames := 0, cells := 0, slots := 0, locals := 0 } : Room).slots) := by
  have ww2 := hw _ (List.mem_of_getElem? (i := 2) rfl)
  have ww11 := hw _ (List.mem_of_getElem? (i := 11) rfl)
  have ww12 := hw _ (List.mem_of_getElem? (i := 12) rfl)
  have ww14 := hw _ (List.mem_of_getElem? (i := 14) rfl)
  have ww20 := hw _ (List.mem_of_getElem? (i := 20) rfl)
  have ww21 := hw _ (List.mem_of_getElem? (i := 21) rfl)
  have ww35 := hw _ (List.mem_of_getElem? (i := 35) rfl)
  have ww36 := hw _ (List.mem_of_getElem? (i := 36) rfl)
  have ww37 := hw _ (List.mem_of_getElem? (i := 37) rfl)
  have ww38 := hw _ (List.mem_of_getElem? (i := 38) rfl)
  have ww56 := hw _ (List.mem_of_getElem? (i := 56) rfl)
  have ww58 := hw _ (List.mem_of_getElem? (i := 58) rfl)
  have ww60 := hw _ (List.mem_of_getElem? (i := 60) rfl)
  refine MetFree.of_bodySF (plainFor_of_name pn_5d1) hisR ?_
  intro p e s m args below meth c s₁ Bd hml0 hP hK
  obtain ⟨rfl, hZ, hh⟩ := hP
  have hx := Bd.exec
  have hby := Bd.bytes
  have hlk : meth.locks = false := Bd.notSynchronized
  have hret := Bd.returns
  have hml : c.maxLocals = 3 := hml0
  have hown : s.vm.findClass "com/example/rewoven_tree/rewoventree/storage/TableShape" = some m.cls := findClass_of_methodNamed Bd.named
  have hnm := (name_of_methodNamed Bd.named Bd.method).1
  have X0 : Stand p l e ({ frames := 0, cells := 0, slots := 0, locals := 0 } : Room) s m #[(.ref a1), (.int p2)] below meth c s₁ [] 0 0 := Stand.of_body Bd
  have e0 : s₁.heap = h0 := by rw [← hh, Bd.state]; rfl
  have N0 := Fr.nil n0
  have K0 := Keep.refl h0 [a1, bo, bt]
  show OwnEnd p e below s (Q5d1 Z a1 p2 bo bt rc o0 o1 t0 t1 er es ea h0 n0) ({ frames := 0, cells := 0, slots := 0, locals := 0 } : Room).cells ({ frames := 0, cells := 0, slots := 0, locals := 0 } : Room).slots _
  refine OwnEnd.go (fun _ k => castTop (ef_5d1 m a1 p2) k) ?_
  obtain ⟨ga, go, gt, n1, n2, n3, E1, F_open, F_attr, F_rc, F_dp, ⟨di, F_di⟩, F_er, F_es, F_ea, ⟨ko, V_o⟩, ⟨kt, V_t⟩⟩ := B0
  show OwnEnd p e below s _ _ _ (s₁.setTop (mkF m 0 #[.val (.ref a1), .val (.int p2), .unset] []))
  refine OwnEnd.go (fun _ k => XS.aloadN X0.here hx rfl (hb hby d5d1_0) rfl rfl k) ?_
  show OwnEnd p e below s _ _ _ (s₁.setTop (mkF m 1 #[.val (.ref a1), .val (.int p2), .unset] [(.ref a1)]))
  obtain ⟨T101, X101, e101, st101⟩ := getF X0 hx hZ hown (host := "") (Or.inl ww20) Via.refl e0 F_rc (g := (mkF m 1 #[.val (.ref a1), .val (.int p2), .unset] [(.ref a1)])) rfl rfl (hb hby d5d1_1)
  refine OwnEnd.go (fun _ k => st101 _ k) ?_
  show OwnEnd p e below s _ _ _ (T101.setTop (mkF m 4 #[.val (.ref a1), .val (.int p2), .unset] [(.int rc)]))
  refine OwnEnd.go (fun _ k => XS.istoreN X101.here hx rfl (hb hby d5d1_4) rfl  (l' := #[.val (.ref a1), .val (.int p2), .val (.int rc)]) rfl k) ?_
  show OwnEnd p e below s _ _ _ (T101.setTop (mkF m 5 #[.val (.ref a1), .val (.int p2), .val (.int rc)] []))
  refine OwnEnd.go (fun _ k => XS.aloadN X101.here hx rfl (hb hby d5d1_5) rfl rfl k) ?_
  show OwnEnd p e below s _ _ _ (T101.setTop (mkF m 6 #[.val (.ref a1), .val (.int p2), .val (.int rc)] [(.ref a1)]))
  refine OwnEnd.go (fun _ k => XS.aloadN X101.here hx rfl (hb hby d5d1_6) rfl rfl k) ?_
  show OwnEnd p e below s _ _ _ (T101.setTop (mkF m 7 #[.val (.ref a1), .val (.int p2), .val (.int rc)] [(.ref a1), (.ref a1)]))
  obtain ⟨T102, X102, e102, st102⟩ := getF X101 hx hZ hown (host := "") (Or.inl ww35) Via.refl e101 F_dp (g := (mkF m 7 #[.val (.ref a1), .val (.int p2), .val (.int rc)] [(.ref a1), (.ref a1)])) rfl rfl (hb hby d5d1_7)
  refine OwnEnd.go (fun _ k => st102 _ k) ?_
  show OwnEnd p e below s _ _ _ (T102.setTop (mkF m 10 #[.val (.ref a1), .val (.int p2), .val (.int rc)] [(.int (1 : Int32)), (.ref a1)]))
  refine OwnEnd.go (fun _ k => XS.ifYes X102.here hx rfl (pc0 := 10) (pc' := 17) rfl (hb hby d5d1_10) rfl ((if0 _ _).trans (feq (by decide : ¬ (1 : Int32) = (0 : Int32))).2) (by decide) (by decide) k) ?_
  show OwnEnd p e below s _ _ _ (T102.setTop (mkF m 17 #[.val (.ref a1), .val (.int p2), .val (.int rc)] [(.ref a1)]))
  refine OwnEnd.go (fun _ k => XS.iloadN X102.here hx rfl (hb hby d5d1_17) rfl  k) ?_
  show OwnEnd p e below s _ _ _ (T102.setTop (mkF m 18 #[.val (.ref a1), .val (.int p2), .val (.int rc)] [(.int rc), (.ref a1)]))
  refine OwnEnd.go (fun _ k => XS.aloadN X102.here hx rfl (hb hby d5d1_18) rfl rfl k) ?_
  show OwnEnd p e below s _ _ _ (T102.setTop (mkF m 19 #[.val (.ref a1), .val (.int p2), .val (.int rc)] [(.ref a1), (.int rc), (.ref a1)]))
  obtain ⟨T103, X103, e103, st103⟩ := getF X102 hx hZ hown (host := "") (Or.inl ww11) Via.refl e102 F_open (g := (mkF m 19 #[.val (.ref a1), .val (.int p2), .val (.int rc)] [(.ref a1), (.int rc), (.ref a1)])) rfl rfl (hb hby d5d1_19)
  refine OwnEnd.go (fun _ k => st103 _ k) ?_
  show OwnEnd p e below s _ _ _ (T103.setTop (mkF m 22 #[.val (.ref a1), .val (.int p2), .val (.int rc)] [(.ref bo), (.int rc), (.ref a1)]))
  refine OwnEnd.go (fun _ k => XS.aloadN X103.here hx rfl (hb hby d5d1_22) rfl rfl k) ?_
  show OwnEnd p e below s _ _ _ (T103.setTop (mkF m 23 #[.val (.ref a1), .val (.int p2), .val (.int rc)] [(.ref a1), (.ref bo), (.int rc), (.ref a1)]))
  obtain ⟨T104, X104, e104, st104⟩ := getF X103 hx hZ hown (host := "") (Or.inl ww35) Via.refl e103 F_dp (g := (mkF m 23 #[.val (.ref a1), .val (.int p2), .val (.int rc)] [(.ref a1), (.ref bo), (.int rc), (.ref a1)])) rfl rfl (hb hby d5d1_23)
  refine OwnEnd.go (fun _ k => st104 _ k) ?_
  show OwnEnd p e below s _ _ _ (T104.setTop (mkF m 26 #[.val (.ref a1), .val (.int p2), .val (.int rc)] [(.int (1 : Int32)), (.ref bo), (.int rc), (.ref a1)]))
  refine OwnEnd.go (fun _ k => XS.iconst X104.here hx rfl (hb hby d5d1_26) k) ?_
  show OwnEnd p e below s _ _ _ (T104.setTop (mkF m 27 #[.val (.ref a1), .val (.int p2), .val (.int rc)] [(.int (1 : Int32)), (.int (1 : Int32)), (.ref bo), (.int rc), (.ref a1)]))
  refine OwnEnd.go (fun _ k => XS.isub X104.here hx rfl (hb hby d5d1_27) rfl k) ?_
  show OwnEnd p e below s _ _ _ (T104.setTop (mkF m 28 #[.val (.ref a1), .val (.int p2), .val (.int rc)] [(.int (0 : Int32)), (.ref bo), (.int rc), (.ref a1)]))
  obtain ⟨c105, Ar105, q105, S105, G105, H105, J105⟩ := id V_o
  have i105 := inb_of (j := (0 : Int32)) S105 ⟨by decide, by decide⟩
  refine OwnEnd.go (fun _ k => X104.iaload hx (j := (0 : Int32)) (v := (.int o0)) (by rw [e104]; exact Ar105.1) (State.isArrayOf_alike hZ.alike Ar105.2.1) Ar105.2.2 i105 (Has.at H105 i105 rfl) (g := (mkF m 28 #[.val (.ref a1), .val (.int p2), .val (.int rc)] [(.int (0 : Int32)), (.ref bo), (.int rc), (.ref a1)])) rfl rfl (hb hby d5d1_28) _ k) ?_
  show OwnEnd p e below s _ _ _ (T104.setTop (mkF m 29 #[.val (.ref a1), .val (.int p2), .val (.int rc)] [(.int o0), (.int rc), (.ref a1)]))
  refine OwnEnd.go (fun _ k => XS.isub X104.here hx rfl (hb hby d5d1_29) rfl k) ?_
  show OwnEnd p e below s _ _ _ (T104.setTop (mkF m 30 #[.val (.ref a1), .val (.int p2), .val (.int rc)] [(.int (rc - o0)), (.ref a1)]))
  obtain ⟨T106, h106, X106, e106, W106, st106⟩ := putF X104 hx hZ hown (host := "") (Or.inl ww37) Via.refl e104 F_di E1 (Or.inl ww38) ww2 (ty := .int) (by decide) rfl rfl (g := (mkF m 30 #[.val (.ref a1), .val (.int p2), .val (.int rc)] [(.int (rc - o0)), (.ref a1)])) rfl rfl (hb hby d5d1_30)
  have F108 := E1.wr W106
  have F109 := F_open.other W106 (Or.inr (slot_ne (Or.inl ww12) (Or.inl ww38) (by decide) (t := (.array .int)) (t' := .int) (by decide) (by decide)))
  have F110 := F_attr.other W106 (Or.inr (slot_ne (Or.inl ww14) (Or.inl ww38) (by decide) (t := (.array .int)) (t' := .int) (by decide) (by decide)))
  have F111 := F_rc.other W106 (Or.inr (slot_ne (Or.inl ww21) (Or.inl ww38) (by decide) (t := .int) (t' := .int) (by decide) (by decide)))
  have F112 := F_dp.other W106 (Or.inr (slot_ne (Or.inl ww36) (Or.inl ww38) (by decide) (t := .int) (t' := .int) (by decide) (by decide)))
  have F113 := F_di.same W106
  have F114 := F_er.other W106 (Or.inr (slot_ne (Or.inl ww56) (Or.inl ww38) (by decide) (t := .int) (t' := .int) (by decide) (by decide)))
  have F115 := F_es.other W106 (Or.inr (slot_ne (Or.inl ww58) (Or.inl ww38) (by decide) (t := .int) (t' := .int) (by decide) (by decide)))
  have F116 := F_ea.other W106 (Or.inr (slot_ne (Or.inl ww60) (Or.inl ww38) (by decide) (t := .int) (t' := .int) (by decide) (by decide)))
  have F117 := V_o.other W106 (Ne.symm n1)
  have F118 := V_t.other W106 (Ne.symm n2)
  have N106 := Fr.snoc X106 N0 ga
  have K106 := K0.wr W106 (Or.inl (List.mem_of_getElem? (i := 0) rfl))
  have Y106 := Nat.le_trans Z0 (Nat.le_of_eq W106.size.symm)
  refine OwnEnd.go (fun _ k => st106 _ k) ?_
  show OwnEnd p e below s _ _ _ (T106.setTop (mkF m 33 #[.val (.ref a1), .val (.int p2), .val (.int rc)] []))
  refine OwnEnd.go (fun _ k => XS.aloadN X106.here hx rfl (hb hby d5d1_33) rfl rfl k) ?_
  show OwnEnd p e below s _ _ _ (T106.setTop (mkF m 34 #[.val (.ref a1), .val (.int p2), .val (.int rc)] [(.ref a1)]))
  refine OwnEnd.go (fun _ k => XS.dup X106.here hx rfl (hb hby d5d1_34) rfl rfl k) ?_
  show OwnEnd p e below s _ _ _ (T106.setTop (mkF m 35 #[.val (.ref a1), .val (.int p2), .val (.int rc)] [(.ref a1), (.ref a1)]))
  obtain ⟨T119, X119, e119, st119⟩ := getF X106 hx hZ hown (host := "") (Or.inl ww20) Via.refl e106 F111 (g := (mkF m 35 #[.val (.ref a1), .val (.int p2), .val (.int rc)] [(.ref a1), (.ref a1)])) rfl rfl (hb hby d5d1_35)
  refine OwnEnd.go (fun _ k => st119 _ k) ?_
  show OwnEnd p e below s _ _ _ (T119.setTop (mkF m 38 #[.val (.ref a1), .val (.int p2), .val (.int rc)] [(.int rc), (.ref a1)]))
  refine OwnEnd.go (fun _ k => XS.iloadN X119.here hx rfl (hb hby d5d1_38) rfl  k) ?_
  show OwnEnd p e below s _ _ _ (T119.setTop (mkF m 39 #[.val (.ref a1), .val (.int p2), .val (.int rc)] [(.int p2), (.int rc), (.ref a1)]))
  refine OwnEnd.go (fun _ k => XS.iadd X119.here hx rfl (hb hby d5d1_39) rfl k) ?_
  show OwnEnd p e below s _ _ _ (T119.setTop (mkF m 40 #[.val (.ref a1), .val (.int p2), .val (.int rc)] [(.int (rc + p2)), (.ref a1)]))
  obtain ⟨T120, h120, X120, e120, W120, st120⟩ := putF X119 hx hZ hown (host := "") (Or.inl ww20) Via.refl e119 F111 F108 (Or.inl ww21) ww2 (ty := .int) (by decide) rfl rfl (g := (mkF m 40 #[.val (.ref a1), .val (.int p2), .val (.int rc)] [(.int (rc + p2)), (.ref a1)])) rfl rfl (hb hby d5d1_40)
  have F121 := F108.wr W120
  have F122 := F109.other W120 (Or.inr (slot_ne (Or.inl ww12) (Or.inl ww21) (by decide) (t := (.array .int)) (t' := .int) (by decide) (by decide)))
  have F123 := F110.other W120 (Or.inr (slot_ne (Or.inl ww14) (Or.inl ww21) (by decide) (t := (.array .int)) (t' := .int) (by decide) (by decide)))
  have F124 := F111.same W120
  have F125 := F112.other W120 (Or.inr (slot_ne (Or.inl ww36) (Or.inl ww21) (by decide) (t := .int) (t' := .int) (by decide) (by decide)))
  have F126 := F113.other W120 (Or.inr (slot_ne (Or.inl ww38) (Or.inl ww21) (by decide) (t := .int) (t' := .int) (by decide) (by decide)))
  have F127 := F114.other W120 (Or.inr (slot_ne (Or.inl ww56) (Or.inl ww21) (by decide) (t := .int) (t' := .int) (by decide) (by decide)))
  have F128 := F115.other W120 (Or.inr (slot_ne (Or.inl ww58) (Or.inl ww21) (by decide) (t := .int) (t' := .int) (by decide) (by decide)))
  have F129 := F116.other W120 (Or.inr (slot_ne (Or.inl ww60) (Or.inl ww21) (by decide) (t := .int) (t' := .int) (by decide) (by decide)))
  have F130 := F117.other W120 (Ne.symm n1)
  have F131 := F118.other W120 (Ne.symm n2)
  have N120 := Fr.snoc X120 N106 ga
  have K120 := K106.wr W120 (Or.inl (List.mem_of_getElem? (i := 0) rfl))
  have Y120 := Nat.le_trans Y106 (Nat.le_of_eq W120.size.symm)
  refine OwnEnd.go (fun _ k => st120 _ k) ?_
  show OwnEnd p e below s _ _ _ (T120.setTop (mkF m 43 #[.val (.ref a1), .val (.int p2), .val (.int rc)] []))
  refine OwnEnd.go (fun _ k => XS.iloadN X120.here hx rfl (hb hby d5d1_43) rfl  k) ?_
  show OwnEnd p e below s _ _ _ (T120.setTop (mkF m 44 #[.val (.ref a1), .val (.int p2), .val (.int rc)] [(.int rc)]))
  refine ownRetI X120 hx hlk hret (hb hby d5d1_44) (by decide) (by decide) ?_
  show Q5d1 Z a1 p2 bo bt rc o0 o1 t0 t1 er es ea h0 n0 _ T120.heap _
  rw [e120]
  exact ⟨rfl, N120, K120, ⟨ga, go, gt, n1, n2, n3, F121, F122, F123, F124, F125, ⟨_, F126⟩, F127, F128, F129, ⟨_, F130⟩, ⟨_, F131⟩⟩⟩
theorem d4d1open_0 : decode prog_249_method_2_code 0 = .ok (.aload_n 0, 1) := by decide +kernel
theorem d4d1open_1 : decode prog_249_method_2_code 1 = .ok (.iconst 1, 1) := by decide +kernel
theorem d4d1open_2 : decode prog_249_method_2_code 2 = .ok (.invokevirtual 16, 3) := by decide +kernel
theorem d4d1open_5 : decode prog_249_method_2_code 5 = .ok (.istore_n 2, 1) := by decide +kernel
theorem d4d1open_6 : decode prog_249_method_2_code 6 = .ok (.aload_n 1, 1) := by decide +kernel
theorem d4d1open_7 : decode prog_249_method_2_code 7 = .ok (.getstatic 20, 3) := by decide +kernel
theorem d4d1open_10 : decode prog_249_method_2_code 10 = .ok (.if_acmp .ne 25, 3) := by decide +kernel
theorem d4d1open_35 : decode prog_249_method_2_code 35 = .ok (.aload_n 1, 1) := by decide +kernel
theorem d4d1open_36 : decode prog_249_method_2_code 36 = .ok (.getstatic 30, 3) := by decide +kernel
theorem d4d1open_39 : decode prog_249_method_2_code 39 = .ok (.if_acmp .eq 10, 3) := by decide +kernel
theorem d4d1open_42 : decode prog_249_method_2_code 42 = .ok (.aload_n 1, 1) := by decide +kernel
theorem d4d1open_43 : decode prog_249_method_2_code 43 = .ok (.getstatic 33, 3) := by decide +kernel
theorem d4d1open_46 : decode prog_249_method_2_code 46 = .ok (.if_acmp .ne 79, 3) := by decide +kernel
theorem d4d1open_49 : decode prog_249_method_2_code 49 = .ok (.aload_n 0, 1) := by decide +kernel
theorem d4d1open_50 : decode prog_249_method_2_code 50 = .ok (.getfield 26, 3) := by decide +kernel
theorem d4d1open_53 : decode prog_249_method_2_code 53 = .ok (.aload_n 0, 1) := by decide +kernel
theorem d4d1open_54 : decode prog_249_method_2_code 54 = .ok (.getfield 7, 3) := by decide +kernel
theorem d4d1open_57 : decode prog_249_method_2_code 57 = .ok (.arraylength, 1) := by decide +kernel
theorem d4d1open_58 : decode prog_249_method_2_code 58 = .ok (.if_icmp .ne 37, 3) := by decide +kernel
theorem d4d1open_95 : decode prog_249_method_2_code 95 = .ok (.aload_n 0, 1) := by decide +kernel
theorem d4d1open_96 : decode prog_249_method_2_code 96 = .ok (.getfield 7, 3) := by decide +kernel
theorem d4d1open_99 : decode prog_249_method_2_code 99 = .ok (.aload_n 0, 1) := by decide +kernel
theorem d4d1open_100 : decode prog_249_method_2_code 100 = .ok (.getfield 26, 3) := by decide +kernel
theorem d4d1open_103 : decode prog_249_method_2_code 103 = .ok (.iload_n 2, 1) := by decide +kernel
theorem d4d1open_104 : decode prog_249_method_2_code 104 = .ok (.iastore, 1) := by decide +kernel
theorem d4d1open_105 : decode prog_249_method_2_code 105 = .ok (.aload_n 0, 1) := by decide +kernel
theorem d4d1open_106 : decode prog_249_method_2_code 106 = .ok (.getfield 13, 3) := by decide +kernel
theorem d4d1open_109 : decode prog_249_method_2_code 109 = .ok (.aload_n 0, 1) := by decide +kernel
theorem d4d1open_110 : decode prog_249_method_2_code 110 = .ok (.getfield 26, 3) := by decide +kernel
theorem d4d1open_113 : decode prog_249_method_2_code 113 = .ok (.iconst 0, 1) := by decide +kernel
theorem d4d1open_114 : decode prog_249_method_2_code 114 = .ok (.iastore, 1) := by decide +kernel
theorem d4d1open_115 : decode prog_249_method_2_code 115 = .ok (.aload_n 0, 1) := by decide +kernel
theorem d4d1open_116 : decode prog_249_method_2_code 116 = .ok (.dup, 1) := by decide +kernel
theorem d4d1open_117 : decode prog_249_method_2_code 117 = .ok (.getfield 26, 3) := by decide +kernel
theorem d4d1open_120 : decode prog_249_method_2_code 120 = .ok (.iconst 1, 1) := by decide +kernel
theorem d4d1open_121 : decode prog_249_method_2_code 121 = .ok (.iadd, 1) := by decide +kernel
theorem d4d1open_122 : decode prog_249_method_2_code 122 = .ok (.putfield 26, 3) := by decide +kernel
theorem d4d1open_125 : decode prog_249_method_2_code 125 = .ok (.iload_n 2, 1) := by decide +kernel
theorem d4d1open_126 : decode prog_249_method_2_code 126 = .ok (.ireturn, 1) := by decide +kernel
theorem pn_4d1open : plainName "com/example/rewoven_tree/rewoventree/storage/TableShape" = true := by first | (simp [plainName, overriddenIn]; done) | decide +kernel
theorem pd4d1open_0 : parseMethodDescriptor "(I)I" = some ⟨[.int], some .int⟩ := by decide +kernel
theorem ef_4d1open (m : MethodId) (x0 : Addr) (x1 : Addr) : entryFrame m #[(.ref x0), (.ref x1)] 3 = mkF m 0 #[.val (.ref x0), .val (.ref x1), .unset] [] := by first | (simp [entryFrame, mkF, argsToLocals, Value.category]; done) | rfl
def Q4d1open (Z : State) (a1 : Addr) (a2 : Addr) (bo : Addr) (bt : Addr) (rc : Int32) (o0 : Int32) (o1 : Int32) (t0 : Int32) (t1 : Int32) (er : Int32) (es : Int32) (ea : Int32) (xA : Addr) (xE : Addr) (xD : Addr) (h0 : Heap) (n0 : Nat) (v : Option Value) (h : Heap) (L : List Loc) : Prop := v = some (.int rc) ∧ Fr n0 L ∧ Keep h0 h [a1, bo, bt] ∧ ownTS Z h n0 a1 bo bt (rc + (1 : Int32)) (2 : Int32) o0 rc t0 (0 : Int32) er es ea
set_option maxRecDepth 65536 in
set_option maxHeartbeats 40000000 in
theorem rm4d1open (l : Launch) (Z : State) (a0 : Array Value) (hw : ∀ d ∈ tables_1, d.before a0 Z = true) (ws : List Jvm.Cond) (a1 : Addr) (a2 : Addr) (bo : Addr) (bt : Addr) (rc : Int32) (o0 : Int32) (o1 : Int32) (t0 : Int32) (t1 : Int32) (er : Int32) (es : Int32) (ea : Int32) (xA : Addr) (xE : Addr) (xD : Addr) (h0 : Heap) (n0 : Nat) (Z0 : n0 ≤ h0.size) (O0 : Old Z n0 h0) (SA : Sta Z Z.heap "com/example/rewoven_tree/rewoventree/storage/NodeKind" "ATTRIBUTE" "Lcom/example/rewoven_tree/rewoventree/storage/NodeKind;" (.ref xA)) (SE : Sta Z Z.heap "com/example/rewoven_tree/rewoventree/storage/NodeKind" "ELEMENT" "Lcom/example/rewoven_tree/rewoventree/storage/NodeKind;" (.ref xE)) (SD : Sta Z Z.heap "com/example/rewoven_tree/rewoventree/storage/NodeKind" "DOCUMENT" "Lcom/example/rewoven_tree/rewoventree/storage/NodeKind;" (.ref xD)) (nA : a2 ≠ xA) (hk : a2 = xE ∨ a2 = xD) (B0 : ownTS Z h0 n0 a1 bo bt rc (1 : Int32) o0 o1 t0 t1 er es ea) :
    MetFree l (⟨"com/example/rewoven_tree/rewoventree/storage/TableShape", "place", "(Lcom/example/rewoven_tree/rewoventree/storage/NodeKind;)I"⟩ : MethodName) (head1 (Jvm.Cond.code (⟨"com/example/rewoven_tree/rewoventree/storage/TableShape", "place", "(Lcom/example/rewoven_tree/rewoventree/storage/NodeKind;)I"⟩ : MethodName) prog_249_method_2_code 3 (some .int) :: ws) ({ frames := 1, cells := 0, slots := 0, locals := 14 } : Room)) (fun a U => a = #[(.ref a1), (.ref a2)] ∧ Z.Warmed39 U.vm ∧ U.heap = h0) (fun _ _ _ _ _ => True) (fun _ U o U' => ∃ v L, o = .returned v ∧ Q4d1open Z a1 a2 bo bt rc o0 o1 t0 t1 er es ea xA xE xD h0 n0 v U'.heap L ∧ FrameEnd U o U' L ({ frames := 1, cells := 0, slots := 0, locals := 14 } : Room).cells ({ frames := 1, cells := 0, slots := 0, locals := 14 } : Room).slots) := by
  have ww2 := hw _ (List.mem_of_getElem? (i := 2) rfl)
  have ww3 := hw _ (List.mem_of_getElem? (i := 3) rfl)
  have ww11 := hw _ (List.mem_of_getElem? (i := 11) rfl)
  have ww12 := hw _ (List.mem_of_getElem? (i := 12) rfl)
  have ww13 := hw _ (List.mem_of_getElem? (i := 13) rfl)
  have ww14 := hw _ (List.mem_of_getElem? (i := 14) rfl)
  have ww21 := hw _ (List.mem_of_getElem? (i := 21) rfl)
  have ww30 := hw _ (List.mem_of_getElem? (i := 30) rfl)
  have ww31 := hw _ (List.mem_of_getElem? (i := 31) rfl)
  have ww32 := hw _ (List.mem_of_getElem? (i := 32) rfl)
  have ww33 := hw _ (List.mem_of_getElem? (i := 33) rfl)
  have ww34 := hw _ (List.mem_of_getElem? (i := 34) rfl)
  have ww35 := hw _ (List.mem_of_getElem? (i := 35) rfl)
  have ww36 := hw _ (List.mem_of_getElem? (i := 36) rfl)
  have ww38 := hw _ (List.mem_of_getElem? (i := 38) rfl)
  have ww39 := hw _ (List.mem_of_getElem? (i := 39) rfl)
  have ww41 := hw _ (List.mem_of_getElem? (i := 41) rfl)
  have ww43 := hw _ (List.mem_of_getElem? (i := 43) rfl)
  have ww56 := hw _ (List.mem_of_getElem? (i := 56) rfl)
  have ww58 := hw _ (List.mem_of_getElem? (i := 58) rfl)
  have ww60 := hw _ (List.mem_of_getElem? (i := 60) rfl)
  refine MetFree.of_bodySF (plainFor_of_name pn_4d1open) hisR ?_
  intro p e s m args below meth c s₁ Bd hml0 hP hK
  obtain ⟨rfl, hZ, hh⟩ := hP
  have hx := Bd.exec
  have hby := Bd.bytes
  have hlk : meth.locks = false := Bd.notSynchronized
  have hret := Bd.returns
  have hml : c.maxLocals = 3 := hml0
  have hown : s.vm.findClass "com/example/rewoven_tree/rewoventree/storage/TableShape" = some m.cls := findClass_of_methodNamed Bd.named
  have hnm := (name_of_methodNamed Bd.named Bd.method).1
  have X0 : Stand p l e ({ frames := 1, cells := 0, slots := 0, locals := 14 } : Room) s m #[(.ref a1), (.ref a2)] below meth c s₁ [] 0 0 := Stand.of_body Bd
  have e0 : s₁.heap = h0 := by rw [← hh, Bd.state]; rfl
  have N0 := Fr.nil n0
  have K0 := Keep.refl h0 [a1, bo, bt]
  show OwnEnd p e below s (Q4d1open Z a1 a2 bo bt rc o0 o1 t0 t1 er es ea xA xE xD h0 n0) ({ frames := 1, cells := 0, slots := 0, locals := 14 } : Room).cells ({ frames := 1, cells := 0, slots := 0, locals := 14 } : Room).slots _
  refine OwnEnd.go (fun _ k => castTop (ef_4d1open m a1 a2) k) ?_
  have E1 := B0.2.2.2.2.2.2.1
  have ga := B0.1
  have go := B0.2.1
  have gt := B0.2.2.1
  show OwnEnd p e below s _ _ _ (s₁.setTop (mkF m 0 #[.val (.ref a1), .val (.ref a2), .unset] []))
  refine OwnEnd.go (fun _ k => XS.aloadN X0.here hx rfl (hb hby d4d1open_0) rfl rfl k) ?_
  show OwnEnd p e below s _ _ _ (s₁.setTop (mkF m 1 #[.val (.ref a1), .val (.ref a2), .unset] [(.ref a1)]))
  refine OwnEnd.go (fun _ k => XS.iconst X0.here hx rfl (hb hby d4d1open_1) k) ?_
  show OwnEnd p e below s _ _ _ (s₁.setTop (mkF m 2 #[.val (.ref a1), .val (.ref a2), .unset] [(.int (1 : Int32)), (.ref a1)]))
  obtain ⟨_, T101, L101, X101, hQ101, st101⟩ := ownCallV X0 hx hZ hown ww30 ww31 ww33 ww32 ww3 ww34 (by decide) (rm5d1 l Z a0 hw [] a1 (1 : Int32) bo bt rc o0 o1 t0 t1 er es ea h0 n0 Z0  B0) e0 E1 0 (by decide) (by decide) (by decide) (by decide) (g := (mkF m 2 #[.val (.ref a1), .val (.ref a2), .unset] [(.int (1 : Int32)), (.ref a1)])) rfl (by rw [hml]; rfl) (argsL := [(.int (1 : Int32))]) (rest := []) (lenOf pd4d1open_0 rfl) rfl rfl (by show 2 * 0 + _ ≤ _; exact Nat.le_of_eq rfl) (hb hby d4d1open_2)
  obtain ⟨rfl, N101q, K101q, P102⟩ := hQ101
  have N101 := Fr.app N0 N101q
  have F104 := E1.keep K101q
  have K101 := K0.trans K101q (allS (Or.inl (List.mem_of_getElem? (i := 0) rfl)) (allS (Or.inl (List.mem_of_getElem? (i := 1) rfl)) (allS (Or.inl (List.mem_of_getElem? (i := 2) rfl)) all0)))
  have Y101 := Nat.le_trans Z0 K101q.1
  have O101 := O0.keep K101q (allS ga (allS go (allS gt all0)))
  refine OwnEnd.go (fun _ k => st101 _ k) ?_
  obtain ⟨-, -, -, n1, n2, n3, E2, F_open, F_attr, F_rc, F_dp, ⟨di, F_di⟩, F_er, F_es, F_ea, ⟨ko, V_o⟩, ⟨kt, V_t⟩⟩ := P102
  show OwnEnd p e below s _ _ _ (T101.setTop (mkF m 5 #[.val (.ref a1), .val (.ref a2), .unset] [(.int rc)]))
  refine OwnEnd.go (fun _ k => XS.istoreN X101.here hx rfl (hb hby d4d1open_5) rfl  (l' := #[.val (.ref a1), .val (.ref a2), .val (.int rc)]) rfl k) ?_
  show OwnEnd p e below s _ _ _ (T101.setTop (mkF m 6 #[.val (.ref a1), .val (.ref a2), .val (.int rc)] []))
  refine OwnEnd.go (fun _ k => XS.aloadN X101.here hx rfl (hb hby d4d1open_6) rfl rfl k) ?_
  show OwnEnd p e below s _ _ _ (T101.setTop (mkF m 7 #[.val (.ref a1), .val (.ref a2), .val (.int rc)] [(.ref a2)]))
  obtain ⟨T105, X105, e105, st105⟩ := getS2 X101 hx hZ hown (host := "") (Or.inl ww39) Via.refl (rfl : T101.heap = T101.heap) (SA.ext O101.2) (g := (mkF m 7 #[.val (.ref a1), .val (.ref a2), .val (.int rc)] [(.ref a2)])) rfl (hb hby d4d1open_7)
  refine OwnEnd.go (fun _ k => st105 _ k) ?_
  show OwnEnd p e below s _ _ _ (T105.setTop (mkF m 10 #[.val (.ref a1), .val (.ref a2), .val (.int rc)] [(.ref xA), (.ref a2)]))
  refine OwnEnd.go (fun _ k => Jvm.RoadKit.acmp (g := (mkF m 10 #[.val (.ref a1), .val (.ref a2), .val (.int rc)] [(.ref xA), (.ref a2)])) X105 hx rfl rfl rfl (pc0 := 10) (pc' := 35) (same := false) rfl (hb hby d4d1open_10) rfl (decide_eq_false fun q => nA (Value.ref.inj q)) (by decide) (by decide) k) ?_
  show OwnEnd p e below s _ _ _ (T105.setTop (mkF m 35 #[.val (.ref a1), .val (.ref a2), .val (.int rc)] []))
  refine OwnEnd.go (fun _ k => XS.aloadN X105.here hx rfl (hb hby d4d1open_35) rfl rfl k) ?_
  show OwnEnd p e below s _ _ _ (T105.setTop (mkF m 36 #[.val (.ref a1), .val (.ref a2), .val (.int rc)] [(.ref a2)]))
  obtain ⟨T106, X106, e106, st106⟩ := getS2 X105 hx hZ hown (host := "") (Or.inl ww41) Via.refl e105 (SE.ext O101.2) (g := (mkF m 36 #[.val (.ref a1), .val (.ref a2), .val (.int rc)] [(.ref a2)])) rfl (hb hby d4d1open_36)
  refine OwnEnd.go (fun _ k => st106 _ k) ?_
  show OwnEnd p e below s _ _ _ (T106.setTop (mkF m 39 #[.val (.ref a1), .val (.ref a2), .val (.int rc)] [(.ref xE), (.ref a2)]))
  by_cases ha107 : a2 = xE
  · refine OwnEnd.go (fun _ k => Jvm.RoadKit.acmp (g := (mkF m 39 #[.val (.ref a1), .val (.ref a2), .val (.int rc)] [(.ref xE), (.ref a2)])) X106 hx rfl rfl rfl (pc0 := 39) (pc' := 49) (same := true) rfl (hb hby d4d1open_39) rfl (decide_eq_true (congrArg Value.ref ha107)) (by decide) (by decide) k) ?_
    show OwnEnd p e below s _ _ _ (T106.setTop (mkF m 49 #[.val (.ref a1), .val (.ref a2), .val (.int rc)] []))
    refine OwnEnd.go (fun _ k => XS.aloadN X106.here hx rfl (hb hby d4d1open_49) rfl rfl k) ?_
    show OwnEnd p e below s _ _ _ (T106.setTop (mkF m 50 #[.val (.ref a1), .val (.ref a2), .val (.int rc)] [(.ref a1)]))
    obtain ⟨T108, X108, e108, st108⟩ := getF X106 hx hZ hown (host := "") (Or.inl ww35) Via.refl e106 F_dp (g := (mkF m 50 #[.val (.ref a1), .val (.ref a2), .val (.int rc)] [(.ref a1)])) rfl rfl (hb hby d4d1open_50)
    refine OwnEnd.go (fun _ k => st108 _ k) ?_
    show OwnEnd p e below s _ _ _ (T108.setTop (mkF m 53 #[.val (.ref a1), .val (.ref a2), .val (.int rc)] [(.int (1 : Int32))]))
    refine OwnEnd.go (fun _ k => XS.aloadN X108.here hx rfl (hb hby d4d1open_53) rfl rfl k) ?_
    show OwnEnd p e below s _ _ _ (T108.setTop (mkF m 54 #[.val (.ref a1), .val (.ref a2), .val (.int rc)] [(.ref a1), (.int (1 : Int32))]))
    obtain ⟨T109, X109, e109, st109⟩ := getF X108 hx hZ hown (host := "") (Or.inl ww11) Via.refl e108 F_open (g := (mkF m 54 #[.val (.ref a1), .val (.ref a2), .val (.int rc)] [(.ref a1), (.int (1 : Int32))])) rfl rfl (hb hby d4d1open_54)
    refine OwnEnd.go (fun _ k => st109 _ k) ?_
    show OwnEnd p e below s _ _ _ (T109.setTop (mkF m 57 #[.val (.ref a1), .val (.ref a2), .val (.int rc)] [(.ref bo), (.int (1 : Int32))]))
    obtain ⟨c110, Ar110, q110, S110, G110, H110, J110⟩ := id V_o
    refine OwnEnd.go (fun _ k => ownLen X109 hx hZ e109 Ar110 S110 G110 (g := (mkF m 57 #[.val (.ref a1), .val (.ref a2), .val (.int rc)] [(.ref bo), (.int (1 : Int32))])) rfl rfl (hb hby d4d1open_57) _ k) ?_
    show OwnEnd p e below s _ _ _ (T109.setTop (mkF m 58 #[.val (.ref a1), .val (.ref a2), .val (.int rc)] [(.int (8 : Int32)), (.int (1 : Int32))]))
    refine OwnEnd.go (fun _ k => XS.icmpYes X109.here hx rfl (pc0 := 58) (pc' := 95) rfl (hb hby d4d1open_58) rfl (feq (by decide : ¬ (1 : Int32) = (8 : Int32))).2 (by decide) (by decide) k) ?_
    show OwnEnd p e below s _ _ _ (T109.setTop (mkF m 95 #[.val (.ref a1), .val (.ref a2), .val (.int rc)] []))
    refine OwnEnd.go (fun _ k => XS.aloadN X109.here hx rfl (hb hby d4d1open_95) rfl rfl k) ?_
    show OwnEnd p e below s _ _ _ (T109.setTop (mkF m 96 #[.val (.ref a1), .val (.ref a2), .val (.int rc)] [(.ref a1)]))
    obtain ⟨T111, X111, e111, st111⟩ := getF X109 hx hZ hown (host := "") (Or.inl ww11) Via.refl e109 F_open (g := (mkF m 96 #[.val (.ref a1), .val (.ref a2), .val (.int rc)] [(.ref a1)])) rfl rfl (hb hby d4d1open_96)
    refine OwnEnd.go (fun _ k => st111 _ k) ?_
    show OwnEnd p e below s _ _ _ (T111.setTop (mkF m 99 #[.val (.ref a1), .val (.ref a2), .val (.int rc)] [(.ref bo)]))
    refine OwnEnd.go (fun _ k => XS.aloadN X111.here hx rfl (hb hby d4d1open_99) rfl rfl k) ?_
    show OwnEnd p e below s _ _ _ (T111.setTop (mkF m 100 #[.val (.ref a1), .val (.ref a2), .val (.int rc)] [(.ref a1), (.ref bo)]))
    obtain ⟨T112, X112, e112, st112⟩ := getF X111 hx hZ hown (host := "") (Or.inl ww35) Via.refl e111 F_dp (g := (mkF m 100 #[.val (.ref a1), .val (.ref a2), .val (.int rc)] [(.ref a1), (.ref bo)])) rfl rfl (hb hby d4d1open_100)
    refine OwnEnd.go (fun _ k => st112 _ k) ?_
    show OwnEnd p e below s _ _ _ (T112.setTop (mkF m 103 #[.val (.ref a1), .val (.ref a2), .val (.int rc)] [(.int (1 : Int32)), (.ref bo)]))
    refine OwnEnd.go (fun _ k => XS.iloadN X112.here hx rfl (hb hby d4d1open_103) rfl  k) ?_
    show OwnEnd p e below s _ _ _ (T112.setTop (mkF m 104 #[.val (.ref a1), .val (.ref a2), .val (.int rc)] [(.int rc), (.int (1 : Int32)), (.ref bo)]))
    obtain ⟨c113, Ar113, q113, S113, G113, H113, J113⟩ := id V_o
    obtain ⟨T113, h113, X113, e113, W113, st113⟩ := stI X112 hx hZ e112 Ar113 (j := (1 : Int32)) (inb_of S113 ⟨by decide, by decide⟩) (g := (mkF m 104 #[.val (.ref a1), .val (.ref a2), .val (.int rc)] [(.int rc), (.int (1 : Int32)), (.ref bo)])) rfl rfl (hb hby d4d1open_104)
    have V113 : Arv Z h113 bo ko .int (8 : Int32) [(.int o0), (.int rc), (.int (0 : Int32)), (.int (0 : Int32)), (.int (0 : Int32)), (.int (0 : Int32)), (.int (0 : Int32)), (.int (0 : Int32))] (.int (0 : Int32)) := Arv.set Ar113 q113 S113 G113 H113 J113 rfl W113 1 rfl (Nat.le_of_ble_eq_true rfl)
    have F114 := E2.wr W113
    have F115 := F_open.other W113 (Or.inl n1)
    have F116 := F_attr.other W113 (Or.inl n1)
    have F117 := F_rc.other W113 (Or.inl n1)
    have F118 := F_dp.other W113 (Or.inl n1)
    have F119 := F_di.other W113 (Or.inl n1)
    have F120 := F_er.other W113 (Or.inl n1)
    have F121 := F_es.other W113 (Or.inl n1)
    have F122 := F_ea.other W113 (Or.inl n1)
    have F124 := V_t.other W113 (Ne.symm n3)
    have N113 := Fr.snoc X113 N101 go
    have K113 := K101.wr W113 (Or.inl (List.mem_of_getElem? (i := 1) rfl))
    have Y113 := Nat.le_trans Y101 (Nat.le_of_eq W113.size.symm)
    have O113 := O101.wr W113 go
    refine OwnEnd.go (fun _ k => st113 _ k) ?_
    show OwnEnd p e below s _ _ _ (T113.setTop (mkF m 105 #[.val (.ref a1), .val (.ref a2), .val (.int rc)] []))
    refine OwnEnd.go (fun _ k => XS.aloadN X113.here hx rfl (hb hby d4d1open_105) rfl rfl k) ?_
    show OwnEnd p e below s _ _ _ (T113.setTop (mkF m 106 #[.val (.ref a1), .val (.ref a2), .val (.int rc)] [(.ref a1)]))
    obtain ⟨T125, X125, e125, st125⟩ := getF X113 hx hZ hown (host := "") (Or.inl ww13) Via.refl e113 F116 (g := (mkF m 106 #[.val (.ref a1), .val (.ref a2), .val (.int rc)] [(.ref a1)])) rfl rfl (hb hby d4d1open_106)
    refine OwnEnd.go (fun _ k => st125 _ k) ?_
    show OwnEnd p e below s _ _ _ (T125.setTop (mkF m 109 #[.val (.ref a1), .val (.ref a2), .val (.int rc)] [(.ref bt)]))
    refine OwnEnd.go (fun _ k => XS.aloadN X125.here hx rfl (hb hby d4d1open_109) rfl rfl k) ?_
    show OwnEnd p e below s _ _ _ (T125.setTop (mkF m 110 #[.val (.ref a1), .val (.ref a2), .val (.int rc)] [(.ref a1), (.ref bt)]))
    obtain ⟨T126, X126, e126, st126⟩ := getF X125 hx hZ hown (host := "") (Or.inl ww35) Via.refl e125 F118 (g := (mkF m 110 #[.val (.ref a1), .val (.ref a2), .val (.int rc)] [(.ref a1), (.ref bt)])) rfl rfl (hb hby d4d1open_110)
    refine OwnEnd.go (fun _ k => st126 _ k) ?_
    show OwnEnd p e below s _ _ _ (T126.setTop (mkF m 113 #[.val (.ref a1), .val (.ref a2), .val (.int rc)] [(.int (1 : Int32)), (.ref bt)]))
    refine OwnEnd.go (fun _ k => XS.iconst X126.here hx rfl (hb hby d4d1open_113) k) ?_
    show OwnEnd p e below s _ _ _ (T126.setTop (mkF m 114 #[.val (.ref a1), .val (.ref a2), .val (.int rc)] [(.int (0 : Int32)), (.int (1 : Int32)), (.ref bt)]))
    obtain ⟨c127, Ar127, q127, S127, G127, H127, J127⟩ := id F124
    obtain ⟨T127, h127, X127, e127, W127, st127⟩ := stI X126 hx hZ e126 Ar127 (j := (1 : Int32)) (inb_of S127 ⟨by decide, by decide⟩) (g := (mkF m 114 #[.val (.ref a1), .val (.ref a2), .val (.int rc)] [(.int (0 : Int32)), (.int (1 : Int32)), (.ref bt)])) rfl rfl (hb hby d4d1open_114)
    have V127 : Arv Z h127 bt kt .int (8 : Int32) [(.int t0), (.int (0 : Int32)), (.int (0 : Int32)), (.int (0 : Int32)), (.int (0 : Int32)), (.int (0 : Int32)), (.int (0 : Int32)), (.int (0 : Int32))] (.int (0 : Int32)) := Arv.set Ar127 q127 S127 G127 H127 J127 rfl W127 1 rfl (Nat.le_of_ble_eq_true rfl)
    have F128 := F114.wr W127
    have F129 := F115.other W127 (Or.inl n2)
    have F130 := F116.other W127 (Or.inl n2)
    have F131 := F117.other W127 (Or.inl n2)
    have F132 := F118.other W127 (Or.inl n2)
    have F133 := F119.other W127 (Or.inl n2)
    have F134 := F120.other W127 (Or.inl n2)
    have F135 := F121.other W127 (Or.inl n2)
    have F136 := F122.other W127 (Or.inl n2)
    have F138 := V113.other W127 n3
    have N127 := Fr.snoc X127 N113 gt
    have K127 := K113.wr W127 (Or.inl (List.mem_of_getElem? (i := 2) rfl))
    have Y127 := Nat.le_trans Y113 (Nat.le_of_eq W127.size.symm)
    have O127 := O113.wr W127 gt
    refine OwnEnd.go (fun _ k => st127 _ k) ?_
    show OwnEnd p e below s _ _ _ (T127.setTop (mkF m 115 #[.val (.ref a1), .val (.ref a2), .val (.int rc)] []))
    refine OwnEnd.go (fun _ k => XS.aloadN X127.here hx rfl (hb hby d4d1open_115) rfl rfl k) ?_
    show OwnEnd p e below s _ _ _ (T127.setTop (mkF m 116 #[.val (.ref a1), .val (.ref a2), .val (.int rc)] [(.ref a1)]))
    refine OwnEnd.go (fun _ k => XS.dup X127.here hx rfl (hb hby d4d1open_116) rfl rfl k) ?_
    show OwnEnd p e below s _ _ _ (T127.setTop (mkF m 117 #[.val (.ref a1), .val (.ref a2), .val (.int rc)] [(.ref a1), (.ref a1)]))
    obtain ⟨T139, X139, e139, st139⟩ := getF X127 hx hZ hown (host := "") (Or.inl ww35) Via.refl e127 F132 (g := (mkF m 117 #[.val (.ref a1), .val (.ref a2), .val (.int rc)] [(.ref a1), (.ref a1)])) rfl rfl (hb hby d4d1open_117)
    refine OwnEnd.go (fun _ k => st139 _ k) ?_
    show OwnEnd p e below s _ _ _ (T139.setTop (mkF m 120 #[.val (.ref a1), .val (.ref a2), .val (.int rc)] [(.int (1 : Int32)), (.ref a1)]))
    refine OwnEnd.go (fun _ k => XS.iconst X139.here hx rfl (hb hby d4d1open_120) k) ?_
    show OwnEnd p e below s _ _ _ (T139.setTop (mkF m 121 #[.val (.ref a1), .val (.ref a2), .val (.int rc)] [(.int (1 : Int32)), (.int (1 : Int32)), (.ref a1)]))
    refine OwnEnd.go (fun _ k => XS.iadd X139.here hx rfl (hb hby d4d1open_121) rfl k) ?_
    show OwnEnd p e below s _ _ _ (T139.setTop (mkF m 122 #[.val (.ref a1), .val (.ref a2), .val (.int rc)] [(.int (2 : Int32)), (.ref a1)]))
    obtain ⟨T140, h140, X140, e140, W140, st140⟩ := putF X139 hx hZ hown (host := "") (Or.inl ww35) Via.refl e139 F132 F128 (Or.inl ww36) ww2 (ty := .int) (by decide) rfl rfl (g := (mkF m 122 #[.val (.ref a1), .val (.ref a2), .val (.int rc)] [(.int (2 : Int32)), (.ref a1)])) rfl rfl (hb hby d4d1open_122)
    have F141 := F128.wr W140
    have F142 := F129.other W140 (Or.inr (slot_ne (Or.inl ww12) (Or.inl ww36) (by decide) (t := (.array .int)) (t' := .int) (by decide) (by decide)))
    have F143 := F130.other W140 (Or.inr (slot_ne (Or.inl ww14) (Or.inl ww36) (by decide) (t := (.array .int)) (t' := .int) (by decide) (by decide)))
    have F144 := F131.other W140 (Or.inr (slot_ne (Or.inl ww21) (Or.inl ww36) (by decide) (t := .int) (t' := .int) (by decide) (by decide)))
    have F145 := F132.same W140
    have F146 := F133.other W140 (Or.inr (slot_ne (Or.inl ww38) (Or.inl ww36) (by decide) (t := .int) (t' := .int) (by decide) (by decide)))
    have F147 := F134.other W140 (Or.inr (slot_ne (Or.inl ww56) (Or.inl ww36) (by decide) (t := .int) (t' := .int) (by decide) (by decide)))
    have F148 := F135.other W140 (Or.inr (slot_ne (Or.inl ww58) (Or.inl ww36) (by decide) (t := .int) (t' := .int) (by decide) (by decide)))
    have F149 := F136.other W140 (Or.inr (slot_ne (Or.inl ww60) (Or.inl ww36) (by decide) (t := .int) (t' := .int) (by decide) (by decide)))
    have F150 := F138.other W140 (Ne.symm n1)
    have F151 := V127.other W140 (Ne.symm n2)
    have N140 := Fr.snoc X140 N127 ga
    have K140 := K127.wr W140 (Or.inl (List.mem_of_getElem? (i := 0) rfl))
    have Y140 := Nat.le_trans Y127 (Nat.le_of_eq W140.size.symm)
    have O140 := O127.wr W140 ga
    refine OwnEnd.go (fun _ k => st140 _ k) ?_
    show OwnEnd p e below s _ _ _ (T140.setTop (mkF m 125 #[.val (.ref a1), .val (.ref a2), .val (.int rc)] []))
    refine OwnEnd.go (fun _ k => XS.iloadN X140.here hx rfl (hb hby d4d1open_125) rfl  k) ?_
    show OwnEnd p e below s _ _ _ (T140.setTop (mkF m 126 #[.val (.ref a1), .val (.ref a2), .val (.int rc)] [(.int rc)]))
    refine ownRetI X140 hx hlk hret (hb hby d4d1open_126) (by decide) (by decide) ?_
    show Q4d1open Z a1 a2 bo bt rc o0 o1 t0 t1 er es ea xA xE xD h0 n0 _ T140.heap _
    rw [e140]
    exact ⟨rfl, N140, K140, ⟨ga, go, gt, n1, n2, n3, F141, F142, F143, F144, F145, ⟨_, F146⟩, F147, F148, F149, ⟨_, F150⟩, ⟨_, F151⟩⟩⟩
  · refine OwnEnd.go (fun _ k => Jvm.RoadKit.acmp (g := (mkF m 39 #[.val (.ref a1), .val (.ref a2), .val (.int rc)] [(.ref xE), (.ref a2)])) X106 hx rfl rfl rfl (pc0 := 39) (pc' := 42) (same := false) rfl (hb hby d4d1open_39) rfl (decide_eq_false fun q => ha107 (Value.ref.inj q)) (by decide) (by decide) k) ?_
    show OwnEnd p e below s _ _ _ (T106.setTop (mkF m 42 #[.val (.ref a1), .val (.ref a2), .val (.int rc)] []))
    refine OwnEnd.go (fun _ k => XS.aloadN X106.here hx rfl (hb hby d4d1open_42) rfl rfl k) ?_
    show OwnEnd p e below s _ _ _ (T106.setTop (mkF m 43 #[.val (.ref a1), .val (.ref a2), .val (.int rc)] [(.ref a2)]))
    obtain ⟨T152, X152, e152, st152⟩ := getS2 X106 hx hZ hown (host := "") (Or.inl ww43) Via.refl e106 (SD.ext O101.2) (g := (mkF m 43 #[.val (.ref a1), .val (.ref a2), .val (.int rc)] [(.ref a2)])) rfl (hb hby d4d1open_43)
    refine OwnEnd.go (fun _ k => st152 _ k) ?_
    show OwnEnd p e below s _ _ _ (T152.setTop (mkF m 46 #[.val (.ref a1), .val (.ref a2), .val (.int rc)] [(.ref xD), (.ref a2)]))
    refine OwnEnd.go (fun _ k => Jvm.RoadKit.acmp (g := (mkF m 46 #[.val (.ref a1), .val (.ref a2), .val (.int rc)] [(.ref xD), (.ref a2)])) X152 hx rfl rfl rfl (pc0 := 46) (pc' := 49) (same := true) rfl (hb hby d4d1open_46) rfl (decide_eq_true (congrArg Value.ref (hk.resolve_left ha107))) (by decide) (by decide) k) ?_
    show OwnEnd p e below s _ _ _ (T152.setTop (mkF m 49 #[.val (.ref a1), .val (.ref a2), .val (.int rc)] []))
    refine OwnEnd.go (fun _ k => XS.aloadN X152.here hx rfl (hb hby d4d1open_49) rfl rfl k) ?_
    show OwnEnd p e below s _ _ _ (T152.setTop (mkF m 50 #[.val (.ref a1), .val (.ref a2), .val (.int rc)] [(.ref a1)]))
    obtain ⟨T153, X153, e153, st153⟩ := getF X152 hx hZ hown (host := "") (Or.inl ww35) Via.refl e152 F_dp (g := (mkF m 50 #[.val (.ref a1), .val (.ref a2), .val (.int rc)] [(.ref a1)])) rfl rfl (hb hby d4d1open_50)
    refine OwnEnd.go (fun _ k => st153 _ k) ?_
    show OwnEnd p e below s _ _ _ (T153.setTop (mkF m 53 #[.val (.ref a1), .val (.ref a2), .val (.int rc)] [(.int (1 : Int32))]))
    refine OwnEnd.go (fun _ k => XS.aloadN X153.here hx rfl (hb hby d4d1open_53) rfl rfl k) ?_
    show OwnEnd p e below s _ _ _ (T153.setTop (mkF m 54 #[.val (.ref a1), .val (.ref a2), .val (.int rc)] [(.ref a1), (.int (1 : Int32))]))
    obtain ⟨T154, X154, e154, st154⟩ := getF X153 hx hZ hown (host := "") (Or.inl ww11) Via.refl e153 F_open (g := (mkF m 54 #[.val (.ref a1), .val (.ref a2), .val (.int rc)] [(.ref a1), (.int (1 : Int32))])) rfl rfl (hb hby d4d1open_54)
    refine OwnEnd.go (fun _ k => st154 _ k) ?_
    show OwnEnd p e below s _ _ _ (T154.setTop (mkF m 57 #[.val (.ref a1), .val (.ref a2), .val (.int rc)] [(.ref bo), (.int (1 : Int32))]))
    obtain ⟨c155, Ar155, q155, S155, G155, H155, J155⟩ := id V_o
    refine OwnEnd.go (fun _ k => ownLen X154 hx hZ e154 Ar155 S155 G155 (g := (mkF m 57 #[.val (.ref a1), .val (.ref a2), .val (.int rc)] [(.ref bo), (.int (1 : Int32))])) rfl rfl (hb hby d4d1open_57) _ k) ?_
    show OwnEnd p e below s _ _ _ (T154.setTop (mkF m 58 #[.val (.ref a1), .val (.ref a2), .val (.int rc)] [(.int (8 : Int32)), (.int (1 : Int32))]))
    refine OwnEnd.go (fun _ k => XS.icmpYes X154.here hx rfl (pc0 := 58) (pc' := 95) rfl (hb hby d4d1open_58) rfl (feq (by decide : ¬ (1 : Int32) = (8 : Int32))).2 (by decide) (by decide) k) ?_
    show OwnEnd p e below s _ _ _ (T154.setTop (mkF m 95 #[.val (.ref a1), .val (.ref a2), .val (.int rc)] []))
    refine OwnEnd.go (fun _ k => XS.aloadN X154.here hx rfl (hb hby d4d1open_95) rfl rfl k) ?_
    show OwnEnd p e below s _ _ _ (T154.setTop (mkF m 96 #[.val (.ref a1), .val (.ref a2), .val (.int rc)] [(.ref a1)]))
    obtain ⟨T156, X156, e156, st156⟩ := getF X154 hx hZ hown (host := "") (Or.inl ww11) Via.refl e154 F_open (g := (mkF m 96 #[.val (.ref a1), .val (.ref a2), .val (.int rc)] [(.ref a1)])) rfl rfl (hb hby d4d1open_96)
    refine OwnEnd.go (fun _ k => st156 _ k) ?_
    show OwnEnd p e below s _ _ _ (T156.setTop (mkF m 99 #[.val (.ref a1), .val (.ref a2), .val (.int rc)] [(.ref bo)]))
    refine OwnEnd.go (fun _ k => XS.aloadN X156.here hx rfl (hb hby d4d1open_99) rfl rfl k) ?_
    show OwnEnd p e below s _ _ _ (T156.setTop (mkF m 100 #[.val (.ref a1), .val (.ref a2), .val (.int rc)] [(.ref a1), (.ref bo)]))
    obtain ⟨T157, X157, e157, st157⟩ := getF X156 hx hZ hown (host := "") (Or.inl ww35) Via.refl e156 F_dp (g := (mkF m 100 #[.val (.ref a1), .val (.ref a2), .val (.int rc)] [(.ref a1), (.ref bo)])) rfl rfl (hb hby d4d1open_100)
    refine OwnEnd.go (fun _ k => st157 _ k) ?_
    show OwnEnd p e below s _ _ _ (T157.setTop (mkF m 103 #[.val (.ref a1), .val (.ref a2), .val (.int rc)] [(.int (1 : Int32)), (.ref bo)]))
    refine OwnEnd.go (fun _ k => XS.iloadN X157.here hx rfl (hb hby d4d1open_103) rfl  k) ?_
    show OwnEnd p e below s _ _ _ (T157.setTop (mkF m 104 #[.val (.ref a1), .val (.ref a2), .val (.int rc)] [(.int rc), (.int (1 : Int32)), (.ref bo)]))
    obtain ⟨c158, Ar158, q158, S158, G158, H158, J158⟩ := id V_o
    obtain ⟨T158, h158, X158, e158, W158, st158⟩ := stI X157 hx hZ e157 Ar158 (j := (1 : Int32)) (inb_of S158 ⟨by decide, by decide⟩) (g := (mkF m 104 #[.val (.ref a1), .val (.ref a2), .val (.int rc)] [(.int rc), (.int (1 : Int32)), (.ref bo)])) rfl rfl (hb hby d4d1open_104)
    have V158 : Arv Z h158 bo ko .int (8 : Int32) [(.int o0), (.int rc), (.int (0 : Int32)), (.int (0 : Int32)), (.int (0 : Int32)), (.int (0 : Int32)), (.int (0 : Int32)), (.int (0 : Int32))] (.int (0 : Int32)) := Arv.set Ar158 q158 S158 G158 H158 J158 rfl W158 1 rfl (Nat.le_of_ble_eq_true rfl)
    have F159 := E2.wr W158
    have F160 := F_open.other W158 (Or.inl n1)
    have F161 := F_attr.other W158 (Or.inl n1)
    have F162 := F_rc.other W158 (Or.inl n1)
    have F163 := F_dp.other W158 (Or.inl n1)
    have F164 := F_di.other W158 (Or.inl n1)
    have F165 := F_er.other W158 (Or.inl n1)
    have F166 := F_es.other W158 (Or.inl n1)
    have F167 := F_ea.other W158 (Or.inl n1)
    have F169 := V_t.other W158 (Ne.symm n3)
    have N158 := Fr.snoc X158 N101 go
    have K158 := K101.wr W158 (Or.inl (List.mem_of_getElem? (i := 1) rfl))
    have Y158 := Nat.le_trans Y101 (Nat.le_of_eq W158.size.symm)
    have O158 := O101.wr W158 go
    refine OwnEnd.go (fun _ k => st158 _ k) ?_
    show OwnEnd p e below s _ _ _ (T158.setTop (mkF m 105 #[.val (.ref a1), .val (.ref a2), .val (.int rc)] []))
    refine OwnEnd.go (fun _ k => XS.aloadN X158.here hx rfl (hb hby d4d1open_105) rfl rfl k) ?_
    show OwnEnd p e below s _ _ _ (T158.setTop (mkF m 106 #[.val (.ref a1), .val (.ref a2), .val (.int rc)] [(.ref a1)]))
    obtain ⟨T170, X170, e170, st170⟩ := getF X158 hx hZ hown (host := "") (Or.inl ww13) Via.refl e158 F161 (g := (mkF m 106 #[.val (.ref a1), .val (.ref a2), .val (.int rc)] [(.ref a1)])) rfl rfl (hb hby d4d1open_106)
    refine OwnEnd.go (fun _ k => st170 _ k) ?_
    show OwnEnd p e below s _ _ _ (T170.setTop (mkF m 109 #[.val (.ref a1), .val (.ref a2), .val (.int rc)] [(.ref bt)]))
    refine OwnEnd.go (fun _ k => XS.aloadN X170.here hx rfl (hb hby d4d1open_109) rfl rfl k) ?_
    show OwnEnd p e below s _ _ _ (T170.setTop (mkF m 110 #[.val (.ref a1), .val (.ref a2), .val (.int rc)] [(.ref a1), (.ref bt)]))
    obtain ⟨T171, X171, e171, st171⟩ := getF X170 hx hZ hown (host := "") (Or.inl ww35) Via.refl e170 F163 (g := (mkF m 110 #[.val (.ref a1), .val (.ref a2), .val (.int rc)] [(.ref a1), (.ref bt)])) rfl rfl (hb hby d4d1open_110)
    refine OwnEnd.go (fun _ k => st171 _ k) ?_
    show OwnEnd p e below s _ _ _ (T171.setTop (mkF m 113 #[.val (.ref a1), .val (.ref a2), .val (.int rc)] [(.int (1 : Int32)), (.ref bt)]))
    refine OwnEnd.go (fun _ k => XS.iconst X171.here hx rfl (hb hby d4d1open_113) k) ?_
    show OwnEnd p e below s _ _ _ (T171.setTop (mkF m 114 #[.val (.ref a1), .val (.ref a2), .val (.int rc)] [(.int (0 : Int32)), (.int (1 : Int32)), (.ref bt)]))
    obtain ⟨c172, Ar172, q172, S172, G172, H172, J172⟩ := id F169
    obtain ⟨T172, h172, X172, e172, W172, st172⟩ := stI X171 hx hZ e171 Ar172 (j := (1 : Int32)) (inb_of S172 ⟨by decide, by decide⟩) (g := (mkF m 114 #[.val (.ref a1), .val (.ref a2), .val (.int rc)] [(.int (0 : Int32)), (.int (1 : Int32)), (.ref bt)])) rfl rfl (hb hby d4d1open_114)
    have V172 : Arv Z h172 bt kt .int (8 : Int32) [(.int t0), (.int (0 : Int32)), (.int (0 : Int32)), (.int (0 : Int32)), (.int (0 : Int32)), (.int (0 : Int32)), (.int (0 : Int32)), (.int (0 : Int32))] (.int (0 : Int32)) := Arv.set Ar172 q172 S172 G172 H172 J172 rfl W172 1 rfl (Nat.le_of_ble_eq_true rfl)
    have F173 := F159.wr W172
    have F174 := F160.other W172 (Or.inl n2)
    have F175 := F161.other W172 (Or.inl n2)
    have F176 := F162.other W172 (Or.inl n2)
    have F177 := F163.other W172 (Or.inl n2)
    have F178 := F164.other W172 (Or.inl n2)
    have F179 := F165.other W172 (Or.inl n2)
    have F180 := F166.other W172 (Or.inl n2)
    have F181 := F167.other W172 (Or.inl n2)
    have F183 := V158.other W172 n3
    have N172 := Fr.snoc X172 N158 gt
    have K172 := K158.wr W172 (Or.inl (List.mem_of_getElem? (i := 2) rfl))
    have Y172 := Nat.le_trans Y158 (Nat.le_of_eq W172.size.symm)
    have O172 := O158.wr W172 gt
    refine OwnEnd.go (fun _ k => st172 _ k) ?_
    show OwnEnd p e below s _ _ _ (T172.setTop (mkF m 115 #[.val (.ref a1), .val (.ref a2), .val (.int rc)] []))
    refine OwnEnd.go (fun _ k => XS.aloadN X172.here hx rfl (hb hby d4d1open_115) rfl rfl k) ?_
    show OwnEnd p e below s _ _ _ (T172.setTop (mkF m 116 #[.val (.ref a1), .val (.ref a2), .val (.int rc)] [(.ref a1)]))
    refine OwnEnd.go (fun _ k => XS.dup X172.here hx rfl (hb hby d4d1open_116) rfl rfl k) ?_
    show OwnEnd p e below s _ _ _ (T172.setTop (mkF m 117 #[.val (.ref a1), .val (.ref a2), .val (.int rc)] [(.ref a1), (.ref a1)]))
    obtain ⟨T184, X184, e184, st184⟩ := getF X172 hx hZ hown (host := "") (Or.inl ww35) Via.refl e172 F177 (g := (mkF m 117 #[.val (.ref a1), .val (.ref a2), .val (.int rc)] [(.ref a1), (.ref a1)])) rfl rfl (hb hby d4d1open_117)
    refine OwnEnd.go (fun _ k => st184 _ k) ?_
    show OwnEnd p e below s _ _ _ (T184.setTop (mkF m 120 #[.val (.ref a1), .val (.ref a2), .val (.int rc)] [(.int (1 : Int32)), (.ref a1)]))
    refine OwnEnd.go (fun _ k => XS.iconst X184.here hx rfl (hb hby d4d1open_120) k) ?_
    show OwnEnd p e below s _ _ _ (T184.setTop (mkF m 121 #[.val (.ref a1), .val (.ref a2), .val (.int rc)] [(.int (1 : Int32)), (.int (1 : Int32)), (.ref a1)]))
    refine OwnEnd.go (fun _ k => XS.iadd X184.here hx rfl (hb hby d4d1open_121) rfl k) ?_
    show OwnEnd p e below s _ _ _ (T184.setTop (mkF m 122 #[.val (.ref a1), .val (.ref a2), .val (.int rc)] [(.int (2 : Int32)), (.ref a1)]))
    obtain ⟨T185, h185, X185, e185, W185, st185⟩ := putF X184 hx hZ hown (host := "") (Or.inl ww35) Via.refl e184 F177 F173 (Or.inl ww36) ww2 (ty := .int) (by decide) rfl rfl (g := (mkF m 122 #[.val (.ref a1), .val (.ref a2), .val (.int rc)] [(.int (2 : Int32)), (.ref a1)])) rfl rfl (hb hby d4d1open_122)
    have F186 := F173.wr W185
    have F187 := F174.other W185 (Or.inr (slot_ne (Or.inl ww12) (Or.inl ww36) (by decide) (t := (.array .int)) (t' := .int) (by decide) (by decide)))
    have F188 := F175.other W185 (Or.inr (slot_ne (Or.inl ww14) (Or.inl ww36) (by decide) (t := (.array .int)) (t' := .int) (by decide) (by decide)))
    have F189 := F176.other W185 (Or.inr (slot_ne (Or.inl ww21) (Or.inl ww36) (by decide) (t := .int) (t' := .int) (by decide) (by decide)))
    have F190 := F177.same W185
    have F191 := F178.other W185 (Or.inr (slot_ne (Or.inl ww38) (Or.inl ww36) (by decide) (t := .int) (t' := .int) (by decide) (by decide)))
    have F192 := F179.other W185 (Or.inr (slot_ne (Or.inl ww56) (Or.inl ww36) (by decide) (t := .int) (t' := .int) (by decide) (by decide)))
    have F193 := F180.other W185 (Or.inr (slot_ne (Or.inl ww58) (Or.inl ww36) (by decide) (t := .int) (t' := .int) (by decide) (by decide)))
    have F194 := F181.other W185 (Or.inr (slot_ne (Or.inl ww60) (Or.inl ww36) (by decide) (t := .int) (t' := .int) (by decide) (by decide)))
    have F195 := F183.other W185 (Ne.symm n1)
    have F196 := V172.other W185 (Ne.symm n2)
    have N185 := Fr.snoc X185 N172 ga
    have K185 := K172.wr W185 (Or.inl (List.mem_of_getElem? (i := 0) rfl))
    have Y185 := Nat.le_trans Y172 (Nat.le_of_eq W185.size.symm)
    have O185 := O172.wr W185 ga
    refine OwnEnd.go (fun _ k => st185 _ k) ?_
    show OwnEnd p e below s _ _ _ (T185.setTop (mkF m 125 #[.val (.ref a1), .val (.ref a2), .val (.int rc)] []))
    refine OwnEnd.go (fun _ k => XS.iloadN X185.here hx rfl (hb hby d4d1open_125) rfl  k) ?_
    show OwnEnd p e below s _ _ _ (T185.setTop (mkF m 126 #[.val (.ref a1), .val (.ref a2), .val (.int rc)] [(.int rc)]))
    refine ownRetI X185 hx hlk hret (hb hby d4d1open_126) (by decide) (by decide) ?_
    show Q4d1open Z a1 a2 bo bt rc o0 o1 t0 t1 er es ea xA xE xD h0 n0 _ T185.heap _
    rw [e185]
    exact ⟨rfl, N185, K185, ⟨ga, go, gt, n1, n2, n3, F186, F187, F188, F189, F190, ⟨_, F191⟩, F192, F193, F194, ⟨_, F195⟩, ⟨_, F196⟩⟩⟩
theorem d6d2_0 : decode prog_249_method_5_code 0 = .ok (.aload_n 0, 1) := by decide +kernel
theorem d6d2_1 : decode prog_249_method_5_code 1 = .ok (.getfield 13, 3) := by decide +kernel
theorem d6d2_4 : decode prog_249_method_5_code 4 = .ok (.aload_n 0, 1) := by decide +kernel
theorem d6d2_5 : decode prog_249_method_5_code 5 = .ok (.getfield 26, 3) := by decide +kernel
theorem d6d2_8 : decode prog_249_method_5_code 8 = .ok (.iconst 1, 1) := by decide +kernel
theorem d6d2_9 : decode prog_249_method_5_code 9 = .ok (.isub, 1) := by decide +kernel
theorem d6d2_10 : decode prog_249_method_5_code 10 = .ok (.dup2, 1) := by decide +kernel
theorem d6d2_11 : decode prog_249_method_5_code 11 = .ok (.iaload, 1) := by decide +kernel
theorem d6d2_12 : decode prog_249_method_5_code 12 = .ok (.iload_n 1, 1) := by decide +kernel
theorem d6d2_13 : decode prog_249_method_5_code 13 = .ok (.iadd, 1) := by decide +kernel
theorem d6d2_14 : decode prog_249_method_5_code 14 = .ok (.iastore, 1) := by decide +kernel
theorem d6d2_15 : decode prog_249_method_5_code 15 = .ok (.return_, 1) := by decide +kernel
theorem pn_6d2 : plainName "com/example/rewoven_tree/rewoventree/storage/TableShape" = true := by first | (simp [plainName, overriddenIn]; done) | decide +kernel
theorem ef_6d2 (m : MethodId) (x0 : Addr) (x1 : Int32) : entryFrame m #[(.ref x0), (.int x1)] 2 = mkF m 0 #[.val (.ref x0), .val (.int x1)] [] := by first | (simp [entryFrame, mkF, argsToLocals, Value.category]; done) | rfl
def Q6d2 (Z : State) (a1 : Addr) (p2 : Int32) (bo : Addr) (bt : Addr) (rc : Int32) (o0 : Int32) (o1 : Int32) (t0 : Int32) (t1 : Int32) (er : Int32) (es : Int32) (ea : Int32) (h0 : Heap) (n0 : Nat) (v : Option Value) (h : Heap) (L : List Loc) : Prop := v = none ∧ Fr n0 L ∧ Keep h0 h [a1, bo, bt] ∧ ownTS Z h n0 a1 bo bt rc (2 : Int32) o0 o1 t0 (t1 + p2) er es ea
set_option maxRecDepth 65536 in
set_option maxHeartbeats 40000000 in
theorem rm6d2 (l : Launch) (Z : State) (a0 : Array Value) (hw : ∀ d ∈ tables_1, d.before a0 Z = true) (ws : List Jvm.Cond) (a1 : Addr) (p2 : Int32) (bo : Addr) (bt : Addr) (rc : Int32) (o0 : Int32) (o1 : Int32) (t0 : Int32) (t1 : Int32) (er : Int32) (es : Int32) (ea : Int32) (h0 : Heap) (n0 : Nat) (Z0 : n0 ≤ h0.size) (B0 : ownTS Z h0 n0 a1 bo bt rc (2 : Int32) o0 o1 t0 t1 er es ea) :
    MetFree l (⟨"com/example/rewoven_tree/rewoventree/storage/TableShape", "addAttributes", "(I)V"⟩ : MethodName) (head1 (Jvm.Cond.code (⟨"com/example/rewoven_tree/rewoventree/storage/TableShape", "addAttributes", "(I)V"⟩ : MethodName) prog_249_method_5_code 2 none :: ws) ({ frames := 0, cells := 0, slots := 0, locals := 0 } : Room)) (fun a U => a = #[(.ref a1), (.int p2)] ∧ Z.Warmed39 U.vm ∧ U.heap = h0) (fun _ _ _ _ _ => True) (fun _ U o U' => ∃ v L, o = .returned v ∧ Q6d2 Z a1 p2 bo bt rc o0 o1 t0 t1 er es ea h0 n0 v U'.heap L ∧ FrameEnd U o U' L ({ frames := 0, cells := 0, slots := 0, locals := 0 } : Room).cells ({ frames := 0, cells := 0, slots := 0, locals := 0 } : Room).slots) := by
  have ww13 := hw _ (List.mem_of_getElem? (i := 13) rfl)
  have ww35 := hw _ (List.mem_of_getElem? (i := 35) rfl)
  refine MetFree.of_bodySF (plainFor_of_name pn_6d2) hisR ?_
  intro p e s m args below meth c s₁ Bd hml0 hP hK
  obtain ⟨rfl, hZ, hh⟩ := hP
  have hx := Bd.exec
  have hby := Bd.bytes
  have hlk : meth.locks = false := Bd.notSynchronized
  have hret := Bd.returns
  have hml : c.maxLocals = 2 := hml0
  have hown : s.vm.findClass "com/example/rewoven_tree/rewoventree/storage/TableShape" = some m.cls := findClass_of_methodNamed Bd.named
  have hnm := (name_of_methodNamed Bd.named Bd.method).1
  have X0 : Stand p l e ({ frames := 0, cells := 0, slots := 0, locals := 0 } : Room) s m #[(.ref a1), (.int p2)] below meth c s₁ [] 0 0 := Stand.of_body Bd
  have e0 : s₁.heap = h0 := by rw [← hh, Bd.state]; rfl
  have N0 := Fr.nil n0
  have K0 := Keep.refl h0 [a1, bo, bt]
  show OwnEnd p e below s (Q6d2 Z a1 p2 bo bt rc o0 o1 t0 t1 er es ea h0 n0) ({ frames := 0, cells := 0, slots := 0, locals := 0 } : Room).cells ({ frames := 0, cells := 0, slots := 0, locals := 0 } : Room).slots _
  refine OwnEnd.go (fun _ k => castTop (ef_6d2 m a1 p2) k) ?_
  obtain ⟨ga, go, gt, n1, n2, n3, E1, F_open, F_attr, F_rc, F_dp, ⟨di, F_di⟩, F_er, F_es, F_ea, ⟨ko, V_o⟩, ⟨kt, V_t⟩⟩ := B0
  show OwnEnd p e below s _ _ _ (s₁.setTop (mkF m 0 #[.val (.ref a1), .val (.int p2)] []))
  refine OwnEnd.go (fun _ k => XS.aloadN X0.here hx rfl (hb hby d6d2_0) rfl rfl k) ?_
  show OwnEnd p e below s _ _ _ (s₁.setTop (mkF m 1 #[.val (.ref a1), .val (.int p2)] [(.ref a1)]))
  obtain ⟨T101, X101, e101, st101⟩ := getF X0 hx hZ hown (host := "") (Or.inl ww13) Via.refl e0 F_attr (g := (mkF m 1 #[.val (.ref a1), .val (.int p2)] [(.ref a1)])) rfl rfl (hb hby d6d2_1)
  refine OwnEnd.go (fun _ k => st101 _ k) ?_
  show OwnEnd p e below s _ _ _ (T101.setTop (mkF m 4 #[.val (.ref a1), .val (.int p2)] [(.ref bt)]))
  refine OwnEnd.go (fun _ k => XS.aloadN X101.here hx rfl (hb hby d6d2_4) rfl rfl k) ?_
  show OwnEnd p e below s _ _ _ (T101.setTop (mkF m 5 #[.val (.ref a1), .val (.int p2)] [(.ref a1), (.ref bt)]))
  obtain ⟨T102, X102, e102, st102⟩ := getF X101 hx hZ hown (host := "") (Or.inl ww35) Via.refl e101 F_dp (g := (mkF m 5 #[.val (.ref a1), .val (.int p2)] [(.ref a1), (.ref bt)])) rfl rfl (hb hby d6d2_5)
  refine OwnEnd.go (fun _ k => st102 _ k) ?_
  show OwnEnd p e below s _ _ _ (T102.setTop (mkF m 8 #[.val (.ref a1), .val (.int p2)] [(.int (2 : Int32)), (.ref bt)]))
  refine OwnEnd.go (fun _ k => XS.iconst X102.here hx rfl (hb hby d6d2_8) k) ?_
  show OwnEnd p e below s _ _ _ (T102.setTop (mkF m 9 #[.val (.ref a1), .val (.int p2)] [(.int (1 : Int32)), (.int (2 : Int32)), (.ref bt)]))
  refine OwnEnd.go (fun _ k => XS.isub X102.here hx rfl (hb hby d6d2_9) rfl k) ?_
  show OwnEnd p e below s _ _ _ (T102.setTop (mkF m 10 #[.val (.ref a1), .val (.int p2)] [(.int (1 : Int32)), (.ref bt)]))
  refine OwnEnd.go (fun _ k => XT.dup2 X102.here hx rfl (hb hby d6d2_10) rfl rfl rfl k) ?_
  show OwnEnd p e below s _ _ _ (T102.setTop (mkF m 11 #[.val (.ref a1), .val (.int p2)] [(.int (1 : Int32)), (.ref bt), (.int (1 : Int32)), (.ref bt)]))
  obtain ⟨c103, Ar103, q103, S103, G103, H103, J103⟩ := id V_t
  have i103 := inb_of (j := (1 : Int32)) S103 ⟨by decide, by decide⟩
  refine OwnEnd.go (fun _ k => X102.iaload hx (j := (1 : Int32)) (v := (.int t1)) (by rw [e102]; exact Ar103.1) (State.isArrayOf_alike hZ.alike Ar103.2.1) Ar103.2.2 i103 (Has.at H103 i103 rfl) (g := (mkF m 11 #[.val (.ref a1), .val (.int p2)] [(.int (1 : Int32)), (.ref bt), (.int (1 : Int32)), (.ref bt)])) rfl rfl (hb hby d6d2_11) _ k) ?_
  show OwnEnd p e below s _ _ _ (T102.setTop (mkF m 12 #[.val (.ref a1), .val (.int p2)] [(.int t1), (.int (1 : Int32)), (.ref bt)]))
  refine OwnEnd.go (fun _ k => XS.iloadN X102.here hx rfl (hb hby d6d2_12) rfl  k) ?_
  show OwnEnd p e below s _ _ _ (T102.setTop (mkF m 13 #[.val (.ref a1), .val (.int p2)] [(.int p2), (.int t1), (.int (1 : Int32)), (.ref bt)]))
  refine OwnEnd.go (fun _ k => XS.iadd X102.here hx rfl (hb hby d6d2_13) rfl k) ?_
  show OwnEnd p e below s _ _ _ (T102.setTop (mkF m 14 #[.val (.ref a1), .val (.int p2)] [(.int (t1 + p2)), (.int (1 : Int32)), (.ref bt)]))
  obtain ⟨c104, Ar104, q104, S104, G104, H104, J104⟩ := id V_t
  obtain ⟨T104, h104, X104, e104, W104, st104⟩ := stI X102 hx hZ e102 Ar104 (j := (1 : Int32)) (inb_of S104 ⟨by decide, by decide⟩) (g := (mkF m 14 #[.val (.ref a1), .val (.int p2)] [(.int (t1 + p2)), (.int (1 : Int32)), (.ref bt)])) rfl rfl (hb hby d6d2_14)
  have V104 : Arv Z h104 bt kt .int (8 : Int32) [(.int t0), (.int (t1 + p2)), (.int (0 : Int32)), (.int (0 : Int32)), (.int (0 : Int32)), (.int (0 : Int32)), (.int (0 : Int32)), (.int (0 : Int32))] (.int (0 : Int32)) := Arv.set Ar104 q104 S104 G104 H104 J104 rfl W104 1 rfl (Nat.le_of_ble_eq_true rfl)
  have F106 := E1.wr W104
  have F107 := F_open.other W104 (Or.inl n2)
  have F108 := F_attr.other W104 (Or.inl n2)
  have F109 := F_rc.other W104 (Or.inl n2)
  have F110 := F_dp.other W104 (Or.inl n2)
  have F111 := F_di.other W104 (Or.inl n2)
  have F112 := F_er.other W104 (Or.inl n2)
  have F113 := F_es.other W104 (Or.inl n2)
  have F114 := F_ea.other W104 (Or.inl n2)
  have F115 := V_o.other W104 n3
  have N104 := Fr.snoc X104 N0 gt
  have K104 := K0.wr W104 (Or.inl (List.mem_of_getElem? (i := 2) rfl))
  have Y104 := Nat.le_trans Z0 (Nat.le_of_eq W104.size.symm)
  refine OwnEnd.go (fun _ k => st104 _ k) ?_
  show OwnEnd p e below s _ _ _ (T104.setTop (mkF m 15 #[.val (.ref a1), .val (.int p2)] []))
  refine ownRetV X104 hx hlk hret (hb hby d6d2_15) (by decide) (by decide) ?_
  show Q6d2 Z a1 p2 bo bt rc o0 o1 t0 t1 er es ea h0 n0 _ T104.heap _
  rw [e104]
  exact ⟨rfl, N104, K104, ⟨ga, go, gt, n1, n2, n3, F106, F107, F108, F109, F110, ⟨_, F111⟩, F112, F113, F114, ⟨_, F115⟩, ⟨_, V104⟩⟩⟩
theorem d7d2_0 : decode prog_249_method_6_code 0 = .ok (.aload_n 0, 1) := by decide +kernel
theorem d7d2_1 : decode prog_249_method_6_code 1 = .ok (.dup, 1) := by decide +kernel
theorem d7d2_2 : decode prog_249_method_6_code 2 = .ok (.getfield 26, 3) := by decide +kernel
theorem d7d2_5 : decode prog_249_method_6_code 5 = .ok (.iconst 1, 1) := by decide +kernel
theorem d7d2_6 : decode prog_249_method_6_code 6 = .ok (.isub, 1) := by decide +kernel
theorem d7d2_7 : decode prog_249_method_6_code 7 = .ok (.putfield 26, 3) := by decide +kernel
theorem d7d2_10 : decode prog_249_method_6_code 10 = .ok (.aload_n 0, 1) := by decide +kernel
theorem d7d2_11 : decode prog_249_method_6_code 11 = .ok (.aload_n 0, 1) := by decide +kernel
theorem d7d2_12 : decode prog_249_method_6_code 12 = .ok (.getfield 7, 3) := by decide +kernel
theorem d7d2_15 : decode prog_249_method_6_code 15 = .ok (.aload_n 0, 1) := by decide +kernel
theorem d7d2_16 : decode prog_249_method_6_code 16 = .ok (.getfield 26, 3) := by decide +kernel
theorem d7d2_19 : decode prog_249_method_6_code 19 = .ok (.iaload, 1) := by decide +kernel
theorem d7d2_20 : decode prog_249_method_6_code 20 = .ok (.putfield 48, 3) := by decide +kernel
theorem d7d2_23 : decode prog_249_method_6_code 23 = .ok (.aload_n 0, 1) := by decide +kernel
theorem d7d2_24 : decode prog_249_method_6_code 24 = .ok (.aload_n 0, 1) := by decide +kernel
theorem d7d2_25 : decode prog_249_method_6_code 25 = .ok (.getfield 42, 3) := by decide +kernel
theorem d7d2_28 : decode prog_249_method_6_code 28 = .ok (.aload_n 0, 1) := by decide +kernel
theorem d7d2_29 : decode prog_249_method_6_code 29 = .ok (.getfield 7, 3) := by decide +kernel
theorem d7d2_32 : decode prog_249_method_6_code 32 = .ok (.aload_n 0, 1) := by decide +kernel
theorem d7d2_33 : decode prog_249_method_6_code 33 = .ok (.getfield 26, 3) := by decide +kernel
theorem d7d2_36 : decode prog_249_method_6_code 36 = .ok (.iaload, 1) := by decide +kernel
theorem d7d2_37 : decode prog_249_method_6_code 37 = .ok (.isub, 1) := by decide +kernel
theorem d7d2_38 : decode prog_249_method_6_code 38 = .ok (.putfield 51, 3) := by decide +kernel
theorem d7d2_41 : decode prog_249_method_6_code 41 = .ok (.aload_n 0, 1) := by decide +kernel
theorem d7d2_42 : decode prog_249_method_6_code 42 = .ok (.aload_n 0, 1) := by decide +kernel
theorem d7d2_43 : decode prog_249_method_6_code 43 = .ok (.getfield 13, 3) := by decide +kernel
theorem d7d2_46 : decode prog_249_method_6_code 46 = .ok (.aload_n 0, 1) := by decide +kernel
theorem d7d2_47 : decode prog_249_method_6_code 47 = .ok (.getfield 26, 3) := by decide +kernel
theorem d7d2_50 : decode prog_249_method_6_code 50 = .ok (.iaload, 1) := by decide +kernel
theorem d7d2_51 : decode prog_249_method_6_code 51 = .ok (.putfield 54, 3) := by decide +kernel
theorem d7d2_54 : decode prog_249_method_6_code 54 = .ok (.return_, 1) := by decide +kernel
theorem pn_7d2 : plainName "com/example/rewoven_tree/rewoventree/storage/TableShape" = true := by first | (simp [plainName, overriddenIn]; done) | decide +kernel
theorem ef_7d2 (m : MethodId) (x0 : Addr) : entryFrame m #[(.ref x0)] 1 = mkF m 0 #[.val (.ref x0)] [] := by first | (simp [entryFrame, mkF, argsToLocals, Value.category]; done) | rfl
def Q7d2 (Z : State) (a1 : Addr) (bo : Addr) (bt : Addr) (rc : Int32) (o0 : Int32) (o1 : Int32) (t0 : Int32) (t1 : Int32) (er : Int32) (es : Int32) (ea : Int32) (h0 : Heap) (n0 : Nat) (v : Option Value) (h : Heap) (L : List Loc) : Prop := v = none ∧ Fr n0 L ∧ Keep h0 h [a1, bo, bt] ∧ ownTS Z h n0 a1 bo bt rc (1 : Int32) o0 o1 t0 t1 o1 (rc - o1) t1
set_option maxRecDepth 65536 in
set_option maxHeartbeats 40000000 in
theorem rm7d2 (l : Launch) (Z : State) (a0 : Array Value) (hw : ∀ d ∈ tables_1, d.before a0 Z = true) (ws : List Jvm.Cond) (a1 : Addr) (bo : Addr) (bt : Addr) (rc : Int32) (o0 : Int32) (o1 : Int32) (t0 : Int32) (t1 : Int32) (er : Int32) (es : Int32) (ea : Int32) (h0 : Heap) (n0 : Nat) (Z0 : n0 ≤ h0.size) (B0 : ownTS Z h0 n0 a1 bo bt rc (2 : Int32) o0 o1 t0 t1 er es ea) :
    MetFree l (⟨"com/example/rewoven_tree/rewoventree/storage/TableShape", "end", "()V"⟩ : MethodName) (head1 (Jvm.Cond.code (⟨"com/example/rewoven_tree/rewoventree/storage/TableShape", "end", "()V"⟩ : MethodName) prog_249_method_6_code 1 none :: ws) ({ frames := 0, cells := 0, slots := 0, locals := 0 } : Room)) (fun a U => a = #[(.ref a1)] ∧ Z.Warmed39 U.vm ∧ U.heap = h0) (fun _ _ _ _ _ => True) (fun _ U o U' => ∃ v L, o = .returned v ∧ Q7d2 Z a1 bo bt rc o0 o1 t0 t1 er es ea h0 n0 v U'.heap L ∧ FrameEnd U o U' L ({ frames := 0, cells := 0, slots := 0, locals := 0 } : Room).cells ({ frames := 0, cells := 0, slots := 0, locals := 0 } : Room).slots) := by
  have ww2 := hw _ (List.mem_of_getElem? (i := 2) rfl)
  have ww11 := hw _ (List.mem_of_getElem? (i := 11) rfl)
  have ww12 := hw _ (List.mem_of_getElem? (i := 12) rfl)
  have ww13 := hw _ (List.mem_of_getElem? (i := 13) rfl)
  have ww14 := hw _ (List.mem_of_getElem? (i := 14) rfl)
  have ww20 := hw _ (List.mem_of_getElem? (i := 20) rfl)
  have ww21 := hw _ (List.mem_of_getElem? (i := 21) rfl)
  have ww35 := hw _ (List.mem_of_getElem? (i := 35) rfl)
  have ww36 := hw _ (List.mem_of_getElem? (i := 36) rfl)
  have ww38 := hw _ (List.mem_of_getElem? (i := 38) rfl)
  have ww55 := hw _ (List.mem_of_getElem? (i := 55) rfl)
  have ww56 := hw _ (List.mem_of_getElem? (i := 56) rfl)
  have ww57 := hw _ (List.mem_of_getElem? (i := 57) rfl)
  have ww58 := hw _ (List.mem_of_getElem? (i := 58) rfl)
  have ww59 := hw _ (List.mem_of_getElem? (i := 59) rfl)
  have ww60 := hw _ (List.mem_of_getElem? (i := 60) rfl)
  refine MetFree.of_bodySF (plainFor_of_name pn_7d2) hisR ?_
  intro p e s m args below meth c s₁ Bd hml0 hP hK
  obtain ⟨rfl, hZ, hh⟩ := hP
  have hx := Bd.exec
  have hby := Bd.bytes
  have hlk : meth.locks = false := Bd.notSynchronized
  have hret := Bd.returns
  have hml : c.maxLocals = 1 := hml0
  have hown : s.vm.findClass "com/example/rewoven_tree/rewoventree/storage/TableShape" = some m.cls := findClass_of_methodNamed Bd.named
  have hnm := (name_of_methodNamed Bd.named Bd.method).1
  have X0 : Stand p l e ({ frames := 0, cells := 0, slots := 0, locals := 0 } : Room) s m #[(.ref a1)] below meth c s₁ [] 0 0 := Stand.of_body Bd
  have e0 : s₁.heap = h0 := by rw [← hh, Bd.state]; rfl
  have N0 := Fr.nil n0
  have K0 := Keep.refl h0 [a1, bo, bt]
  show OwnEnd p e below s (Q7d2 Z a1 bo bt rc o0 o1 t0 t1 er es ea h0 n0) ({ frames := 0, cells := 0, slots := 0, locals := 0 } : Room).cells ({ frames := 0, cells := 0, slots := 0, locals := 0 } : Room).slots _
  refine OwnEnd.go (fun _ k => castTop (ef_7d2 m a1) k) ?_
  obtain ⟨ga, go, gt, n1, n2, n3, E1, F_open, F_attr, F_rc, F_dp, ⟨di, F_di⟩, F_er, F_es, F_ea, ⟨ko, V_o⟩, ⟨kt, V_t⟩⟩ := B0
  show OwnEnd p e below s _ _ _ (s₁.setTop (mkF m 0 #[.val (.ref a1)] []))
  refine OwnEnd.go (fun _ k => XS.aloadN X0.here hx rfl (hb hby d7d2_0) rfl rfl k) ?_
  show OwnEnd p e below s _ _ _ (s₁.setTop (mkF m 1 #[.val (.ref a1)] [(.ref a1)]))
  refine OwnEnd.go (fun _ k => XS.dup X0.here hx rfl (hb hby d7d2_1) rfl rfl k) ?_
  show OwnEnd p e below s _ _ _ (s₁.setTop (mkF m 2 #[.val (.ref a1)] [(.ref a1), (.ref a1)]))
  obtain ⟨T101, X101, e101, st101⟩ := getF X0 hx hZ hown (host := "") (Or.inl ww35) Via.refl e0 F_dp (g := (mkF m 2 #[.val (.ref a1)] [(.ref a1), (.ref a1)])) rfl rfl (hb hby d7d2_2)
  refine OwnEnd.go (fun _ k => st101 _ k) ?_
  show OwnEnd p e below s _ _ _ (T101.setTop (mkF m 5 #[.val (.ref a1)] [(.int (2 : Int32)), (.ref a1)]))
  refine OwnEnd.go (fun _ k => XS.iconst X101.here hx rfl (hb hby d7d2_5) k) ?_
  show OwnEnd p e below s _ _ _ (T101.setTop (mkF m 6 #[.val (.ref a1)] [(.int (1 : Int32)), (.int (2 : Int32)), (.ref a1)]))
  refine OwnEnd.go (fun _ k => XS.isub X101.here hx rfl (hb hby d7d2_6) rfl k) ?_
  show OwnEnd p e below s _ _ _ (T101.setTop (mkF m 7 #[.val (.ref a1)] [(.int (1 : Int32)), (.ref a1)]))
  obtain ⟨T102, h102, X102, e102, W102, st102⟩ := putF X101 hx hZ hown (host := "") (Or.inl ww35) Via.refl e101 F_dp E1 (Or.inl ww36) ww2 (ty := .int) (by decide) rfl rfl (g := (mkF m 7 #[.val (.ref a1)] [(.int (1 : Int32)), (.ref a1)])) rfl rfl (hb hby d7d2_7)
  have F104 := E1.wr W102
  have F105 := F_open.other W102 (Or.inr (slot_ne (Or.inl ww12) (Or.inl ww36) (by decide) (t := (.array .int)) (t' := .int) (by decide) (by decide)))
  have F106 := F_attr.other W102 (Or.inr (slot_ne (Or.inl ww14) (Or.inl ww36) (by decide) (t := (.array .int)) (t' := .int) (by decide) (by decide)))
  have F107 := F_rc.other W102 (Or.inr (slot_ne (Or.inl ww21) (Or.inl ww36) (by decide) (t := .int) (t' := .int) (by decide) (by decide)))
  have F108 := F_dp.same W102
  have F109 := F_di.other W102 (Or.inr (slot_ne (Or.inl ww38) (Or.inl ww36) (by decide) (t := .int) (t' := .int) (by decide) (by decide)))
  have F110 := F_er.other W102 (Or.inr (slot_ne (Or.inl ww56) (Or.inl ww36) (by decide) (t := .int) (t' := .int) (by decide) (by decide)))
  have F111 := F_es.other W102 (Or.inr (slot_ne (Or.inl ww58) (Or.inl ww36) (by decide) (t := .int) (t' := .int) (by decide) (by decide)))
  have F112 := F_ea.other W102 (Or.inr (slot_ne (Or.inl ww60) (Or.inl ww36) (by decide) (t := .int) (t' := .int) (by decide) (by decide)))
  have F113 := V_o.other W102 (Ne.symm n1)
  have F114 := V_t.other W102 (Ne.symm n2)
  have N102 := Fr.snoc X102 N0 ga
  have K102 := K0.wr W102 (Or.inl (List.mem_of_getElem? (i := 0) rfl))
  have Y102 := Nat.le_trans Z0 (Nat.le_of_eq W102.size.symm)
  refine OwnEnd.go (fun _ k => st102 _ k) ?_
  show OwnEnd p e below s _ _ _ (T102.setTop (mkF m 10 #[.val (.ref a1)] []))
  refine OwnEnd.go (fun _ k => XS.aloadN X102.here hx rfl (hb hby d7d2_10) rfl rfl k) ?_
  show OwnEnd p e below s _ _ _ (T102.setTop (mkF m 11 #[.val (.ref a1)] [(.ref a1)]))
  refine OwnEnd.go (fun _ k => XS.aloadN X102.here hx rfl (hb hby d7d2_11) rfl rfl k) ?_
  show OwnEnd p e below s _ _ _ (T102.setTop (mkF m 12 #[.val (.ref a1)] [(.ref a1), (.ref a1)]))
  obtain ⟨T115, X115, e115, st115⟩ := getF X102 hx hZ hown (host := "") (Or.inl ww11) Via.refl e102 F105 (g := (mkF m 12 #[.val (.ref a1)] [(.ref a1), (.ref a1)])) rfl rfl (hb hby d7d2_12)
  refine OwnEnd.go (fun _ k => st115 _ k) ?_
  show OwnEnd p e below s _ _ _ (T115.setTop (mkF m 15 #[.val (.ref a1)] [(.ref bo), (.ref a1)]))
  refine OwnEnd.go (fun _ k => XS.aloadN X115.here hx rfl (hb hby d7d2_15) rfl rfl k) ?_
  show OwnEnd p e below s _ _ _ (T115.setTop (mkF m 16 #[.val (.ref a1)] [(.ref a1), (.ref bo), (.ref a1)]))
  obtain ⟨T116, X116, e116, st116⟩ := getF X115 hx hZ hown (host := "") (Or.inl ww35) Via.refl e115 F108 (g := (mkF m 16 #[.val (.ref a1)] [(.ref a1), (.ref bo), (.ref a1)])) rfl rfl (hb hby d7d2_16)
  refine OwnEnd.go (fun _ k => st116 _ k) ?_
  show OwnEnd p e below s _ _ _ (T116.setTop (mkF m 19 #[.val (.ref a1)] [(.int (1 : Int32)), (.ref bo), (.ref a1)]))
  obtain ⟨c117, Ar117, q117, S117, G117, H117, J117⟩ := id F113
  have i117 := inb_of (j := (1 : Int32)) S117 ⟨by decide, by decide⟩
  refine OwnEnd.go (fun _ k => X116.iaload hx (j := (1 : Int32)) (v := (.int o1)) (by rw [e116]; exact Ar117.1) (State.isArrayOf_alike hZ.alike Ar117.2.1) Ar117.2.2 i117 (Has.at H117 i117 rfl) (g := (mkF m 19 #[.val (.ref a1)] [(.int (1 : Int32)), (.ref bo), (.ref a1)])) rfl rfl (hb hby d7d2_19) _ k) ?_
  show OwnEnd p e below s _ _ _ (T116.setTop (mkF m 20 #[.val (.ref a1)] [(.int o1), (.ref a1)]))
  obtain ⟨T118, h118, X118, e118, W118, st118⟩ := putF X116 hx hZ hown (host := "") (Or.inl ww55) Via.refl e116 F110 F104 (Or.inl ww56) ww2 (ty := .int) (by decide) rfl rfl (g := (mkF m 20 #[.val (.ref a1)] [(.int o1), (.ref a1)])) rfl rfl (hb hby d7d2_20)
  have F119 := F104.wr W118
  have F120 := F105.other W118 (Or.inr (slot_ne (Or.inl ww12) (Or.inl ww56) (by decide) (t := (.array .int)) (t' := .int) (by decide) (by decide)))
  have F121 := F106.other W118 (Or.inr (slot_ne (Or.inl ww14) (Or.inl ww56) (by decide) (t := (.array .int)) (t' := .int) (by decide) (by decide)))
  have F122 := F107.other W118 (Or.inr (slot_ne (Or.inl ww21) (Or.inl ww56) (by decide) (t := .int) (t' := .int) (by decide) (by decide)))
  have F123 := F108.other W118 (Or.inr (slot_ne (Or.inl ww36) (Or.inl ww56) (by decide) (t := .int) (t' := .int) (by decide) (by decide)))
  have F124 := F109.other W118 (Or.inr (slot_ne (Or.inl ww38) (Or.inl ww56) (by decide) (t := .int) (t' := .int) (by decide) (by decide)))
  have F125 := F110.same W118
  have F126 := F111.other W118 (Or.inr (slot_ne (Or.inl ww58) (Or.inl ww56) (by decide) (t := .int) (t' := .int) (by decide) (by decide)))
  have F127 := F112.other W118 (Or.inr (slot_ne (Or.inl ww60) (Or.inl ww56) (by decide) (t := .int) (t' := .int) (by decide) (by decide)))
  have F128 := F113.other W118 (Ne.symm n1)
  have F129 := F114.other W118 (Ne.symm n2)
  have N118 := Fr.snoc X118 N102 ga
  have K118 := K102.wr W118 (Or.inl (List.mem_of_getElem? (i := 0) rfl))
  have Y118 := Nat.le_trans Y102 (Nat.le_of_eq W118.size.symm)
  refine OwnEnd.go (fun _ k => st118 _ k) ?_
  show OwnEnd p e below s _ _ _ (T118.setTop (mkF m 23 #[.val (.ref a1)] []))
  refine OwnEnd.go (fun _ k => XS.aloadN X118.here hx rfl (hb hby d7d2_23) rfl rfl k) ?_
  show OwnEnd p e below s _ _ _ (T118.setTop (mkF m 24 #[.val (.ref a1)] [(.ref a1)]))
  refine OwnEnd.go (fun _ k => XS.aloadN X118.here hx rfl (hb hby d7d2_24) rfl rfl k) ?_
  show OwnEnd p e below s _ _ _ (T118.setTop (mkF m 25 #[.val (.ref a1)] [(.ref a1), (.ref a1)]))
  obtain ⟨T130, X130, e130, st130⟩ := getF X118 hx hZ hown (host := "") (Or.inl ww20) Via.refl e118 F122 (g := (mkF m 25 #[.val (.ref a1)] [(.ref a1), (.ref a1)])) rfl rfl (hb hby d7d2_25)
  refine OwnEnd.go (fun _ k => st130 _ k) ?_
  show OwnEnd p e below s _ _ _ (T130.setTop (mkF m 28 #[.val (.ref a1)] [(.int rc), (.ref a1)]))
  refine OwnEnd.go (fun _ k => XS.aloadN X130.here hx rfl (hb hby d7d2_28) rfl rfl k) ?_
  show OwnEnd p e below s _ _ _ (T130.setTop (mkF m 29 #[.val (.ref a1)] [(.ref a1), (.int rc), (.ref a1)]))
  obtain ⟨T131, X131, e131, st131⟩ := getF X130 hx hZ hown (host := "") (Or.inl ww11) Via.refl e130 F120 (g := (mkF m 29 #[.val (.ref a1)] [(.ref a1), (.int rc), (.ref a1)])) rfl rfl (hb hby d7d2_29)
  refine OwnEnd.go (fun _ k => st131 _ k) ?_
  show OwnEnd p e below s _ _ _ (T131.setTop (mkF m 32 #[.val (.ref a1)] [(.ref bo), (.int rc), (.ref a1)]))
  refine OwnEnd.go (fun _ k => XS.aloadN X131.here hx rfl (hb hby d7d2_32) rfl rfl k) ?_
  show OwnEnd p e below s _ _ _ (T131.setTop (mkF m 33 #[.val (.ref a1)] [(.ref a1), (.ref bo), (.int rc), (.ref a1)]))
  obtain ⟨T132, X132, e132, st132⟩ := getF X131 hx hZ hown (host := "") (Or.inl ww35) Via.refl e131 F123 (g := (mkF m 33 #[.val (.ref a1)] [(.ref a1), (.ref bo), (.int rc), (.ref a1)])) rfl rfl (hb hby d7d2_33)
  refine OwnEnd.go (fun _ k => st132 _ k) ?_
  show OwnEnd p e below s _ _ _ (T132.setTop (mkF m 36 #[.val (.ref a1)] [(.int (1 : Int32)), (.ref bo), (.int rc), (.ref a1)]))
  obtain ⟨c133, Ar133, q133, S133, G133, H133, J133⟩ := id F128
  have i133 := inb_of (j := (1 : Int32)) S133 ⟨by decide, by decide⟩
  refine OwnEnd.go (fun _ k => X132.iaload hx (j := (1 : Int32)) (v := (.int o1)) (by rw [e132]; exact Ar133.1) (State.isArrayOf_alike hZ.alike Ar133.2.1) Ar133.2.2 i133 (Has.at H133 i133 rfl) (g := (mkF m 36 #[.val (.ref a1)] [(.int (1 : Int32)), (.ref bo), (.int rc), (.ref a1)])) rfl rfl (hb hby d7d2_36) _ k) ?_
  show OwnEnd p e below s _ _ _ (T132.setTop (mkF m 37 #[.val (.ref a1)] [(.int o1), (.int rc), (.ref a1)]))
  refine OwnEnd.go (fun _ k => XS.isub X132.here hx rfl (hb hby d7d2_37) rfl k) ?_
  show OwnEnd p e below s _ _ _ (T132.setTop (mkF m 38 #[.val (.ref a1)] [(.int (rc - o1)), (.ref a1)]))
  obtain ⟨T134, h134, X134, e134, W134, st134⟩ := putF X132 hx hZ hown (host := "") (Or.inl ww57) Via.refl e132 F126 F119 (Or.inl ww58) ww2 (ty := .int) (by decide) rfl rfl (g := (mkF m 38 #[.val (.ref a1)] [(.int (rc - o1)), (.ref a1)])) rfl rfl (hb hby d7d2_38)
  have F135 := F119.wr W134
  have F136 := F120.other W134 (Or.inr (slot_ne (Or.inl ww12) (Or.inl ww58) (by decide) (t := (.array .int)) (t' := .int) (by decide) (by decide)))
  have F137 := F121.other W134 (Or.inr (slot_ne (Or.inl ww14) (Or.inl ww58) (by decide) (t := (.array .int)) (t' := .int) (by decide) (by decide)))
  have F138 := F122.other W134 (Or.inr (slot_ne (Or.inl ww21) (Or.inl ww58) (by decide) (t := .int) (t' := .int) (by decide) (by decide)))
  have F139 := F123.other W134 (Or.inr (slot_ne (Or.inl ww36) (Or.inl ww58) (by decide) (t := .int) (t' := .int) (by decide) (by decide)))
  have F140 := F124.other W134 (Or.inr (slot_ne (Or.inl ww38) (Or.inl ww58) (by decide) (t := .int) (t' := .int) (by decide) (by decide)))
  have F141 := F125.other W134 (Or.inr (slot_ne (Or.inl ww56) (Or.inl ww58) (by decide) (t := .int) (t' := .int) (by decide) (by decide)))
  have F142 := F126.same W134
  have F143 := F127.other W134 (Or.inr (slot_ne (Or.inl ww60) (Or.inl ww58) (by decide) (t := .int) (t' := .int) (by decide) (by decide)))
  have F144 := F128.other W134 (Ne.symm n1)
  have F145 := F129.other W134 (Ne.symm n2)
  have N134 := Fr.snoc X134 N118 ga
  have K134 := K118.wr W134 (Or.inl (List.mem_of_getElem? (i := 0) rfl))
  have Y134 := Nat.le_trans Y118 (Nat.le_of_eq W134.size.symm)
  refine OwnEnd.go (fun _ k => st134 _ k) ?_
  show OwnEnd p e below s _ _ _ (T134.setTop (mkF m 41 #[.val (.ref a1)] []))
  refine OwnEnd.go (fun _ k => XS.aloadN X134.here hx rfl (hb hby d7d2_41) rfl rfl k) ?_
  show OwnEnd p e below s _ _ _ (T134.setTop (mkF m 42 #[.val (.ref a1)] [(.ref a1)]))
  refine OwnEnd.go (fun _ k => XS.aloadN X134.here hx rfl (hb hby d7d2_42) rfl rfl k) ?_
  show OwnEnd p e below s _ _ _ (T134.setTop (mkF m 43 #[.val (.ref a1)] [(.ref a1), (.ref a1)]))
  obtain ⟨T146, X146, e146, st146⟩ := getF X134 hx hZ hown (host := "") (Or.inl ww13) Via.refl e134 F137 (g := (mkF m 43 #[.val (.ref a1)] [(.ref a1), (.ref a1)])) rfl rfl (hb hby d7d2_43)
  refine OwnEnd.go (fun _ k => st146 _ k) ?_
  show OwnEnd p e below s _ _ _ (T146.setTop (mkF m 46 #[.val (.ref a1)] [(.ref bt), (.ref a1)]))
  refine OwnEnd.go (fun _ k => XS.aloadN X146.here hx rfl (hb hby d7d2_46) rfl rfl k) ?_
  show OwnEnd p e below s _ _ _ (T146.setTop (mkF m 47 #[.val (.ref a1)] [(.ref a1), (.ref bt), (.ref a1)]))
  obtain ⟨T147, X147, e147, st147⟩ := getF X146 hx hZ hown (host := "") (Or.inl ww35) Via.refl e146 F139 (g := (mkF m 47 #[.val (.ref a1)] [(.ref a1), (.ref bt), (.ref a1)])) rfl rfl (hb hby d7d2_47)
  refine OwnEnd.go (fun _ k => st147 _ k) ?_
  show OwnEnd p e below s _ _ _ (T147.setTop (mkF m 50 #[.val (.ref a1)] [(.int (1 : Int32)), (.ref bt), (.ref a1)]))
  obtain ⟨c148, Ar148, q148, S148, G148, H148, J148⟩ := id F145
  have i148 := inb_of (j := (1 : Int32)) S148 ⟨by decide, by decide⟩
  refine OwnEnd.go (fun _ k => X147.iaload hx (j := (1 : Int32)) (v := (.int t1)) (by rw [e147]; exact Ar148.1) (State.isArrayOf_alike hZ.alike Ar148.2.1) Ar148.2.2 i148 (Has.at H148 i148 rfl) (g := (mkF m 50 #[.val (.ref a1)] [(.int (1 : Int32)), (.ref bt), (.ref a1)])) rfl rfl (hb hby d7d2_50) _ k) ?_
  show OwnEnd p e below s _ _ _ (T147.setTop (mkF m 51 #[.val (.ref a1)] [(.int t1), (.ref a1)]))
  obtain ⟨T149, h149, X149, e149, W149, st149⟩ := putF X147 hx hZ hown (host := "") (Or.inl ww59) Via.refl e147 F143 F135 (Or.inl ww60) ww2 (ty := .int) (by decide) rfl rfl (g := (mkF m 51 #[.val (.ref a1)] [(.int t1), (.ref a1)])) rfl rfl (hb hby d7d2_51)
  have F150 := F135.wr W149
  have F151 := F136.other W149 (Or.inr (slot_ne (Or.inl ww12) (Or.inl ww60) (by decide) (t := (.array .int)) (t' := .int) (by decide) (by decide)))
  have F152 := F137.other W149 (Or.inr (slot_ne (Or.inl ww14) (Or.inl ww60) (by decide) (t := (.array .int)) (t' := .int) (by decide) (by decide)))
  have F153 := F138.other W149 (Or.inr (slot_ne (Or.inl ww21) (Or.inl ww60) (by decide) (t := .int) (t' := .int) (by decide) (by decide)))
  have F154 := F139.other W149 (Or.inr (slot_ne (Or.inl ww36) (Or.inl ww60) (by decide) (t := .int) (t' := .int) (by decide) (by decide)))
  have F155 := F140.other W149 (Or.inr (slot_ne (Or.inl ww38) (Or.inl ww60) (by decide) (t := .int) (t' := .int) (by decide) (by decide)))
  have F156 := F141.other W149 (Or.inr (slot_ne (Or.inl ww56) (Or.inl ww60) (by decide) (t := .int) (t' := .int) (by decide) (by decide)))
  have F157 := F142.other W149 (Or.inr (slot_ne (Or.inl ww58) (Or.inl ww60) (by decide) (t := .int) (t' := .int) (by decide) (by decide)))
  have F158 := F143.same W149
  have F159 := F144.other W149 (Ne.symm n1)
  have F160 := F145.other W149 (Ne.symm n2)
  have N149 := Fr.snoc X149 N134 ga
  have K149 := K134.wr W149 (Or.inl (List.mem_of_getElem? (i := 0) rfl))
  have Y149 := Nat.le_trans Y134 (Nat.le_of_eq W149.size.symm)
  refine OwnEnd.go (fun _ k => st149 _ k) ?_
  show OwnEnd p e below s _ _ _ (T149.setTop (mkF m 54 #[.val (.ref a1)] []))
  refine ownRetV X149 hx hlk hret (hb hby d7d2_54) (by decide) (by decide) ?_
  show Q7d2 Z a1 bo bt rc o0 o1 t0 t1 er es ea h0 n0 _ T149.heap _
  rw [e149]
  exact ⟨rfl, N149, K149, ⟨ga, go, gt, n1, n2, n3, F150, F151, F152, F153, F154, ⟨_, F155⟩, F156, F157, F158, ⟨_, F159⟩, ⟨_, F160⟩⟩⟩
theorem pn_0 : plainName "com/example/rewoven_tree/rewoventree/storage/TableShapeEndPinLaw" = true := by first | (simp [plainName, overriddenIn]; done) | decide +kernel
theorem pd0_0 : parseMethodDescriptor "()V" = some ⟨[], none⟩ := by decide +kernel
theorem pd0_1 : parseMethodDescriptor "(I)V" = some ⟨[.int], none⟩ := by decide +kernel
theorem pd0_2 : parseMethodDescriptor "(Lcom/example/rewoven_tree/rewoventree/storage/NodeKind;)I" = some ⟨[(.object "com/example/rewoven_tree/rewoventree/storage/NodeKind")], some .int⟩ := by decide +kernel
theorem pd0_3 : parseMethodDescriptor "()I" = some ⟨[], some .int⟩ := by decide +kernel
theorem ef_0 (m : MethodId) (x0 : Int32) (x1 : Int32) (x2 : Int32) (x3 : Int32) (x4 : Int32) (x5 : Int32) : entryFrame m #[(.int x0), (.int x1), (.int x2), (.int x3), (.int x4), (.int x5)] maxLocals = mkF m 0 #[.val (.int x0), .val (.int x1), .val (.int x2), .val (.int x3), .val (.int x4), .val (.int x5), .unset, .unset, .unset, .unset, .unset, .unset, .unset, .unset, .unset, .unset, .unset, .unset, .unset] [] := by first | (simp [entryFrame, mkF, argsToLocals, Value.category, maxLocals]; done) | rfl
def Q0 (Z : State) (p1 : Int32) (p2 : Int32) (p3 : Int32) (p4 : Int32) (p5 : Int32) (p6 : Int32) (a_DOCUMENT : Addr) (a_ELEMENT : Addr) (a_ATTRIBUTE : Addr) (h0 : Heap) (n0 : Nat) (v : Option Value) (h : Heap) (L : List Loc) : Prop := v = some (.int 1) ∧ Fr n0 L
set_option maxRecDepth 65536 in
set_option maxHeartbeats 40000000 in
theorem rm0 (l : Launch) (Z : State) (a0 : Array Value) (hw : ∀ d ∈ tables_1, d.before a0 Z = true) (ws : List Jvm.Cond) (p1 : Int32) (p2 : Int32) (p3 : Int32) (p4 : Int32) (p5 : Int32) (p6 : Int32) (a_DOCUMENT : Addr) (a_ELEMENT : Addr) (a_ATTRIBUTE : Addr) (h0 : Heap) (n0 : Nat) (Z0 : n0 ≤ h0.size) (O0 : Old Z n0 h0) (S_DOCUMENT : Sta Z Z.heap "com/example/rewoven_tree/rewoventree/storage/NodeKind" "DOCUMENT" "Lcom/example/rewoven_tree/rewoventree/storage/NodeKind;" (.ref a_DOCUMENT)) (S_ELEMENT : Sta Z Z.heap "com/example/rewoven_tree/rewoventree/storage/NodeKind" "ELEMENT" "Lcom/example/rewoven_tree/rewoventree/storage/NodeKind;" (.ref a_ELEMENT)) (S_ATTRIBUTE : Sta Z Z.heap "com/example/rewoven_tree/rewoventree/storage/NodeKind" "ATTRIBUTE" "Lcom/example/rewoven_tree/rewoventree/storage/NodeKind;" (.ref a_ATTRIBUTE)) (nAD : a_ATTRIBUTE ≠ a_DOCUMENT) (nAE : a_ATTRIBUTE ≠ a_ELEMENT) :
    MetFree l x (head1 (Jvm.Cond.code x code maxLocals ret :: ws) room_1) (fun a U => a = #[(.int p1), (.int p2), (.int p3), (.int p4), (.int p5), (.int p6)] ∧ Z.Warmed39 U.vm ∧ U.heap = h0) (fun _ _ _ _ _ => True) (fun _ U o U' => ∃ v L, o = .returned v ∧ Q0 Z p1 p2 p3 p4 p5 p6 a_DOCUMENT a_ELEMENT a_ATTRIBUTE h0 n0 v U'.heap L ∧ FrameEnd U o U' L room_1.cells room_1.slots) := by
  have ww0 := hw _ (List.mem_of_getElem? (i := 0) rfl)
  have ww1 := hw _ (List.mem_of_getElem? (i := 1) rfl)
  have ww2 := hw _ (List.mem_of_getElem? (i := 2) rfl)
  have ww3 := hw _ (List.mem_of_getElem? (i := 3) rfl)
  have ww4 := hw _ (List.mem_of_getElem? (i := 4) rfl)
  have ww5 := hw _ (List.mem_of_getElem? (i := 5) rfl)
  have ww6 := hw _ (List.mem_of_getElem? (i := 6) rfl)
  have ww12 := hw _ (List.mem_of_getElem? (i := 12) rfl)
  have ww14 := hw _ (List.mem_of_getElem? (i := 14) rfl)
  have ww15 := hw _ (List.mem_of_getElem? (i := 15) rfl)
  have ww16 := hw _ (List.mem_of_getElem? (i := 16) rfl)
  have ww17 := hw _ (List.mem_of_getElem? (i := 17) rfl)
  have ww18 := hw _ (List.mem_of_getElem? (i := 18) rfl)
  have ww19 := hw _ (List.mem_of_getElem? (i := 19) rfl)
  have ww21 := hw _ (List.mem_of_getElem? (i := 21) rfl)
  have ww22 := hw _ (List.mem_of_getElem? (i := 22) rfl)
  have ww25 := hw _ (List.mem_of_getElem? (i := 25) rfl)
  have ww26 := hw _ (List.mem_of_getElem? (i := 26) rfl)
  have ww27 := hw _ (List.mem_of_getElem? (i := 27) rfl)
  have ww28 := hw _ (List.mem_of_getElem? (i := 28) rfl)
  have ww29 := hw _ (List.mem_of_getElem? (i := 29) rfl)
  have ww36 := hw _ (List.mem_of_getElem? (i := 36) rfl)
  have ww38 := hw _ (List.mem_of_getElem? (i := 38) rfl)
  have ww44 := hw _ (List.mem_of_getElem? (i := 44) rfl)
  have ww45 := hw _ (List.mem_of_getElem? (i := 45) rfl)
  have ww46 := hw _ (List.mem_of_getElem? (i := 46) rfl)
  have ww47 := hw _ (List.mem_of_getElem? (i := 47) rfl)
  have ww48 := hw _ (List.mem_of_getElem? (i := 48) rfl)
  have ww49 := hw _ (List.mem_of_getElem? (i := 49) rfl)
  have ww50 := hw _ (List.mem_of_getElem? (i := 50) rfl)
  have ww51 := hw _ (List.mem_of_getElem? (i := 51) rfl)
  have ww52 := hw _ (List.mem_of_getElem? (i := 52) rfl)
  have ww53 := hw _ (List.mem_of_getElem? (i := 53) rfl)
  have ww54 := hw _ (List.mem_of_getElem? (i := 54) rfl)
  have ww56 := hw _ (List.mem_of_getElem? (i := 56) rfl)
  have ww58 := hw _ (List.mem_of_getElem? (i := 58) rfl)
  have ww60 := hw _ (List.mem_of_getElem? (i := 60) rfl)
  have ww61 := hw _ (List.mem_of_getElem? (i := 61) rfl)
  have ww62 := hw _ (List.mem_of_getElem? (i := 62) rfl)
  have ww63 := hw _ (List.mem_of_getElem? (i := 63) rfl)
  have ww64 := hw _ (List.mem_of_getElem? (i := 64) rfl)
  have ww65 := hw _ (List.mem_of_getElem? (i := 65) rfl)
  have ww66 := hw _ (List.mem_of_getElem? (i := 66) rfl)
  have ww67 := hw _ (List.mem_of_getElem? (i := 67) rfl)
  have ww68 := hw _ (List.mem_of_getElem? (i := 68) rfl)
  have ww69 := hw _ (List.mem_of_getElem? (i := 69) rfl)
  have ww70 := hw _ (List.mem_of_getElem? (i := 70) rfl)
  have ww71 := hw _ (List.mem_of_getElem? (i := 71) rfl)
  have ww72 := hw _ (List.mem_of_getElem? (i := 72) rfl)
  have ww73 := hw _ (List.mem_of_getElem? (i := 73) rfl)
  have ww74 := hw _ (List.mem_of_getElem? (i := 74) rfl)
  have ww75 := hw _ (List.mem_of_getElem? (i := 75) rfl)
  refine MetFree.of_bodySF (plainFor_of_name pn_0) hisR ?_
  intro p e s m args below meth c s₁ Bd hml0 hP hK
  obtain ⟨rfl, hZ, hh⟩ := hP
  have hx := Bd.exec
  have hby := Bd.bytes
  have hlk : meth.locks = false := Bd.notSynchronized
  have hret := Bd.returns
  have hml : c.maxLocals = 19 := hml0
  have hown : s.vm.findClass "com/example/rewoven_tree/rewoventree/storage/TableShapeEndPinLaw" = some m.cls := findClass_of_methodNamed Bd.named
  have hnm := (name_of_methodNamed Bd.named Bd.method).1
  have X0 : Stand p l e room_1 s m #[(.int p1), (.int p2), (.int p3), (.int p4), (.int p5), (.int p6)] below meth c s₁ [] 0 0 := Stand.of_body Bd
  have e0 : s₁.heap = h0 := by rw [← hh, Bd.state]; rfl
  have N0 := Fr.nil n0
  have K0 := Keep.refl h0 []
  show OwnEnd p e below s (Q0 Z p1 p2 p3 p4 p5 p6 a_DOCUMENT a_ELEMENT a_ATTRIBUTE h0 n0) room_1.cells room_1.slots _
  refine OwnEnd.go (fun _ k => castTop (ef_0 m p1 p2 p3 p4 p5 p6) k) ?_
  show OwnEnd p e below s _ _ _ (s₁.setTop (mkF m 0 #[.val (.int p1), .val (.int p2), .val (.int p3), .val (.int p4), .val (.int p5), .val (.int p6), .unset, .unset, .unset, .unset, .unset, .unset, .unset, .unset, .unset, .unset, .unset, .unset, .unset] []))
  refine OwnEnd.go (fun _ k => XS.iloadN X0.here hx rfl (hb hby at_0) rfl  k) ?_
  show OwnEnd p e below s _ _ _ (s₁.setTop (mkF m 1 #[.val (.int p1), .val (.int p2), .val (.int p3), .val (.int p4), .val (.int p5), .val (.int p6), .unset, .unset, .unset, .unset, .unset, .unset, .unset, .unset, .unset, .unset, .unset, .unset, .unset] [(.int p1)]))
  refine OwnEnd.go (fun _ k => X0.ldcI hx hown (mvT hZ ww0) (g := (mkF m 1 #[.val (.int p1), .val (.int p2), .val (.int p3), .val (.int p4), .val (.int p5), .val (.int p6), .unset, .unset, .unset, .unset, .unset, .unset, .unset, .unset, .unset, .unset, .unset, .unset, .unset] [(.int p1)])) rfl (hb hby at_1) k) ?_
  show OwnEnd p e below s _ _ _ (s₁.setTop (mkF m 3 #[.val (.int p1), .val (.int p2), .val (.int p3), .val (.int p4), .val (.int p5), .val (.int p6), .unset, .unset, .unset, .unset, .unset, .unset, .unset, .unset, .unset, .unset, .unset, .unset, .unset] [(.int (268435455 : Int32)), (.int p1)]))
  refine OwnEnd.go (fun _ k => XS.iand X0.here hx rfl (hb hby at_3) rfl k) ?_
  show OwnEnd p e below s _ _ _ (s₁.setTop (mkF m 4 #[.val (.int p1), .val (.int p2), .val (.int p3), .val (.int p4), .val (.int p5), .val (.int p6), .unset, .unset, .unset, .unset, .unset, .unset, .unset, .unset, .unset, .unset, .unset, .unset, .unset] [(.int (p1 &&& (268435455 : Int32)))]))
  refine OwnEnd.go (fun _ k => XS.istore X0.here hx rfl (hb hby at_4) rfl  (l' := #[.val (.int p1), .val (.int p2), .val (.int p3), .val (.int p4), .val (.int p5), .val (.int p6), .val (.int (p1 &&& (268435455 : Int32))), .unset, .unset, .unset, .unset, .unset, .unset, .unset, .unset, .unset, .unset, .unset, .unset]) rfl k) ?_
  show OwnEnd p e below s _ _ _ (s₁.setTop (mkF m 6 #[.val (.int p1), .val (.int p2), .val (.int p3), .val (.int p4), .val (.int p5), .val (.int p6), .val (.int (p1 &&& (268435455 : Int32))), .unset, .unset, .unset, .unset, .unset, .unset, .unset, .unset, .unset, .unset, .unset, .unset] []))
  refine OwnEnd.go (fun _ k => XS.iloadN X0.here hx rfl (hb hby at_6) rfl  k) ?_
  show OwnEnd p e below s _ _ _ (s₁.setTop (mkF m 7 #[.val (.int p1), .val (.int p2), .val (.int p3), .val (.int p4), .val (.int p5), .val (.int p6), .val (.int (p1 &&& (268435455 : Int32))), .unset, .unset, .unset, .unset, .unset, .unset, .unset, .unset, .unset, .unset, .unset, .unset] [(.int p2)]))
  refine OwnEnd.go (fun _ k => X0.ldcI hx hown (mvT hZ ww0) (g := (mkF m 7 #[.val (.int p1), .val (.int p2), .val (.int p3), .val (.int p4), .val (.int p5), .val (.int p6), .val (.int (p1 &&& (268435455 : Int32))), .unset, .unset, .unset, .unset, .unset, .unset, .unset, .unset, .unset, .unset, .unset, .unset] [(.int p2)])) rfl (hb hby at_7) k) ?_
  show OwnEnd p e below s _ _ _ (s₁.setTop (mkF m 9 #[.val (.int p1), .val (.int p2), .val (.int p3), .val (.int p4), .val (.int p5), .val (.int p6), .val (.int (p1 &&& (268435455 : Int32))), .unset, .unset, .unset, .unset, .unset, .unset, .unset, .unset, .unset, .unset, .unset, .unset] [(.int (268435455 : Int32)), (.int p2)]))
  refine OwnEnd.go (fun _ k => XS.iand X0.here hx rfl (hb hby at_9) rfl k) ?_
  show OwnEnd p e below s _ _ _ (s₁.setTop (mkF m 10 #[.val (.int p1), .val (.int p2), .val (.int p3), .val (.int p4), .val (.int p5), .val (.int p6), .val (.int (p1 &&& (268435455 : Int32))), .unset, .unset, .unset, .unset, .unset, .unset, .unset, .unset, .unset, .unset, .unset, .unset] [(.int (p2 &&& (268435455 : Int32)))]))
  refine OwnEnd.go (fun _ k => XS.istore X0.here hx rfl (hb hby at_10) rfl  (l' := #[.val (.int p1), .val (.int p2), .val (.int p3), .val (.int p4), .val (.int p5), .val (.int p6), .val (.int (p1 &&& (268435455 : Int32))), .val (.int (p2 &&& (268435455 : Int32))), .unset, .unset, .unset, .unset, .unset, .unset, .unset, .unset, .unset, .unset, .unset]) rfl k) ?_
  show OwnEnd p e below s _ _ _ (s₁.setTop (mkF m 12 #[.val (.int p1), .val (.int p2), .val (.int p3), .val (.int p4), .val (.int p5), .val (.int p6), .val (.int (p1 &&& (268435455 : Int32))), .val (.int (p2 &&& (268435455 : Int32))), .unset, .unset, .unset, .unset, .unset, .unset, .unset, .unset, .unset, .unset, .unset] []))
  refine OwnEnd.go (fun _ k => XS.iloadN X0.here hx rfl (hb hby at_12) rfl  k) ?_
  show OwnEnd p e below s _ _ _ (s₁.setTop (mkF m 13 #[.val (.int p1), .val (.int p2), .val (.int p3), .val (.int p4), .val (.int p5), .val (.int p6), .val (.int (p1 &&& (268435455 : Int32))), .val (.int (p2 &&& (268435455 : Int32))), .unset, .unset, .unset, .unset, .unset, .unset, .unset, .unset, .unset, .unset, .unset] [(.int p3)]))
  refine OwnEnd.go (fun _ k => X0.ldcI hx hown (mvT hZ ww0) (g := (mkF m 13 #[.val (.int p1), .val (.int p2), .val (.int p3), .val (.int p4), .val (.int p5), .val (.int p6), .val (.int (p1 &&& (268435455 : Int32))), .val (.int (p2 &&& (268435455 : Int32))), .unset, .unset, .unset, .unset, .unset, .unset, .unset, .unset, .unset, .unset, .unset] [(.int p3)])) rfl (hb hby at_13) k) ?_
  show OwnEnd p e below s _ _ _ (s₁.setTop (mkF m 15 #[.val (.int p1), .val (.int p2), .val (.int p3), .val (.int p4), .val (.int p5), .val (.int p6), .val (.int (p1 &&& (268435455 : Int32))), .val (.int (p2 &&& (268435455 : Int32))), .unset, .unset, .unset, .unset, .unset, .unset, .unset, .unset, .unset, .unset, .unset] [(.int (268435455 : Int32)), (.int p3)]))
  refine OwnEnd.go (fun _ k => XS.iand X0.here hx rfl (hb hby at_15) rfl k) ?_
  show OwnEnd p e below s _ _ _ (s₁.setTop (mkF m 16 #[.val (.int p1), .val (.int p2), .val (.int p3), .val (.int p4), .val (.int p5), .val (.int p6), .val (.int (p1 &&& (268435455 : Int32))), .val (.int (p2 &&& (268435455 : Int32))), .unset, .unset, .unset, .unset, .unset, .unset, .unset, .unset, .unset, .unset, .unset] [(.int (p3 &&& (268435455 : Int32)))]))
  refine OwnEnd.go (fun _ k => XS.istore X0.here hx rfl (hb hby at_16) rfl  (l' := #[.val (.int p1), .val (.int p2), .val (.int p3), .val (.int p4), .val (.int p5), .val (.int p6), .val (.int (p1 &&& (268435455 : Int32))), .val (.int (p2 &&& (268435455 : Int32))), .val (.int (p3 &&& (268435455 : Int32))), .unset, .unset, .unset, .unset, .unset, .unset, .unset, .unset, .unset, .unset]) rfl k) ?_
  show OwnEnd p e below s _ _ _ (s₁.setTop (mkF m 18 #[.val (.int p1), .val (.int p2), .val (.int p3), .val (.int p4), .val (.int p5), .val (.int p6), .val (.int (p1 &&& (268435455 : Int32))), .val (.int (p2 &&& (268435455 : Int32))), .val (.int (p3 &&& (268435455 : Int32))), .unset, .unset, .unset, .unset, .unset, .unset, .unset, .unset, .unset, .unset] []))
  refine OwnEnd.go (fun _ k => XS.iloadN X0.here hx rfl (hb hby at_18) rfl  k) ?_
  show OwnEnd p e below s _ _ _ (s₁.setTop (mkF m 19 #[.val (.int p1), .val (.int p2), .val (.int p3), .val (.int p4), .val (.int p5), .val (.int p6), .val (.int (p1 &&& (268435455 : Int32))), .val (.int (p2 &&& (268435455 : Int32))), .val (.int (p3 &&& (268435455 : Int32))), .unset, .unset, .unset, .unset, .unset, .unset, .unset, .unset, .unset, .unset] [(.int p4)]))
  refine OwnEnd.go (fun _ k => X0.ldcI hx hown (mvT hZ ww0) (g := (mkF m 19 #[.val (.int p1), .val (.int p2), .val (.int p3), .val (.int p4), .val (.int p5), .val (.int p6), .val (.int (p1 &&& (268435455 : Int32))), .val (.int (p2 &&& (268435455 : Int32))), .val (.int (p3 &&& (268435455 : Int32))), .unset, .unset, .unset, .unset, .unset, .unset, .unset, .unset, .unset, .unset] [(.int p4)])) rfl (hb hby at_19) k) ?_
  show OwnEnd p e below s _ _ _ (s₁.setTop (mkF m 21 #[.val (.int p1), .val (.int p2), .val (.int p3), .val (.int p4), .val (.int p5), .val (.int p6), .val (.int (p1 &&& (268435455 : Int32))), .val (.int (p2 &&& (268435455 : Int32))), .val (.int (p3 &&& (268435455 : Int32))), .unset, .unset, .unset, .unset, .unset, .unset, .unset, .unset, .unset, .unset] [(.int (268435455 : Int32)), (.int p4)]))
  refine OwnEnd.go (fun _ k => XS.iand X0.here hx rfl (hb hby at_21) rfl k) ?_
  show OwnEnd p e below s _ _ _ (s₁.setTop (mkF m 22 #[.val (.int p1), .val (.int p2), .val (.int p3), .val (.int p4), .val (.int p5), .val (.int p6), .val (.int (p1 &&& (268435455 : Int32))), .val (.int (p2 &&& (268435455 : Int32))), .val (.int (p3 &&& (268435455 : Int32))), .unset, .unset, .unset, .unset, .unset, .unset, .unset, .unset, .unset, .unset] [(.int (p4 &&& (268435455 : Int32)))]))
  refine OwnEnd.go (fun _ k => XS.istore X0.here hx rfl (hb hby at_22) rfl  (l' := #[.val (.int p1), .val (.int p2), .val (.int p3), .val (.int p4), .val (.int p5), .val (.int p6), .val (.int (p1 &&& (268435455 : Int32))), .val (.int (p2 &&& (268435455 : Int32))), .val (.int (p3 &&& (268435455 : Int32))), .val (.int (p4 &&& (268435455 : Int32))), .unset, .unset, .unset, .unset, .unset, .unset, .unset, .unset, .unset]) rfl k) ?_
  show OwnEnd p e below s _ _ _ (s₁.setTop (mkF m 24 #[.val (.int p1), .val (.int p2), .val (.int p3), .val (.int p4), .val (.int p5), .val (.int p6), .val (.int (p1 &&& (268435455 : Int32))), .val (.int (p2 &&& (268435455 : Int32))), .val (.int (p3 &&& (268435455 : Int32))), .val (.int (p4 &&& (268435455 : Int32))), .unset, .unset, .unset, .unset, .unset, .unset, .unset, .unset, .unset] []))
  refine OwnEnd.go (fun _ k => XS.iload X0.here hx rfl (hb hby at_24) rfl  k) ?_
  show OwnEnd p e below s _ _ _ (s₁.setTop (mkF m 26 #[.val (.int p1), .val (.int p2), .val (.int p3), .val (.int p4), .val (.int p5), .val (.int p6), .val (.int (p1 &&& (268435455 : Int32))), .val (.int (p2 &&& (268435455 : Int32))), .val (.int (p3 &&& (268435455 : Int32))), .val (.int (p4 &&& (268435455 : Int32))), .unset, .unset, .unset, .unset, .unset, .unset, .unset, .unset, .unset] [(.int p5)]))
  refine OwnEnd.go (fun _ k => X0.ldcI hx hown (mvT hZ ww0) (g := (mkF m 26 #[.val (.int p1), .val (.int p2), .val (.int p3), .val (.int p4), .val (.int p5), .val (.int p6), .val (.int (p1 &&& (268435455 : Int32))), .val (.int (p2 &&& (268435455 : Int32))), .val (.int (p3 &&& (268435455 : Int32))), .val (.int (p4 &&& (268435455 : Int32))), .unset, .unset, .unset, .unset, .unset, .unset, .unset, .unset, .unset] [(.int p5)])) rfl (hb hby at_26) k) ?_
  show OwnEnd p e below s _ _ _ (s₁.setTop (mkF m 28 #[.val (.int p1), .val (.int p2), .val (.int p3), .val (.int p4), .val (.int p5), .val (.int p6), .val (.int (p1 &&& (268435455 : Int32))), .val (.int (p2 &&& (268435455 : Int32))), .val (.int (p3 &&& (268435455 : Int32))), .val (.int (p4 &&& (268435455 : Int32))), .unset, .unset, .unset, .unset, .unset, .unset, .unset, .unset, .unset] [(.int (268435455 : Int32)), (.int p5)]))
  refine OwnEnd.go (fun _ k => XS.iand X0.here hx rfl (hb hby at_28) rfl k) ?_
  show OwnEnd p e below s _ _ _ (s₁.setTop (mkF m 29 #[.val (.int p1), .val (.int p2), .val (.int p3), .val (.int p4), .val (.int p5), .val (.int p6), .val (.int (p1 &&& (268435455 : Int32))), .val (.int (p2 &&& (268435455 : Int32))), .val (.int (p3 &&& (268435455 : Int32))), .val (.int (p4 &&& (268435455 : Int32))), .unset, .unset, .unset, .unset, .unset, .unset, .unset, .unset, .unset] [(.int (p5 &&& (268435455 : Int32)))]))
  refine OwnEnd.go (fun _ k => XS.istore X0.here hx rfl (hb hby at_29) rfl  (l' := #[.val (.int p1), .val (.int p2), .val (.int p3), .val (.int p4), .val (.int p5), .val (.int p6), .val (.int (p1 &&& (268435455 : Int32))), .val (.int (p2 &&& (268435455 : Int32))), .val (.int (p3 &&& (268435455 : Int32))), .val (.int (p4 &&& (268435455 : Int32))), .val (.int (p5 &&& (268435455 : Int32))), .unset, .unset, .unset, .unset, .unset, .unset, .unset, .unset]) rfl k) ?_
  show OwnEnd p e below s _ _ _ (s₁.setTop (mkF m 31 #[.val (.int p1), .val (.int p2), .val (.int p3), .val (.int p4), .val (.int p5), .val (.int p6), .val (.int (p1 &&& (268435455 : Int32))), .val (.int (p2 &&& (268435455 : Int32))), .val (.int (p3 &&& (268435455 : Int32))), .val (.int (p4 &&& (268435455 : Int32))), .val (.int (p5 &&& (268435455 : Int32))), .unset, .unset, .unset, .unset, .unset, .unset, .unset, .unset] []))
  refine OwnEnd.go (fun _ k => XS.iload X0.here hx rfl (hb hby at_31) rfl  k) ?_
  show OwnEnd p e below s _ _ _ (s₁.setTop (mkF m 33 #[.val (.int p1), .val (.int p2), .val (.int p3), .val (.int p4), .val (.int p5), .val (.int p6), .val (.int (p1 &&& (268435455 : Int32))), .val (.int (p2 &&& (268435455 : Int32))), .val (.int (p3 &&& (268435455 : Int32))), .val (.int (p4 &&& (268435455 : Int32))), .val (.int (p5 &&& (268435455 : Int32))), .unset, .unset, .unset, .unset, .unset, .unset, .unset, .unset] [(.int p6)]))
  refine OwnEnd.go (fun _ k => XS.iconst X0.here hx rfl (hb hby at_33) k) ?_
  show OwnEnd p e below s _ _ _ (s₁.setTop (mkF m 34 #[.val (.int p1), .val (.int p2), .val (.int p3), .val (.int p4), .val (.int p5), .val (.int p6), .val (.int (p1 &&& (268435455 : Int32))), .val (.int (p2 &&& (268435455 : Int32))), .val (.int (p3 &&& (268435455 : Int32))), .val (.int (p4 &&& (268435455 : Int32))), .val (.int (p5 &&& (268435455 : Int32))), .unset, .unset, .unset, .unset, .unset, .unset, .unset, .unset] [(.int (1 : Int32)), (.int p6)]))
  refine OwnEnd.go (fun _ k => XS.iand X0.here hx rfl (hb hby at_34) rfl k) ?_
  show OwnEnd p e below s _ _ _ (s₁.setTop (mkF m 35 #[.val (.int p1), .val (.int p2), .val (.int p3), .val (.int p4), .val (.int p5), .val (.int p6), .val (.int (p1 &&& (268435455 : Int32))), .val (.int (p2 &&& (268435455 : Int32))), .val (.int (p3 &&& (268435455 : Int32))), .val (.int (p4 &&& (268435455 : Int32))), .val (.int (p5 &&& (268435455 : Int32))), .unset, .unset, .unset, .unset, .unset, .unset, .unset, .unset] [(.int (p6 &&& (1 : Int32)))]))
  have D101 : ownDia X0 h0 (fun v : Int32 => True) (fun v => (mkF m 43 #[.val (.int p1), .val (.int p2), .val (.int p3), .val (.int p4), .val (.int p5), .val (.int p6), .val (.int (p1 &&& (268435455 : Int32))), .val (.int (p2 &&& (268435455 : Int32))), .val (.int (p3 &&& (268435455 : Int32))), .val (.int (p4 &&& (268435455 : Int32))), .val (.int (p5 &&& (268435455 : Int32))), .unset, .unset, .unset, .unset, .unset, .unset, .unset, .unset] [(.int v)])) (mkF m 35 #[.val (.int p1), .val (.int p2), .val (.int p3), .val (.int p4), .val (.int p5), .val (.int p6), .val (.int (p1 &&& (268435455 : Int32))), .val (.int (p2 &&& (268435455 : Int32))), .val (.int (p3 &&& (268435455 : Int32))), .val (.int (p4 &&& (268435455 : Int32))), .val (.int (p5 &&& (268435455 : Int32))), .unset, .unset, .unset, .unset, .unset, .unset, .unset, .unset] [(.int (p6 &&& (1 : Int32)))]) := by
    by_cases hc : (p6 &&& (1 : Int32)) = (0 : Int32)
    · refine ⟨_, (0 : Int32), X0, e0, trivial, fun t k => ?_⟩
      refine XS.ifYes X0.here hx rfl (pc0 := 35) (pc' := 42) rfl (hb hby at_35) rfl ((if0 _ _).trans (teq hc).1) (by decide) (by decide) ?_
      show Steps p.tables e below (s₁.setTop (mkF m 42 #[.val (.int p1), .val (.int p2), .val (.int p3), .val (.int p4), .val (.int p5), .val (.int p6), .val (.int (p1 &&& (268435455 : Int32))), .val (.int (p2 &&& (268435455 : Int32))), .val (.int (p3 &&& (268435455 : Int32))), .val (.int (p4 &&& (268435455 : Int32))), .val (.int (p5 &&& (268435455 : Int32))), .unset, .unset, .unset, .unset, .unset, .unset, .unset, .unset] [])) _
      refine XS.iconst X0.here hx rfl (hb hby at_42) ?_
      show Steps p.tables e below (s₁.setTop (mkF m 43 #[.val (.int p1), .val (.int p2), .val (.int p3), .val (.int p4), .val (.int p5), .val (.int p6), .val (.int (p1 &&& (268435455 : Int32))), .val (.int (p2 &&& (268435455 : Int32))), .val (.int (p3 &&& (268435455 : Int32))), .val (.int (p4 &&& (268435455 : Int32))), .val (.int (p5 &&& (268435455 : Int32))), .unset, .unset, .unset, .unset, .unset, .unset, .unset, .unset] [(.int (0 : Int32))])) _
      exact k
    · refine ⟨_, (1 : Int32), X0, e0, trivial, fun t k => ?_⟩
      refine XS.ifNo X0.here hx rfl (hb hby at_35) rfl ((if0 _ _).trans (feq hc).1) ?_
      show Steps p.tables e below (s₁.setTop (mkF m 38 #[.val (.int p1), .val (.int p2), .val (.int p3), .val (.int p4), .val (.int p5), .val (.int p6), .val (.int (p1 &&& (268435455 : Int32))), .val (.int (p2 &&& (268435455 : Int32))), .val (.int (p3 &&& (268435455 : Int32))), .val (.int (p4 &&& (268435455 : Int32))), .val (.int (p5 &&& (268435455 : Int32))), .unset, .unset, .unset, .unset, .unset, .unset, .unset, .unset] [])) _
      refine XS.iconst X0.here hx rfl (hb hby at_38) ?_
      show Steps p.tables e below (s₁.setTop (mkF m 39 #[.val (.int p1), .val (.int p2), .val (.int p3), .val (.int p4), .val (.int p5), .val (.int p6), .val (.int (p1 &&& (268435455 : Int32))), .val (.int (p2 &&& (268435455 : Int32))), .val (.int (p3 &&& (268435455 : Int32))), .val (.int (p4 &&& (268435455 : Int32))), .val (.int (p5 &&& (268435455 : Int32))), .unset, .unset, .unset, .unset, .unset, .unset, .unset, .unset] [(.int (1 : Int32))])) _
      refine XS.goto X0.here hx rfl (pc0 := 39) (pc' := 43) rfl (hb hby at_39) (by decide) (by decide) ?_
      show Steps p.tables e below (s₁.setTop (mkF m 43 #[.val (.int p1), .val (.int p2), .val (.int p3), .val (.int p4), .val (.int p5), .val (.int p6), .val (.int (p1 &&& (268435455 : Int32))), .val (.int (p2 &&& (268435455 : Int32))), .val (.int (p3 &&& (268435455 : Int32))), .val (.int (p4 &&& (268435455 : Int32))), .val (.int (p5 &&& (268435455 : Int32))), .unset, .unset, .unset, .unset, .unset, .unset, .unset, .unset] [(.int (1 : Int32))])) _
      exact k
  obtain ⟨T101, v101, X101, e101, P101, st101⟩ := D101
  refine OwnEnd.go st101 ?_
  show OwnEnd p e below s _ _ _ (T101.setTop (mkF m 43 #[.val (.int p1), .val (.int p2), .val (.int p3), .val (.int p4), .val (.int p5), .val (.int p6), .val (.int (p1 &&& (268435455 : Int32))), .val (.int (p2 &&& (268435455 : Int32))), .val (.int (p3 &&& (268435455 : Int32))), .val (.int (p4 &&& (268435455 : Int32))), .val (.int (p5 &&& (268435455 : Int32))), .unset, .unset, .unset, .unset, .unset, .unset, .unset, .unset] [(.int v101)]))
  refine OwnEnd.go (fun _ k => XS.istore X101.here hx rfl (hb hby at_43) rfl  (l' := #[.val (.int p1), .val (.int p2), .val (.int p3), .val (.int p4), .val (.int p5), .val (.int p6), .val (.int (p1 &&& (268435455 : Int32))), .val (.int (p2 &&& (268435455 : Int32))), .val (.int (p3 &&& (268435455 : Int32))), .val (.int (p4 &&& (268435455 : Int32))), .val (.int (p5 &&& (268435455 : Int32))), .val (.int v101), .unset, .unset, .unset, .unset, .unset, .unset, .unset]) rfl k) ?_
  show OwnEnd p e below s _ _ _ (T101.setTop (mkF m 45 #[.val (.int p1), .val (.int p2), .val (.int p3), .val (.int p4), .val (.int p5), .val (.int p6), .val (.int (p1 &&& (268435455 : Int32))), .val (.int (p2 &&& (268435455 : Int32))), .val (.int (p3 &&& (268435455 : Int32))), .val (.int (p4 &&& (268435455 : Int32))), .val (.int (p5 &&& (268435455 : Int32))), .val (.int v101), .unset, .unset, .unset, .unset, .unset, .unset, .unset] []))
  refine OwnEnd.go (fun _ k => XS.iload X101.here hx rfl (hb hby at_45) rfl  k) ?_
  show OwnEnd p e below s _ _ _ (T101.setTop (mkF m 47 #[.val (.int p1), .val (.int p2), .val (.int p3), .val (.int p4), .val (.int p5), .val (.int p6), .val (.int (p1 &&& (268435455 : Int32))), .val (.int (p2 &&& (268435455 : Int32))), .val (.int (p3 &&& (268435455 : Int32))), .val (.int (p4 &&& (268435455 : Int32))), .val (.int (p5 &&& (268435455 : Int32))), .val (.int v101), .unset, .unset, .unset, .unset, .unset, .unset, .unset] [(.int p6)]))
  refine OwnEnd.go (fun _ k => XS.iconst X101.here hx rfl (hb hby at_47) k) ?_
  show OwnEnd p e below s _ _ _ (T101.setTop (mkF m 48 #[.val (.int p1), .val (.int p2), .val (.int p3), .val (.int p4), .val (.int p5), .val (.int p6), .val (.int (p1 &&& (268435455 : Int32))), .val (.int (p2 &&& (268435455 : Int32))), .val (.int (p3 &&& (268435455 : Int32))), .val (.int (p4 &&& (268435455 : Int32))), .val (.int (p5 &&& (268435455 : Int32))), .val (.int v101), .unset, .unset, .unset, .unset, .unset, .unset, .unset] [(.int (2 : Int32)), (.int p6)]))
  refine OwnEnd.go (fun _ k => XS.iand X101.here hx rfl (hb hby at_48) rfl k) ?_
  show OwnEnd p e below s _ _ _ (T101.setTop (mkF m 49 #[.val (.int p1), .val (.int p2), .val (.int p3), .val (.int p4), .val (.int p5), .val (.int p6), .val (.int (p1 &&& (268435455 : Int32))), .val (.int (p2 &&& (268435455 : Int32))), .val (.int (p3 &&& (268435455 : Int32))), .val (.int (p4 &&& (268435455 : Int32))), .val (.int (p5 &&& (268435455 : Int32))), .val (.int v101), .unset, .unset, .unset, .unset, .unset, .unset, .unset] [(.int (p6 &&& (2 : Int32)))]))
  have D102 : ownDia X101 h0 (fun v : Int32 => True) (fun v => (mkF m 57 #[.val (.int p1), .val (.int p2), .val (.int p3), .val (.int p4), .val (.int p5), .val (.int p6), .val (.int (p1 &&& (268435455 : Int32))), .val (.int (p2 &&& (268435455 : Int32))), .val (.int (p3 &&& (268435455 : Int32))), .val (.int (p4 &&& (268435455 : Int32))), .val (.int (p5 &&& (268435455 : Int32))), .val (.int v101), .unset, .unset, .unset, .unset, .unset, .unset, .unset] [(.int v)])) (mkF m 49 #[.val (.int p1), .val (.int p2), .val (.int p3), .val (.int p4), .val (.int p5), .val (.int p6), .val (.int (p1 &&& (268435455 : Int32))), .val (.int (p2 &&& (268435455 : Int32))), .val (.int (p3 &&& (268435455 : Int32))), .val (.int (p4 &&& (268435455 : Int32))), .val (.int (p5 &&& (268435455 : Int32))), .val (.int v101), .unset, .unset, .unset, .unset, .unset, .unset, .unset] [(.int (p6 &&& (2 : Int32)))]) := by
    by_cases hc : (p6 &&& (2 : Int32)) = (0 : Int32)
    · refine ⟨_, (0 : Int32), X101, e101, trivial, fun t k => ?_⟩
      refine XS.ifYes X101.here hx rfl (pc0 := 49) (pc' := 56) rfl (hb hby at_49) rfl ((if0 _ _).trans (teq hc).1) (by decide) (by decide) ?_
      show Steps p.tables e below (T101.setTop (mkF m 56 #[.val (.int p1), .val (.int p2), .val (.int p3), .val (.int p4), .val (.int p5), .val (.int p6), .val (.int (p1 &&& (268435455 : Int32))), .val (.int (p2 &&& (268435455 : Int32))), .val (.int (p3 &&& (268435455 : Int32))), .val (.int (p4 &&& (268435455 : Int32))), .val (.int (p5 &&& (268435455 : Int32))), .val (.int v101), .unset, .unset, .unset, .unset, .unset, .unset, .unset] [])) _
      refine XS.iconst X101.here hx rfl (hb hby at_56) ?_
      show Steps p.tables e below (T101.setTop (mkF m 57 #[.val (.int p1), .val (.int p2), .val (.int p3), .val (.int p4), .val (.int p5), .val (.int p6), .val (.int (p1 &&& (268435455 : Int32))), .val (.int (p2 &&& (268435455 : Int32))), .val (.int (p3 &&& (268435455 : Int32))), .val (.int (p4 &&& (268435455 : Int32))), .val (.int (p5 &&& (268435455 : Int32))), .val (.int v101), .unset, .unset, .unset, .unset, .unset, .unset, .unset] [(.int (0 : Int32))])) _
      exact k
    · refine ⟨_, (1 : Int32), X101, e101, trivial, fun t k => ?_⟩
      refine XS.ifNo X101.here hx rfl (hb hby at_49) rfl ((if0 _ _).trans (feq hc).1) ?_
      show Steps p.tables e below (T101.setTop (mkF m 52 #[.val (.int p1), .val (.int p2), .val (.int p3), .val (.int p4), .val (.int p5), .val (.int p6), .val (.int (p1 &&& (268435455 : Int32))), .val (.int (p2 &&& (268435455 : Int32))), .val (.int (p3 &&& (268435455 : Int32))), .val (.int (p4 &&& (268435455 : Int32))), .val (.int (p5 &&& (268435455 : Int32))), .val (.int v101), .unset, .unset, .unset, .unset, .unset, .unset, .unset] [])) _
      refine XS.iconst X101.here hx rfl (hb hby at_52) ?_
      show Steps p.tables e below (T101.setTop (mkF m 53 #[.val (.int p1), .val (.int p2), .val (.int p3), .val (.int p4), .val (.int p5), .val (.int p6), .val (.int (p1 &&& (268435455 : Int32))), .val (.int (p2 &&& (268435455 : Int32))), .val (.int (p3 &&& (268435455 : Int32))), .val (.int (p4 &&& (268435455 : Int32))), .val (.int (p5 &&& (268435455 : Int32))), .val (.int v101), .unset, .unset, .unset, .unset, .unset, .unset, .unset] [(.int (1 : Int32))])) _
      refine XS.goto X101.here hx rfl (pc0 := 53) (pc' := 57) rfl (hb hby at_53) (by decide) (by decide) ?_
      show Steps p.tables e below (T101.setTop (mkF m 57 #[.val (.int p1), .val (.int p2), .val (.int p3), .val (.int p4), .val (.int p5), .val (.int p6), .val (.int (p1 &&& (268435455 : Int32))), .val (.int (p2 &&& (268435455 : Int32))), .val (.int (p3 &&& (268435455 : Int32))), .val (.int (p4 &&& (268435455 : Int32))), .val (.int (p5 &&& (268435455 : Int32))), .val (.int v101), .unset, .unset, .unset, .unset, .unset, .unset, .unset] [(.int (1 : Int32))])) _
      exact k
  obtain ⟨T102, v102, X102, e102, P102, st102⟩ := D102
  refine OwnEnd.go st102 ?_
  show OwnEnd p e below s _ _ _ (T102.setTop (mkF m 57 #[.val (.int p1), .val (.int p2), .val (.int p3), .val (.int p4), .val (.int p5), .val (.int p6), .val (.int (p1 &&& (268435455 : Int32))), .val (.int (p2 &&& (268435455 : Int32))), .val (.int (p3 &&& (268435455 : Int32))), .val (.int (p4 &&& (268435455 : Int32))), .val (.int (p5 &&& (268435455 : Int32))), .val (.int v101), .unset, .unset, .unset, .unset, .unset, .unset, .unset] [(.int v102)]))
  refine OwnEnd.go (fun _ k => XS.istore X102.here hx rfl (hb hby at_57) rfl  (l' := #[.val (.int p1), .val (.int p2), .val (.int p3), .val (.int p4), .val (.int p5), .val (.int p6), .val (.int (p1 &&& (268435455 : Int32))), .val (.int (p2 &&& (268435455 : Int32))), .val (.int (p3 &&& (268435455 : Int32))), .val (.int (p4 &&& (268435455 : Int32))), .val (.int (p5 &&& (268435455 : Int32))), .val (.int v101), .val (.int v102), .unset, .unset, .unset, .unset, .unset, .unset]) rfl k) ?_
  show OwnEnd p e below s _ _ _ (T102.setTop (mkF m 59 #[.val (.int p1), .val (.int p2), .val (.int p3), .val (.int p4), .val (.int p5), .val (.int p6), .val (.int (p1 &&& (268435455 : Int32))), .val (.int (p2 &&& (268435455 : Int32))), .val (.int (p3 &&& (268435455 : Int32))), .val (.int (p4 &&& (268435455 : Int32))), .val (.int (p5 &&& (268435455 : Int32))), .val (.int v101), .val (.int v102), .unset, .unset, .unset, .unset, .unset, .unset] []))
  refine OwnEnd.go (fun _ k => XS.iload X102.here hx rfl (hb hby at_59) rfl  k) ?_
  show OwnEnd p e below s _ _ _ (T102.setTop (mkF m 61 #[.val (.int p1), .val (.int p2), .val (.int p3), .val (.int p4), .val (.int p5), .val (.int p6), .val (.int (p1 &&& (268435455 : Int32))), .val (.int (p2 &&& (268435455 : Int32))), .val (.int (p3 &&& (268435455 : Int32))), .val (.int (p4 &&& (268435455 : Int32))), .val (.int (p5 &&& (268435455 : Int32))), .val (.int v101), .val (.int v102), .unset, .unset, .unset, .unset, .unset, .unset] [(.int p6)]))
  refine OwnEnd.go (fun _ k => XS.iconst X102.here hx rfl (hb hby at_61) k) ?_
  show OwnEnd p e below s _ _ _ (T102.setTop (mkF m 62 #[.val (.int p1), .val (.int p2), .val (.int p3), .val (.int p4), .val (.int p5), .val (.int p6), .val (.int (p1 &&& (268435455 : Int32))), .val (.int (p2 &&& (268435455 : Int32))), .val (.int (p3 &&& (268435455 : Int32))), .val (.int (p4 &&& (268435455 : Int32))), .val (.int (p5 &&& (268435455 : Int32))), .val (.int v101), .val (.int v102), .unset, .unset, .unset, .unset, .unset, .unset] [(.int (4 : Int32)), (.int p6)]))
  refine OwnEnd.go (fun _ k => XS.iand X102.here hx rfl (hb hby at_62) rfl k) ?_
  show OwnEnd p e below s _ _ _ (T102.setTop (mkF m 63 #[.val (.int p1), .val (.int p2), .val (.int p3), .val (.int p4), .val (.int p5), .val (.int p6), .val (.int (p1 &&& (268435455 : Int32))), .val (.int (p2 &&& (268435455 : Int32))), .val (.int (p3 &&& (268435455 : Int32))), .val (.int (p4 &&& (268435455 : Int32))), .val (.int (p5 &&& (268435455 : Int32))), .val (.int v101), .val (.int v102), .unset, .unset, .unset, .unset, .unset, .unset] [(.int (p6 &&& (4 : Int32)))]))
  have D103 : ownDia X102 h0 (fun v : Int32 => True) (fun v => (mkF m 71 #[.val (.int p1), .val (.int p2), .val (.int p3), .val (.int p4), .val (.int p5), .val (.int p6), .val (.int (p1 &&& (268435455 : Int32))), .val (.int (p2 &&& (268435455 : Int32))), .val (.int (p3 &&& (268435455 : Int32))), .val (.int (p4 &&& (268435455 : Int32))), .val (.int (p5 &&& (268435455 : Int32))), .val (.int v101), .val (.int v102), .unset, .unset, .unset, .unset, .unset, .unset] [(.int v)])) (mkF m 63 #[.val (.int p1), .val (.int p2), .val (.int p3), .val (.int p4), .val (.int p5), .val (.int p6), .val (.int (p1 &&& (268435455 : Int32))), .val (.int (p2 &&& (268435455 : Int32))), .val (.int (p3 &&& (268435455 : Int32))), .val (.int (p4 &&& (268435455 : Int32))), .val (.int (p5 &&& (268435455 : Int32))), .val (.int v101), .val (.int v102), .unset, .unset, .unset, .unset, .unset, .unset] [(.int (p6 &&& (4 : Int32)))]) := by
    by_cases hc : (p6 &&& (4 : Int32)) = (0 : Int32)
    · refine ⟨_, (0 : Int32), X102, e102, trivial, fun t k => ?_⟩
      refine XS.ifYes X102.here hx rfl (pc0 := 63) (pc' := 70) rfl (hb hby at_63) rfl ((if0 _ _).trans (teq hc).1) (by decide) (by decide) ?_
      show Steps p.tables e below (T102.setTop (mkF m 70 #[.val (.int p1), .val (.int p2), .val (.int p3), .val (.int p4), .val (.int p5), .val (.int p6), .val (.int (p1 &&& (268435455 : Int32))), .val (.int (p2 &&& (268435455 : Int32))), .val (.int (p3 &&& (268435455 : Int32))), .val (.int (p4 &&& (268435455 : Int32))), .val (.int (p5 &&& (268435455 : Int32))), .val (.int v101), .val (.int v102), .unset, .unset, .unset, .unset, .unset, .unset] [])) _
      refine XS.iconst X102.here hx rfl (hb hby at_70) ?_
      show Steps p.tables e below (T102.setTop (mkF m 71 #[.val (.int p1), .val (.int p2), .val (.int p3), .val (.int p4), .val (.int p5), .val (.int p6), .val (.int (p1 &&& (268435455 : Int32))), .val (.int (p2 &&& (268435455 : Int32))), .val (.int (p3 &&& (268435455 : Int32))), .val (.int (p4 &&& (268435455 : Int32))), .val (.int (p5 &&& (268435455 : Int32))), .val (.int v101), .val (.int v102), .unset, .unset, .unset, .unset, .unset, .unset] [(.int (0 : Int32))])) _
      exact k
    · refine ⟨_, (1 : Int32), X102, e102, trivial, fun t k => ?_⟩
      refine XS.ifNo X102.here hx rfl (hb hby at_63) rfl ((if0 _ _).trans (feq hc).1) ?_
      show Steps p.tables e below (T102.setTop (mkF m 66 #[.val (.int p1), .val (.int p2), .val (.int p3), .val (.int p4), .val (.int p5), .val (.int p6), .val (.int (p1 &&& (268435455 : Int32))), .val (.int (p2 &&& (268435455 : Int32))), .val (.int (p3 &&& (268435455 : Int32))), .val (.int (p4 &&& (268435455 : Int32))), .val (.int (p5 &&& (268435455 : Int32))), .val (.int v101), .val (.int v102), .unset, .unset, .unset, .unset, .unset, .unset] [])) _
      refine XS.iconst X102.here hx rfl (hb hby at_66) ?_
      show Steps p.tables e below (T102.setTop (mkF m 67 #[.val (.int p1), .val (.int p2), .val (.int p3), .val (.int p4), .val (.int p5), .val (.int p6), .val (.int (p1 &&& (268435455 : Int32))), .val (.int (p2 &&& (268435455 : Int32))), .val (.int (p3 &&& (268435455 : Int32))), .val (.int (p4 &&& (268435455 : Int32))), .val (.int (p5 &&& (268435455 : Int32))), .val (.int v101), .val (.int v102), .unset, .unset, .unset, .unset, .unset, .unset] [(.int (1 : Int32))])) _
      refine XS.goto X102.here hx rfl (pc0 := 67) (pc' := 71) rfl (hb hby at_67) (by decide) (by decide) ?_
      show Steps p.tables e below (T102.setTop (mkF m 71 #[.val (.int p1), .val (.int p2), .val (.int p3), .val (.int p4), .val (.int p5), .val (.int p6), .val (.int (p1 &&& (268435455 : Int32))), .val (.int (p2 &&& (268435455 : Int32))), .val (.int (p3 &&& (268435455 : Int32))), .val (.int (p4 &&& (268435455 : Int32))), .val (.int (p5 &&& (268435455 : Int32))), .val (.int v101), .val (.int v102), .unset, .unset, .unset, .unset, .unset, .unset] [(.int (1 : Int32))])) _
      exact k
  obtain ⟨T103, v103, X103, e103, P103, st103⟩ := D103
  refine OwnEnd.go st103 ?_
  show OwnEnd p e below s _ _ _ (T103.setTop (mkF m 71 #[.val (.int p1), .val (.int p2), .val (.int p3), .val (.int p4), .val (.int p5), .val (.int p6), .val (.int (p1 &&& (268435455 : Int32))), .val (.int (p2 &&& (268435455 : Int32))), .val (.int (p3 &&& (268435455 : Int32))), .val (.int (p4 &&& (268435455 : Int32))), .val (.int (p5 &&& (268435455 : Int32))), .val (.int v101), .val (.int v102), .unset, .unset, .unset, .unset, .unset, .unset] [(.int v103)]))
  refine OwnEnd.go (fun _ k => XS.istore X103.here hx rfl (hb hby at_71) rfl  (l' := #[.val (.int p1), .val (.int p2), .val (.int p3), .val (.int p4), .val (.int p5), .val (.int p6), .val (.int (p1 &&& (268435455 : Int32))), .val (.int (p2 &&& (268435455 : Int32))), .val (.int (p3 &&& (268435455 : Int32))), .val (.int (p4 &&& (268435455 : Int32))), .val (.int (p5 &&& (268435455 : Int32))), .val (.int v101), .val (.int v102), .val (.int v103), .unset, .unset, .unset, .unset, .unset]) rfl k) ?_
  show OwnEnd p e below s _ _ _ (T103.setTop (mkF m 73 #[.val (.int p1), .val (.int p2), .val (.int p3), .val (.int p4), .val (.int p5), .val (.int p6), .val (.int (p1 &&& (268435455 : Int32))), .val (.int (p2 &&& (268435455 : Int32))), .val (.int (p3 &&& (268435455 : Int32))), .val (.int (p4 &&& (268435455 : Int32))), .val (.int (p5 &&& (268435455 : Int32))), .val (.int v101), .val (.int v102), .val (.int v103), .unset, .unset, .unset, .unset, .unset] []))
  obtain ⟨T104, h104, X104, e104, E104, A104, D104, -, st104⟩ := newO X103 hx hZ hown ww1 ww2 ww3 e103 (g := (mkF m 73 #[.val (.int p1), .val (.int p2), .val (.int p3), .val (.int p4), .val (.int p5), .val (.int p6), .val (.int (p1 &&& (268435455 : Int32))), .val (.int (p2 &&& (268435455 : Int32))), .val (.int (p3 &&& (268435455 : Int32))), .val (.int (p4 &&& (268435455 : Int32))), .val (.int (p5 &&& (268435455 : Int32))), .val (.int v101), .val (.int v102), .val (.int v103), .unset, .unset, .unset, .unset, .unset] [])) rfl (hb hby at_73) (by decide) (by decide)
  obtain ⟨b104, g104⟩ : ∃ z, z = h0.size := ⟨_, rfl⟩
  rw [← g104] at A104 D104 st104
  have u104 : n0 ≤ b104 := Nat.le_trans Z0 (Nat.le_of_eq g104.symm)
  have v104 : h0.size ≤ b104 := Nat.le_trans K0.1 (Nat.le_of_eq g104.symm)
  have K104 := K0.ext E104
  have Y104 := Nat.le_trans Z0 E104.1
  have O104 := O0.ext E104
  have F105 : Fld Z h104 b104 "com/example/rewoven_tree/rewoventree/storage/TableShape" "open" "[I" .null := D104 (Or.inl ww12) (ty := (.array .int)) (by decide)
  have F106 : Fld Z h104 b104 "com/example/rewoven_tree/rewoventree/storage/TableShape" "attributes" "[I" .null := D104 (Or.inl ww14) (ty := (.array .int)) (by decide)
  have F107 : Fld Z h104 b104 "com/example/rewoven_tree/rewoventree/storage/TableShape" "rowCount" "I" (.int (0 : Int32)) := D104 (Or.inl ww21) (ty := .int) (by decide)
  have F108 : Fld Z h104 b104 "com/example/rewoven_tree/rewoventree/storage/TableShape" "depth" "I" (.int (0 : Int32)) := D104 (Or.inl ww36) (ty := .int) (by decide)
  have F109 : Fld Z h104 b104 "com/example/rewoven_tree/rewoventree/storage/TableShape" "distance" "I" (.int (0 : Int32)) := D104 (Or.inl ww38) (ty := .int) (by decide)
  have F110 : Fld Z h104 b104 "com/example/rewoven_tree/rewoventree/storage/TableShape" "endedRow" "I" (.int (0 : Int32)) := D104 (Or.inl ww56) (ty := .int) (by decide)
  have F111 : Fld Z h104 b104 "com/example/rewoven_tree/rewoventree/storage/TableShape" "endedSize" "I" (.int (0 : Int32)) := D104 (Or.inl ww58) (ty := .int) (by decide)
  have F112 : Fld Z h104 b104 "com/example/rewoven_tree/rewoventree/storage/TableShape" "endedAttributes" "I" (.int (0 : Int32)) := D104 (Or.inl ww60) (ty := .int) (by decide)
  refine OwnEnd.go (fun _ k => st104 _ k) ?_
  show OwnEnd p e below s _ _ _ (T104.setTop (mkF m 76 #[.val (.int p1), .val (.int p2), .val (.int p3), .val (.int p4), .val (.int p5), .val (.int p6), .val (.int (p1 &&& (268435455 : Int32))), .val (.int (p2 &&& (268435455 : Int32))), .val (.int (p3 &&& (268435455 : Int32))), .val (.int (p4 &&& (268435455 : Int32))), .val (.int (p5 &&& (268435455 : Int32))), .val (.int v101), .val (.int v102), .val (.int v103), .unset, .unset, .unset, .unset, .unset] [(.ref b104)]))
  refine OwnEnd.go (fun _ k => XS.dup X104.here hx rfl (hb hby at_76) rfl rfl k) ?_
  show OwnEnd p e below s _ _ _ (T104.setTop (mkF m 77 #[.val (.int p1), .val (.int p2), .val (.int p3), .val (.int p4), .val (.int p5), .val (.int p6), .val (.int (p1 &&& (268435455 : Int32))), .val (.int (p2 &&& (268435455 : Int32))), .val (.int (p3 &&& (268435455 : Int32))), .val (.int (p4 &&& (268435455 : Int32))), .val (.int (p5 &&& (268435455 : Int32))), .val (.int v101), .val (.int v102), .val (.int v103), .unset, .unset, .unset, .unset, .unset] [(.ref b104), (.ref b104)]))
  obtain ⟨_, T113, L113, X113, hQ113, st113⟩ := ownCallI X104 hx hZ hown rfl ww4 ww5 ww3 ww6 (by decide) (rm1 l Z a0 hw [] b104 h104 n0 Y104  F105 F106 F107 F108 F109 F110 F111 F112 A104 u104) e104 (b := b104) 1 (by decide) (by decide) (by decide) (by decide) (g := (mkF m 77 #[.val (.int p1), .val (.int p2), .val (.int p3), .val (.int p4), .val (.int p5), .val (.int p6), .val (.int (p1 &&& (268435455 : Int32))), .val (.int (p2 &&& (268435455 : Int32))), .val (.int (p3 &&& (268435455 : Int32))), .val (.int (p4 &&& (268435455 : Int32))), .val (.int (p5 &&& (268435455 : Int32))), .val (.int v101), .val (.int v102), .val (.int v103), .unset, .unset, .unset, .unset, .unset] [(.ref b104), (.ref b104)])) rfl (by rw [hml]; rfl) (argsL := []) (rest := [(.ref b104)]) (lenOf pd0_0 rfl) rfl rfl (by show 2 * 0 + _ ≤ _; exact Nat.le_of_eq rfl) (hb hby at_77)
  obtain ⟨y119, y120, hQ113⟩ := hQ113
  obtain ⟨rfl, N113q, K113q, P114, P115, P116, P117, P118⟩ := hQ113
  have N113 := Fr.app N0 N113q
  have F121 := A104.keep K113q
  have K113 := K104.trans K113q (allS (Or.inr v104) all0)
  have Y113 := Nat.le_trans Y104 K113q.1
  have O113 := O104.keep K113q (allS u104 all0)
  refine OwnEnd.go (fun _ k => st113 _ k) ?_
  show OwnEnd p e below s _ _ _ (T113.setTop (mkF m 80 #[.val (.int p1), .val (.int p2), .val (.int p3), .val (.int p4), .val (.int p5), .val (.int p6), .val (.int (p1 &&& (268435455 : Int32))), .val (.int (p2 &&& (268435455 : Int32))), .val (.int (p3 &&& (268435455 : Int32))), .val (.int (p4 &&& (268435455 : Int32))), .val (.int (p5 &&& (268435455 : Int32))), .val (.int v101), .val (.int v102), .val (.int v103), .unset, .unset, .unset, .unset, .unset] [(.ref b104)]))
  refine OwnEnd.go (fun _ k => XS.astore X113.here hx rfl (hb hby at_80) rfl rfl (l' := #[.val (.int p1), .val (.int p2), .val (.int p3), .val (.int p4), .val (.int p5), .val (.int p6), .val (.int (p1 &&& (268435455 : Int32))), .val (.int (p2 &&& (268435455 : Int32))), .val (.int (p3 &&& (268435455 : Int32))), .val (.int (p4 &&& (268435455 : Int32))), .val (.int (p5 &&& (268435455 : Int32))), .val (.int v101), .val (.int v102), .val (.int v103), .val (.ref b104), .unset, .unset, .unset, .unset]) rfl k) ?_
  show OwnEnd p e below s _ _ _ (T113.setTop (mkF m 82 #[.val (.int p1), .val (.int p2), .val (.int p3), .val (.int p4), .val (.int p5), .val (.int p6), .val (.int (p1 &&& (268435455 : Int32))), .val (.int (p2 &&& (268435455 : Int32))), .val (.int (p3 &&& (268435455 : Int32))), .val (.int (p4 &&& (268435455 : Int32))), .val (.int (p5 &&& (268435455 : Int32))), .val (.int v101), .val (.int v102), .val (.int v103), .val (.ref b104), .unset, .unset, .unset, .unset] []))
  refine OwnEnd.go (fun _ k => XS.aload X113.here hx rfl (hb hby at_82) rfl rfl k) ?_
  show OwnEnd p e below s _ _ _ (T113.setTop (mkF m 84 #[.val (.int p1), .val (.int p2), .val (.int p3), .val (.int p4), .val (.int p5), .val (.int p6), .val (.int (p1 &&& (268435455 : Int32))), .val (.int (p2 &&& (268435455 : Int32))), .val (.int (p3 &&& (268435455 : Int32))), .val (.int (p4 &&& (268435455 : Int32))), .val (.int (p5 &&& (268435455 : Int32))), .val (.int v101), .val (.int v102), .val (.int v103), .val (.ref b104), .unset, .unset, .unset, .unset] [(.ref b104)]))
  refine OwnEnd.go (fun _ k => XS.iload X113.here hx rfl (hb hby at_84) rfl  k) ?_
  show OwnEnd p e below s _ _ _ (T113.setTop (mkF m 86 #[.val (.int p1), .val (.int p2), .val (.int p3), .val (.int p4), .val (.int p5), .val (.int p6), .val (.int (p1 &&& (268435455 : Int32))), .val (.int (p2 &&& (268435455 : Int32))), .val (.int (p3 &&& (268435455 : Int32))), .val (.int (p4 &&& (268435455 : Int32))), .val (.int (p5 &&& (268435455 : Int32))), .val (.int v101), .val (.int v102), .val (.int v103), .val (.ref b104), .unset, .unset, .unset, .unset] [(.int (p1 &&& (268435455 : Int32))), (.ref b104)]))
  obtain ⟨_, T130, L130, X130, hQ130, st130⟩ := ownCallV X113 hx hZ hown ww15 ww16 ww18 ww17 ww3 ww19 (by decide) (rm3 l Z a0 hw [] b104 (p1 &&& (268435455 : Int32)) y119 y120 (0 : Int32) (0 : Int32) (0 : Int32) (0 : Int32) (0 : Int32) (0 : Int32) (0 : Int32) (0 : Int32) (0 : Int32) T113.heap n0 Y113  P118) (rfl : T113.heap = T113.heap) F121 0 (by decide) (by decide) (by decide) (by decide) (g := (mkF m 86 #[.val (.int p1), .val (.int p2), .val (.int p3), .val (.int p4), .val (.int p5), .val (.int p6), .val (.int (p1 &&& (268435455 : Int32))), .val (.int (p2 &&& (268435455 : Int32))), .val (.int (p3 &&& (268435455 : Int32))), .val (.int (p4 &&& (268435455 : Int32))), .val (.int (p5 &&& (268435455 : Int32))), .val (.int v101), .val (.int v102), .val (.int v103), .val (.ref b104), .unset, .unset, .unset, .unset] [(.int (p1 &&& (268435455 : Int32))), (.ref b104)])) rfl (by rw [hml]; rfl) (argsL := [(.int (p1 &&& (268435455 : Int32)))]) (rest := []) (lenOf pd0_1 rfl) rfl rfl (by show 2 * 0 + _ ≤ _; exact Nat.le_of_eq rfl) (hb hby at_86)
  obtain ⟨rfl, N130q, K130q, P131⟩ := hQ130
  have N130 := Fr.app N113 N130q
  have F132 := F121.keep K130q
  have K130 := K113.trans K130q (allS (Or.inr v104) (allS (Or.inr (Nat.le_trans K104.1 P116)) (allS (Or.inr (Nat.le_trans K104.1 P117)) all0)))
  have Y130 := Nat.le_trans Y113 K130q.1
  have O130 := O113.keep K130q (allS u104 (allS P114 (allS P115 all0)))
  refine OwnEnd.go (fun _ k => st130 _ k) ?_
  show OwnEnd p e below s _ _ _ (T130.setTop (mkF m 89 #[.val (.int p1), .val (.int p2), .val (.int p3), .val (.int p4), .val (.int p5), .val (.int p6), .val (.int (p1 &&& (268435455 : Int32))), .val (.int (p2 &&& (268435455 : Int32))), .val (.int (p3 &&& (268435455 : Int32))), .val (.int (p4 &&& (268435455 : Int32))), .val (.int (p5 &&& (268435455 : Int32))), .val (.int v101), .val (.int v102), .val (.int v103), .val (.ref b104), .unset, .unset, .unset, .unset] []))
  refine OwnEnd.go (fun _ k => XS.aload X130.here hx rfl (hb hby at_89) rfl rfl k) ?_
  show OwnEnd p e below s _ _ _ (T130.setTop (mkF m 91 #[.val (.int p1), .val (.int p2), .val (.int p3), .val (.int p4), .val (.int p5), .val (.int p6), .val (.int (p1 &&& (268435455 : Int32))), .val (.int (p2 &&& (268435455 : Int32))), .val (.int (p3 &&& (268435455 : Int32))), .val (.int (p4 &&& (268435455 : Int32))), .val (.int (p5 &&& (268435455 : Int32))), .val (.int v101), .val (.int v102), .val (.int v103), .val (.ref b104), .unset, .unset, .unset, .unset] [(.ref b104)]))
  refine OwnEnd.go (fun _ k => XS.iload X130.here hx rfl (hb hby at_91) rfl  k) ?_
  show OwnEnd p e below s _ _ _ (T130.setTop (mkF m 93 #[.val (.int p1), .val (.int p2), .val (.int p3), .val (.int p4), .val (.int p5), .val (.int p6), .val (.int (p1 &&& (268435455 : Int32))), .val (.int (p2 &&& (268435455 : Int32))), .val (.int (p3 &&& (268435455 : Int32))), .val (.int (p4 &&& (268435455 : Int32))), .val (.int (p5 &&& (268435455 : Int32))), .val (.int v101), .val (.int v102), .val (.int v103), .val (.ref b104), .unset, .unset, .unset, .unset] [(.int v101), (.ref b104)]))
  have D134 : ownDia X130 T130.heap (fun v : Addr => v = a_ELEMENT ∨ v = a_DOCUMENT) (fun v => (mkF m 105 #[.val (.int p1), .val (.int p2), .val (.int p3), .val (.int p4), .val (.int p5), .val (.int p6), .val (.int (p1 &&& (268435455 : Int32))), .val (.int (p2 &&& (268435455 : Int32))), .val (.int (p3 &&& (268435455 : Int32))), .val (.int (p4 &&& (268435455 : Int32))), .val (.int (p5 &&& (268435455 : Int32))), .val (.int v101), .val (.int v102), .val (.int v103), .val (.ref b104), .unset, .unset, .unset, .unset] [(.ref v), (.ref b104)])) (mkF m 93 #[.val (.int p1), .val (.int p2), .val (.int p3), .val (.int p4), .val (.int p5), .val (.int p6), .val (.int (p1 &&& (268435455 : Int32))), .val (.int (p2 &&& (268435455 : Int32))), .val (.int (p3 &&& (268435455 : Int32))), .val (.int (p4 &&& (268435455 : Int32))), .val (.int (p5 &&& (268435455 : Int32))), .val (.int v101), .val (.int v102), .val (.int v103), .val (.ref b104), .unset, .unset, .unset, .unset] [(.int v101), (.ref b104)]) := by
    by_cases hc : v101 = (0 : Int32)
    · obtain ⟨T135, X135, e135, st135⟩ := getS2 X130 hx hZ hown (host := "") (Or.inl ww49) Via.refl (rfl : T130.heap = T130.heap) (S_ELEMENT.ext O130.2) (g := (mkF m 102 #[.val (.int p1), .val (.int p2), .val (.int p3), .val (.int p4), .val (.int p5), .val (.int p6), .val (.int (p1 &&& (268435455 : Int32))), .val (.int (p2 &&& (268435455 : Int32))), .val (.int (p3 &&& (268435455 : Int32))), .val (.int (p4 &&& (268435455 : Int32))), .val (.int (p5 &&& (268435455 : Int32))), .val (.int v101), .val (.int v102), .val (.int v103), .val (.ref b104), .unset, .unset, .unset, .unset] [(.ref b104)])) rfl (hb hby at_102)
      refine ⟨_, a_ELEMENT, X135, e135, (Or.inl rfl), fun t k => ?_⟩
      refine XS.ifYes X130.here hx rfl (pc0 := 93) (pc' := 102) rfl (hb hby at_93) rfl ((if0 _ _).trans (teq hc).1) (by decide) (by decide) ?_
      show Steps p.tables e below (T130.setTop (mkF m 102 #[.val (.int p1), .val (.int p2), .val (.int p3), .val (.int p4), .val (.int p5), .val (.int p6), .val (.int (p1 &&& (268435455 : Int32))), .val (.int (p2 &&& (268435455 : Int32))), .val (.int (p3 &&& (268435455 : Int32))), .val (.int (p4 &&& (268435455 : Int32))), .val (.int (p5 &&& (268435455 : Int32))), .val (.int v101), .val (.int v102), .val (.int v103), .val (.ref b104), .unset, .unset, .unset, .unset] [(.ref b104)])) _
      refine st135 _ ?_
      show Steps p.tables e below (T135.setTop (mkF m 105 #[.val (.int p1), .val (.int p2), .val (.int p3), .val (.int p4), .val (.int p5), .val (.int p6), .val (.int (p1 &&& (268435455 : Int32))), .val (.int (p2 &&& (268435455 : Int32))), .val (.int (p3 &&& (268435455 : Int32))), .val (.int (p4 &&& (268435455 : Int32))), .val (.int (p5 &&& (268435455 : Int32))), .val (.int v101), .val (.int v102), .val (.int v103), .val (.ref b104), .unset, .unset, .unset, .unset] [(.ref a_ELEMENT), (.ref b104)])) _
      exact k
    · obtain ⟨T136, X136, e136, st136⟩ := getS2 X130 hx hZ hown (host := "") (Or.inl ww22) Via.refl (rfl : T130.heap = T130.heap) (S_DOCUMENT.ext O130.2) (g := (mkF m 96 #[.val (.int p1), .val (.int p2), .val (.int p3), .val (.int p4), .val (.int p5), .val (.int p6), .val (.int (p1 &&& (268435455 : Int32))), .val (.int (p2 &&& (268435455 : Int32))), .val (.int (p3 &&& (268435455 : Int32))), .val (.int (p4 &&& (268435455 : Int32))), .val (.int (p5 &&& (268435455 : Int32))), .val (.int v101), .val (.int v102), .val (.int v103), .val (.ref b104), .unset, .unset, .unset, .unset] [(.ref b104)])) rfl (hb hby at_96)
      refine ⟨_, a_DOCUMENT, X136, e136, (Or.inr rfl), fun t k => ?_⟩
      refine XS.ifNo X130.here hx rfl (hb hby at_93) rfl ((if0 _ _).trans (feq hc).1) ?_
      show Steps p.tables e below (T130.setTop (mkF m 96 #[.val (.int p1), .val (.int p2), .val (.int p3), .val (.int p4), .val (.int p5), .val (.int p6), .val (.int (p1 &&& (268435455 : Int32))), .val (.int (p2 &&& (268435455 : Int32))), .val (.int (p3 &&& (268435455 : Int32))), .val (.int (p4 &&& (268435455 : Int32))), .val (.int (p5 &&& (268435455 : Int32))), .val (.int v101), .val (.int v102), .val (.int v103), .val (.ref b104), .unset, .unset, .unset, .unset] [(.ref b104)])) _
      refine st136 _ ?_
      show Steps p.tables e below (T136.setTop (mkF m 99 #[.val (.int p1), .val (.int p2), .val (.int p3), .val (.int p4), .val (.int p5), .val (.int p6), .val (.int (p1 &&& (268435455 : Int32))), .val (.int (p2 &&& (268435455 : Int32))), .val (.int (p3 &&& (268435455 : Int32))), .val (.int (p4 &&& (268435455 : Int32))), .val (.int (p5 &&& (268435455 : Int32))), .val (.int v101), .val (.int v102), .val (.int v103), .val (.ref b104), .unset, .unset, .unset, .unset] [(.ref a_DOCUMENT), (.ref b104)])) _
      refine XS.goto X136.here hx rfl (pc0 := 99) (pc' := 105) rfl (hb hby at_99) (by decide) (by decide) ?_
      show Steps p.tables e below (T136.setTop (mkF m 105 #[.val (.int p1), .val (.int p2), .val (.int p3), .val (.int p4), .val (.int p5), .val (.int p6), .val (.int (p1 &&& (268435455 : Int32))), .val (.int (p2 &&& (268435455 : Int32))), .val (.int (p3 &&& (268435455 : Int32))), .val (.int (p4 &&& (268435455 : Int32))), .val (.int (p5 &&& (268435455 : Int32))), .val (.int v101), .val (.int v102), .val (.int v103), .val (.ref b104), .unset, .unset, .unset, .unset] [(.ref a_DOCUMENT), (.ref b104)])) _
      exact k
  obtain ⟨T134, v134, X134, e134, P134, st134⟩ := D134
  refine OwnEnd.go st134 ?_
  show OwnEnd p e below s _ _ _ (T134.setTop (mkF m 105 #[.val (.int p1), .val (.int p2), .val (.int p3), .val (.int p4), .val (.int p5), .val (.int p6), .val (.int (p1 &&& (268435455 : Int32))), .val (.int (p2 &&& (268435455 : Int32))), .val (.int (p3 &&& (268435455 : Int32))), .val (.int (p4 &&& (268435455 : Int32))), .val (.int (p5 &&& (268435455 : Int32))), .val (.int v101), .val (.int v102), .val (.int v103), .val (.ref b104), .unset, .unset, .unset, .unset] [(.ref v134), (.ref b104)]))
  have nk134 : v134 ≠ a_ATTRIBUTE := fun q => P134.elim (fun z => nAE (q.symm.trans z)) (fun z => nAD (q.symm.trans z))
  obtain ⟨_, T137, L137, X137, hQ137, st137⟩ := ownCallV X134 hx hZ hown ww25 ww26 ww28 ww27 ww3 ww29 (by decide) (rm4d0open l Z a0 hw [] b104 v134 y119 y120 ((0 : Int32) + (p1 &&& (268435455 : Int32))) (0 : Int32) (0 : Int32) (0 : Int32) (0 : Int32) (0 : Int32) (0 : Int32) (0 : Int32) a_ATTRIBUTE a_ELEMENT a_DOCUMENT T130.heap n0 Y130 O130 S_ATTRIBUTE S_ELEMENT S_DOCUMENT nk134 P134 P131) e134 F132 0 (by decide) (by decide) (by decide) (by decide) (g := (mkF m 105 #[.val (.int p1), .val (.int p2), .val (.int p3), .val (.int p4), .val (.int p5), .val (.int p6), .val (.int (p1 &&& (268435455 : Int32))), .val (.int (p2 &&& (268435455 : Int32))), .val (.int (p3 &&& (268435455 : Int32))), .val (.int (p4 &&& (268435455 : Int32))), .val (.int (p5 &&& (268435455 : Int32))), .val (.int v101), .val (.int v102), .val (.int v103), .val (.ref b104), .unset, .unset, .unset, .unset] [(.ref v134), (.ref b104)])) rfl (by rw [hml]; rfl) (argsL := [(.ref v134)]) (rest := []) (lenOf pd0_2 rfl) rfl rfl (by show 2 * 0 + _ ≤ _; exact Nat.le_of_eq rfl) (hb hby at_105)
  obtain ⟨rfl, N137q, K137q, P138⟩ := hQ137
  have N137 := Fr.app N130 N137q
  have F139 := F132.keep K137q
  have K137 := K130.trans K137q (allS (Or.inr v104) (allS (Or.inr (Nat.le_trans K104.1 P116)) (allS (Or.inr (Nat.le_trans K104.1 P117)) all0)))
  have Y137 := Nat.le_trans Y130 K137q.1
  have O137 := O130.keep K137q (allS u104 (allS P114 (allS P115 all0)))
  refine OwnEnd.go (fun _ k => st137 _ k) ?_
  show OwnEnd p e below s _ _ _ (T137.setTop (mkF m 108 #[.val (.int p1), .val (.int p2), .val (.int p3), .val (.int p4), .val (.int p5), .val (.int p6), .val (.int (p1 &&& (268435455 : Int32))), .val (.int (p2 &&& (268435455 : Int32))), .val (.int (p3 &&& (268435455 : Int32))), .val (.int (p4 &&& (268435455 : Int32))), .val (.int (p5 &&& (268435455 : Int32))), .val (.int v101), .val (.int v102), .val (.int v103), .val (.ref b104), .unset, .unset, .unset, .unset] [(.int ((0 : Int32) + (p1 &&& (268435455 : Int32))))]))
  refine OwnEnd.go (fun _ k => XS.istore X137.here hx rfl (hb hby at_108) rfl  (l' := #[.val (.int p1), .val (.int p2), .val (.int p3), .val (.int p4), .val (.int p5), .val (.int p6), .val (.int (p1 &&& (268435455 : Int32))), .val (.int (p2 &&& (268435455 : Int32))), .val (.int (p3 &&& (268435455 : Int32))), .val (.int (p4 &&& (268435455 : Int32))), .val (.int (p5 &&& (268435455 : Int32))), .val (.int v101), .val (.int v102), .val (.int v103), .val (.ref b104), .val (.int ((0 : Int32) + (p1 &&& (268435455 : Int32)))), .unset, .unset, .unset]) rfl k) ?_
  show OwnEnd p e below s _ _ _ (T137.setTop (mkF m 110 #[.val (.int p1), .val (.int p2), .val (.int p3), .val (.int p4), .val (.int p5), .val (.int p6), .val (.int (p1 &&& (268435455 : Int32))), .val (.int (p2 &&& (268435455 : Int32))), .val (.int (p3 &&& (268435455 : Int32))), .val (.int (p4 &&& (268435455 : Int32))), .val (.int (p5 &&& (268435455 : Int32))), .val (.int v101), .val (.int v102), .val (.int v103), .val (.ref b104), .val (.int ((0 : Int32) + (p1 &&& (268435455 : Int32)))), .unset, .unset, .unset] []))
  refine OwnEnd.go (fun _ k => XS.aload X137.here hx rfl (hb hby at_110) rfl rfl k) ?_
  show OwnEnd p e below s _ _ _ (T137.setTop (mkF m 112 #[.val (.int p1), .val (.int p2), .val (.int p3), .val (.int p4), .val (.int p5), .val (.int p6), .val (.int (p1 &&& (268435455 : Int32))), .val (.int (p2 &&& (268435455 : Int32))), .val (.int (p3 &&& (268435455 : Int32))), .val (.int (p4 &&& (268435455 : Int32))), .val (.int (p5 &&& (268435455 : Int32))), .val (.int v101), .val (.int v102), .val (.int v103), .val (.ref b104), .val (.int ((0 : Int32) + (p1 &&& (268435455 : Int32)))), .unset, .unset, .unset] [(.ref b104)]))
  refine OwnEnd.go (fun _ k => XS.iload X137.here hx rfl (hb hby at_112) rfl  k) ?_
  show OwnEnd p e below s _ _ _ (T137.setTop (mkF m 114 #[.val (.int p1), .val (.int p2), .val (.int p3), .val (.int p4), .val (.int p5), .val (.int p6), .val (.int (p1 &&& (268435455 : Int32))), .val (.int (p2 &&& (268435455 : Int32))), .val (.int (p3 &&& (268435455 : Int32))), .val (.int (p4 &&& (268435455 : Int32))), .val (.int (p5 &&& (268435455 : Int32))), .val (.int v101), .val (.int v102), .val (.int v103), .val (.ref b104), .val (.int ((0 : Int32) + (p1 &&& (268435455 : Int32)))), .unset, .unset, .unset] [(.int (p4 &&& (268435455 : Int32))), (.ref b104)]))
  obtain ⟨_, T141, L141, X141, hQ141, st141⟩ := ownCallV X137 hx hZ hown ww44 ww45 ww47 ww46 ww3 ww48 (by decide) (rm6d1 l Z a0 hw [] b104 (p4 &&& (268435455 : Int32)) y119 y120 (((0 : Int32) + (p1 &&& (268435455 : Int32))) + (1 : Int32)) ((0 : Int32) + (p1 &&& (268435455 : Int32))) (0 : Int32) (0 : Int32) (0 : Int32) (0 : Int32) (0 : Int32) (0 : Int32) T137.heap n0 Y137  P138) (rfl : T137.heap = T137.heap) F139 0 (by decide) (by decide) (by decide) (by decide) (g := (mkF m 114 #[.val (.int p1), .val (.int p2), .val (.int p3), .val (.int p4), .val (.int p5), .val (.int p6), .val (.int (p1 &&& (268435455 : Int32))), .val (.int (p2 &&& (268435455 : Int32))), .val (.int (p3 &&& (268435455 : Int32))), .val (.int (p4 &&& (268435455 : Int32))), .val (.int (p5 &&& (268435455 : Int32))), .val (.int v101), .val (.int v102), .val (.int v103), .val (.ref b104), .val (.int ((0 : Int32) + (p1 &&& (268435455 : Int32)))), .unset, .unset, .unset] [(.int (p4 &&& (268435455 : Int32))), (.ref b104)])) rfl (by rw [hml]; rfl) (argsL := [(.int (p4 &&& (268435455 : Int32)))]) (rest := []) (lenOf pd0_1 rfl) rfl rfl (by show 2 * 0 + _ ≤ _; exact Nat.le_of_eq rfl) (hb hby at_114)
  obtain ⟨rfl, N141q, K141q, P142⟩ := hQ141
  have N141 := Fr.app N137 N141q
  have F143 := F139.keep K141q
  have K141 := K137.trans K141q (allS (Or.inr v104) (allS (Or.inr (Nat.le_trans K104.1 P116)) (allS (Or.inr (Nat.le_trans K104.1 P117)) all0)))
  have Y141 := Nat.le_trans Y137 K141q.1
  have O141 := O137.keep K141q (allS u104 (allS P114 (allS P115 all0)))
  refine OwnEnd.go (fun _ k => st141 _ k) ?_
  show OwnEnd p e below s _ _ _ (T141.setTop (mkF m 117 #[.val (.int p1), .val (.int p2), .val (.int p3), .val (.int p4), .val (.int p5), .val (.int p6), .val (.int (p1 &&& (268435455 : Int32))), .val (.int (p2 &&& (268435455 : Int32))), .val (.int (p3 &&& (268435455 : Int32))), .val (.int (p4 &&& (268435455 : Int32))), .val (.int (p5 &&& (268435455 : Int32))), .val (.int v101), .val (.int v102), .val (.int v103), .val (.ref b104), .val (.int ((0 : Int32) + (p1 &&& (268435455 : Int32)))), .unset, .unset, .unset] []))
  refine OwnEnd.go (fun _ k => XS.aload X141.here hx rfl (hb hby at_117) rfl rfl k) ?_
  show OwnEnd p e below s _ _ _ (T141.setTop (mkF m 119 #[.val (.int p1), .val (.int p2), .val (.int p3), .val (.int p4), .val (.int p5), .val (.int p6), .val (.int (p1 &&& (268435455 : Int32))), .val (.int (p2 &&& (268435455 : Int32))), .val (.int (p3 &&& (268435455 : Int32))), .val (.int (p4 &&& (268435455 : Int32))), .val (.int (p5 &&& (268435455 : Int32))), .val (.int v101), .val (.int v102), .val (.int v103), .val (.ref b104), .val (.int ((0 : Int32) + (p1 &&& (268435455 : Int32)))), .unset, .unset, .unset] [(.ref b104)]))
  refine OwnEnd.go (fun _ k => XS.iload X141.here hx rfl (hb hby at_119) rfl  k) ?_
  show OwnEnd p e below s _ _ _ (T141.setTop (mkF m 121 #[.val (.int p1), .val (.int p2), .val (.int p3), .val (.int p4), .val (.int p5), .val (.int p6), .val (.int (p1 &&& (268435455 : Int32))), .val (.int (p2 &&& (268435455 : Int32))), .val (.int (p3 &&& (268435455 : Int32))), .val (.int (p4 &&& (268435455 : Int32))), .val (.int (p5 &&& (268435455 : Int32))), .val (.int v101), .val (.int v102), .val (.int v103), .val (.ref b104), .val (.int ((0 : Int32) + (p1 &&& (268435455 : Int32)))), .unset, .unset, .unset] [(.int (p2 &&& (268435455 : Int32))), (.ref b104)]))
  obtain ⟨_, T145, L145, X145, hQ145, st145⟩ := ownCallV X141 hx hZ hown ww15 ww16 ww18 ww17 ww3 ww19 (by decide) (rm3 l Z a0 hw [] b104 (p2 &&& (268435455 : Int32)) y119 y120 (((0 : Int32) + (p1 &&& (268435455 : Int32))) + (1 : Int32)) ((0 : Int32) + (p1 &&& (268435455 : Int32))) (0 : Int32) ((0 : Int32) + (p4 &&& (268435455 : Int32))) (0 : Int32) (0 : Int32) (0 : Int32) (0 : Int32) (1 : Int32) T141.heap n0 Y141  P142) (rfl : T141.heap = T141.heap) F143 0 (by decide) (by decide) (by decide) (by decide) (g := (mkF m 121 #[.val (.int p1), .val (.int p2), .val (.int p3), .val (.int p4), .val (.int p5), .val (.int p6), .val (.int (p1 &&& (268435455 : Int32))), .val (.int (p2 &&& (268435455 : Int32))), .val (.int (p3 &&& (268435455 : Int32))), .val (.int (p4 &&& (268435455 : Int32))), .val (.int (p5 &&& (268435455 : Int32))), .val (.int v101), .val (.int v102), .val (.int v103), .val (.ref b104), .val (.int ((0 : Int32) + (p1 &&& (268435455 : Int32)))), .unset, .unset, .unset] [(.int (p2 &&& (268435455 : Int32))), (.ref b104)])) rfl (by rw [hml]; rfl) (argsL := [(.int (p2 &&& (268435455 : Int32)))]) (rest := []) (lenOf pd0_1 rfl) rfl rfl (by show 2 * 0 + _ ≤ _; exact Nat.le_of_eq rfl) (hb hby at_121)
  obtain ⟨rfl, N145q, K145q, P146⟩ := hQ145
  have N145 := Fr.app N141 N145q
  have F147 := F143.keep K145q
  have K145 := K141.trans K145q (allS (Or.inr v104) (allS (Or.inr (Nat.le_trans K104.1 P116)) (allS (Or.inr (Nat.le_trans K104.1 P117)) all0)))
  have Y145 := Nat.le_trans Y141 K145q.1
  have O145 := O141.keep K145q (allS u104 (allS P114 (allS P115 all0)))
  refine OwnEnd.go (fun _ k => st145 _ k) ?_
  show OwnEnd p e below s _ _ _ (T145.setTop (mkF m 124 #[.val (.int p1), .val (.int p2), .val (.int p3), .val (.int p4), .val (.int p5), .val (.int p6), .val (.int (p1 &&& (268435455 : Int32))), .val (.int (p2 &&& (268435455 : Int32))), .val (.int (p3 &&& (268435455 : Int32))), .val (.int (p4 &&& (268435455 : Int32))), .val (.int (p5 &&& (268435455 : Int32))), .val (.int v101), .val (.int v102), .val (.int v103), .val (.ref b104), .val (.int ((0 : Int32) + (p1 &&& (268435455 : Int32)))), .unset, .unset, .unset] []))
  refine OwnEnd.go (fun _ k => XS.iload X145.here hx rfl (hb hby at_124) rfl  k) ?_
  show OwnEnd p e below s _ _ _ (T145.setTop (mkF m 126 #[.val (.int p1), .val (.int p2), .val (.int p3), .val (.int p4), .val (.int p5), .val (.int p6), .val (.int (p1 &&& (268435455 : Int32))), .val (.int (p2 &&& (268435455 : Int32))), .val (.int (p3 &&& (268435455 : Int32))), .val (.int (p4 &&& (268435455 : Int32))), .val (.int (p5 &&& (268435455 : Int32))), .val (.int v101), .val (.int v102), .val (.int v103), .val (.ref b104), .val (.int ((0 : Int32) + (p1 &&& (268435455 : Int32)))), .unset, .unset, .unset] [(.int ((0 : Int32) + (p1 &&& (268435455 : Int32))))]))
  refine OwnEnd.go (fun _ k => XS.iload X145.here hx rfl (hb hby at_126) rfl  k) ?_
  show OwnEnd p e below s _ _ _ (T145.setTop (mkF m 128 #[.val (.int p1), .val (.int p2), .val (.int p3), .val (.int p4), .val (.int p5), .val (.int p6), .val (.int (p1 &&& (268435455 : Int32))), .val (.int (p2 &&& (268435455 : Int32))), .val (.int (p3 &&& (268435455 : Int32))), .val (.int (p4 &&& (268435455 : Int32))), .val (.int (p5 &&& (268435455 : Int32))), .val (.int v101), .val (.int v102), .val (.int v103), .val (.ref b104), .val (.int ((0 : Int32) + (p1 &&& (268435455 : Int32)))), .unset, .unset, .unset] [(.int (p1 &&& (268435455 : Int32))), (.int ((0 : Int32) + (p1 &&& (268435455 : Int32))))]))
  refine OwnEnd.go (fun _ k => XS.icmpNo X145.here hx rfl (hb hby at_128) rfl (teq (own_s0 p1 p2 p3 p4 p5 p6)).2 k) ?_
  show OwnEnd p e below s _ _ _ (T145.setTop (mkF m 131 #[.val (.int p1), .val (.int p2), .val (.int p3), .val (.int p4), .val (.int p5), .val (.int p6), .val (.int (p1 &&& (268435455 : Int32))), .val (.int (p2 &&& (268435455 : Int32))), .val (.int (p3 &&& (268435455 : Int32))), .val (.int (p4 &&& (268435455 : Int32))), .val (.int (p5 &&& (268435455 : Int32))), .val (.int v101), .val (.int v102), .val (.int v103), .val (.ref b104), .val (.int ((0 : Int32) + (p1 &&& (268435455 : Int32)))), .unset, .unset, .unset] []))
  refine OwnEnd.go (fun _ k => XS.iconst X145.here hx rfl (hb hby at_131) k) ?_
  show OwnEnd p e below s _ _ _ (T145.setTop (mkF m 132 #[.val (.int p1), .val (.int p2), .val (.int p3), .val (.int p4), .val (.int p5), .val (.int p6), .val (.int (p1 &&& (268435455 : Int32))), .val (.int (p2 &&& (268435455 : Int32))), .val (.int (p3 &&& (268435455 : Int32))), .val (.int (p4 &&& (268435455 : Int32))), .val (.int (p5 &&& (268435455 : Int32))), .val (.int v101), .val (.int v102), .val (.int v103), .val (.ref b104), .val (.int ((0 : Int32) + (p1 &&& (268435455 : Int32)))), .unset, .unset, .unset] [(.int (1 : Int32))]))
  refine OwnEnd.go (fun _ k => XS.goto X145.here hx rfl (pc0 := 132) (pc' := 136) rfl (hb hby at_132) (by decide) (by decide) k) ?_
  show OwnEnd p e below s _ _ _ (T145.setTop (mkF m 136 #[.val (.int p1), .val (.int p2), .val (.int p3), .val (.int p4), .val (.int p5), .val (.int p6), .val (.int (p1 &&& (268435455 : Int32))), .val (.int (p2 &&& (268435455 : Int32))), .val (.int (p3 &&& (268435455 : Int32))), .val (.int (p4 &&& (268435455 : Int32))), .val (.int (p5 &&& (268435455 : Int32))), .val (.int v101), .val (.int v102), .val (.int v103), .val (.ref b104), .val (.int ((0 : Int32) + (p1 &&& (268435455 : Int32)))), .unset, .unset, .unset] [(.int (1 : Int32))]))
  refine OwnEnd.go (fun _ k => XS.istore X145.here hx rfl (hb hby at_136) rfl  (l' := #[.val (.int p1), .val (.int p2), .val (.int p3), .val (.int p4), .val (.int p5), .val (.int p6), .val (.int (p1 &&& (268435455 : Int32))), .val (.int (p2 &&& (268435455 : Int32))), .val (.int (p3 &&& (268435455 : Int32))), .val (.int (p4 &&& (268435455 : Int32))), .val (.int (p5 &&& (268435455 : Int32))), .val (.int v101), .val (.int v102), .val (.int v103), .val (.ref b104), .val (.int ((0 : Int32) + (p1 &&& (268435455 : Int32)))), .val (.int (1 : Int32)), .unset, .unset]) rfl k) ?_
  show OwnEnd p e below s _ _ _ (T145.setTop (mkF m 138 #[.val (.int p1), .val (.int p2), .val (.int p3), .val (.int p4), .val (.int p5), .val (.int p6), .val (.int (p1 &&& (268435455 : Int32))), .val (.int (p2 &&& (268435455 : Int32))), .val (.int (p3 &&& (268435455 : Int32))), .val (.int (p4 &&& (268435455 : Int32))), .val (.int (p5 &&& (268435455 : Int32))), .val (.int v101), .val (.int v102), .val (.int v103), .val (.ref b104), .val (.int ((0 : Int32) + (p1 &&& (268435455 : Int32)))), .val (.int (1 : Int32)), .unset, .unset] []))
  refine OwnEnd.go (fun _ k => XS.iload X145.here hx rfl (hb hby at_138) rfl  k) ?_
  show OwnEnd p e below s _ _ _ (T145.setTop (mkF m 140 #[.val (.int p1), .val (.int p2), .val (.int p3), .val (.int p4), .val (.int p5), .val (.int p6), .val (.int (p1 &&& (268435455 : Int32))), .val (.int (p2 &&& (268435455 : Int32))), .val (.int (p3 &&& (268435455 : Int32))), .val (.int (p4 &&& (268435455 : Int32))), .val (.int (p5 &&& (268435455 : Int32))), .val (.int v101), .val (.int v102), .val (.int v103), .val (.ref b104), .val (.int ((0 : Int32) + (p1 &&& (268435455 : Int32)))), .val (.int (1 : Int32)), .unset, .unset] [(.int v102)]))
  by_cases hc149 : v102 = (0 : Int32)
  · refine OwnEnd.go (fun _ k => XS.ifYes X145.here hx rfl (pc0 := 140) (pc' := 247) rfl (hb hby at_140) rfl ((if0 _ _).trans (teq hc149).1) (by decide) (by decide) k) ?_
    show OwnEnd p e below s _ _ _ (T145.setTop (mkF m 247 #[.val (.int p1), .val (.int p2), .val (.int p3), .val (.int p4), .val (.int p5), .val (.int p6), .val (.int (p1 &&& (268435455 : Int32))), .val (.int (p2 &&& (268435455 : Int32))), .val (.int (p3 &&& (268435455 : Int32))), .val (.int (p4 &&& (268435455 : Int32))), .val (.int (p5 &&& (268435455 : Int32))), .val (.int v101), .val (.int v102), .val (.int v103), .val (.ref b104), .val (.int ((0 : Int32) + (p1 &&& (268435455 : Int32)))), .val (.int (1 : Int32)), .unset, .unset] []))
    refine OwnEnd.go (fun _ k => XS.aload X145.here hx rfl (hb hby at_247) rfl rfl k) ?_
    show OwnEnd p e below s _ _ _ (T145.setTop (mkF m 249 #[.val (.int p1), .val (.int p2), .val (.int p3), .val (.int p4), .val (.int p5), .val (.int p6), .val (.int (p1 &&& (268435455 : Int32))), .val (.int (p2 &&& (268435455 : Int32))), .val (.int (p3 &&& (268435455 : Int32))), .val (.int (p4 &&& (268435455 : Int32))), .val (.int (p5 &&& (268435455 : Int32))), .val (.int v101), .val (.int v102), .val (.int v103), .val (.ref b104), .val (.int ((0 : Int32) + (p1 &&& (268435455 : Int32)))), .val (.int (1 : Int32)), .unset, .unset] [(.ref b104)]))
    refine OwnEnd.go (fun _ k => XS.iload X145.here hx rfl (hb hby at_249) rfl  k) ?_
    show OwnEnd p e below s _ _ _ (T145.setTop (mkF m 251 #[.val (.int p1), .val (.int p2), .val (.int p3), .val (.int p4), .val (.int p5), .val (.int p6), .val (.int (p1 &&& (268435455 : Int32))), .val (.int (p2 &&& (268435455 : Int32))), .val (.int (p3 &&& (268435455 : Int32))), .val (.int (p4 &&& (268435455 : Int32))), .val (.int (p5 &&& (268435455 : Int32))), .val (.int v101), .val (.int v102), .val (.int v103), .val (.ref b104), .val (.int ((0 : Int32) + (p1 &&& (268435455 : Int32)))), .val (.int (1 : Int32)), .unset, .unset] [(.int (p5 &&& (268435455 : Int32))), (.ref b104)]))
    obtain ⟨_, T150, L150, X150, hQ150, st150⟩ := ownCallV X145 hx hZ hown ww44 ww45 ww47 ww46 ww3 ww48 (by decide) (rm6d1 l Z a0 hw [] b104 (p5 &&& (268435455 : Int32)) y119 y120 ((((0 : Int32) + (p1 &&& (268435455 : Int32))) + (1 : Int32)) + (p2 &&& (268435455 : Int32))) ((0 : Int32) + (p1 &&& (268435455 : Int32))) (0 : Int32) ((0 : Int32) + (p4 &&& (268435455 : Int32))) (0 : Int32) (0 : Int32) (0 : Int32) (0 : Int32) T145.heap n0 Y145  P146) (rfl : T145.heap = T145.heap) F147 0 (by decide) (by decide) (by decide) (by decide) (g := (mkF m 251 #[.val (.int p1), .val (.int p2), .val (.int p3), .val (.int p4), .val (.int p5), .val (.int p6), .val (.int (p1 &&& (268435455 : Int32))), .val (.int (p2 &&& (268435455 : Int32))), .val (.int (p3 &&& (268435455 : Int32))), .val (.int (p4 &&& (268435455 : Int32))), .val (.int (p5 &&& (268435455 : Int32))), .val (.int v101), .val (.int v102), .val (.int v103), .val (.ref b104), .val (.int ((0 : Int32) + (p1 &&& (268435455 : Int32)))), .val (.int (1 : Int32)), .unset, .unset] [(.int (p5 &&& (268435455 : Int32))), (.ref b104)])) rfl (by rw [hml]; rfl) (argsL := [(.int (p5 &&& (268435455 : Int32)))]) (rest := []) (lenOf pd0_1 rfl) rfl rfl (by show 2 * 0 + _ ≤ _; exact Nat.le_of_eq rfl) (hb hby at_251)
    obtain ⟨rfl, N150q, K150q, P151⟩ := hQ150
    have N150 := Fr.app N145 N150q
    have F152 := F147.keep K150q
    have K150 := K145.trans K150q (allS (Or.inr v104) (allS (Or.inr (Nat.le_trans K104.1 P116)) (allS (Or.inr (Nat.le_trans K104.1 P117)) all0)))
    have Y150 := Nat.le_trans Y145 K150q.1
    have O150 := O145.keep K150q (allS u104 (allS P114 (allS P115 all0)))
    refine OwnEnd.go (fun _ k => st150 _ k) ?_
    show OwnEnd p e below s _ _ _ (T150.setTop (mkF m 254 #[.val (.int p1), .val (.int p2), .val (.int p3), .val (.int p4), .val (.int p5), .val (.int p6), .val (.int (p1 &&& (268435455 : Int32))), .val (.int (p2 &&& (268435455 : Int32))), .val (.int (p3 &&& (268435455 : Int32))), .val (.int (p4 &&& (268435455 : Int32))), .val (.int (p5 &&& (268435455 : Int32))), .val (.int v101), .val (.int v102), .val (.int v103), .val (.ref b104), .val (.int ((0 : Int32) + (p1 &&& (268435455 : Int32)))), .val (.int (1 : Int32)), .unset, .unset] []))
    refine OwnEnd.go (fun _ k => XS.aload X150.here hx rfl (hb hby at_254) rfl rfl k) ?_
    show OwnEnd p e below s _ _ _ (T150.setTop (mkF m 256 #[.val (.int p1), .val (.int p2), .val (.int p3), .val (.int p4), .val (.int p5), .val (.int p6), .val (.int (p1 &&& (268435455 : Int32))), .val (.int (p2 &&& (268435455 : Int32))), .val (.int (p3 &&& (268435455 : Int32))), .val (.int (p4 &&& (268435455 : Int32))), .val (.int (p5 &&& (268435455 : Int32))), .val (.int v101), .val (.int v102), .val (.int v103), .val (.ref b104), .val (.int ((0 : Int32) + (p1 &&& (268435455 : Int32)))), .val (.int (1 : Int32)), .unset, .unset] [(.ref b104)]))
    refine OwnEnd.go (fun _ k => XS.iload X150.here hx rfl (hb hby at_256) rfl  k) ?_
    show OwnEnd p e below s _ _ _ (T150.setTop (mkF m 258 #[.val (.int p1), .val (.int p2), .val (.int p3), .val (.int p4), .val (.int p5), .val (.int p6), .val (.int (p1 &&& (268435455 : Int32))), .val (.int (p2 &&& (268435455 : Int32))), .val (.int (p3 &&& (268435455 : Int32))), .val (.int (p4 &&& (268435455 : Int32))), .val (.int (p5 &&& (268435455 : Int32))), .val (.int v101), .val (.int v102), .val (.int v103), .val (.ref b104), .val (.int ((0 : Int32) + (p1 &&& (268435455 : Int32)))), .val (.int (1 : Int32)), .unset, .unset] [(.int (p3 &&& (268435455 : Int32))), (.ref b104)]))
    obtain ⟨_, T154, L154, X154, hQ154, st154⟩ := ownCallV X150 hx hZ hown ww15 ww16 ww18 ww17 ww3 ww19 (by decide) (rm3 l Z a0 hw [] b104 (p3 &&& (268435455 : Int32)) y119 y120 ((((0 : Int32) + (p1 &&& (268435455 : Int32))) + (1 : Int32)) + (p2 &&& (268435455 : Int32))) ((0 : Int32) + (p1 &&& (268435455 : Int32))) (0 : Int32) (((0 : Int32) + (p4 &&& (268435455 : Int32))) + (p5 &&& (268435455 : Int32))) (0 : Int32) (0 : Int32) (0 : Int32) (0 : Int32) (1 : Int32) T150.heap n0 Y150  P151) (rfl : T150.heap = T150.heap) F152 0 (by decide) (by decide) (by decide) (by decide) (g := (mkF m 258 #[.val (.int p1), .val (.int p2), .val (.int p3), .val (.int p4), .val (.int p5), .val (.int p6), .val (.int (p1 &&& (268435455 : Int32))), .val (.int (p2 &&& (268435455 : Int32))), .val (.int (p3 &&& (268435455 : Int32))), .val (.int (p4 &&& (268435455 : Int32))), .val (.int (p5 &&& (268435455 : Int32))), .val (.int v101), .val (.int v102), .val (.int v103), .val (.ref b104), .val (.int ((0 : Int32) + (p1 &&& (268435455 : Int32)))), .val (.int (1 : Int32)), .unset, .unset] [(.int (p3 &&& (268435455 : Int32))), (.ref b104)])) rfl (by rw [hml]; rfl) (argsL := [(.int (p3 &&& (268435455 : Int32)))]) (rest := []) (lenOf pd0_1 rfl) rfl rfl (by show 2 * 0 + _ ≤ _; exact Nat.le_of_eq rfl) (hb hby at_258)
    obtain ⟨rfl, N154q, K154q, P155⟩ := hQ154
    have N154 := Fr.app N150 N154q
    have F156 := F152.keep K154q
    have K154 := K150.trans K154q (allS (Or.inr v104) (allS (Or.inr (Nat.le_trans K104.1 P116)) (allS (Or.inr (Nat.le_trans K104.1 P117)) all0)))
    have Y154 := Nat.le_trans Y150 K154q.1
    have O154 := O150.keep K154q (allS u104 (allS P114 (allS P115 all0)))
    refine OwnEnd.go (fun _ k => st154 _ k) ?_
    show OwnEnd p e below s _ _ _ (T154.setTop (mkF m 261 #[.val (.int p1), .val (.int p2), .val (.int p3), .val (.int p4), .val (.int p5), .val (.int p6), .val (.int (p1 &&& (268435455 : Int32))), .val (.int (p2 &&& (268435455 : Int32))), .val (.int (p3 &&& (268435455 : Int32))), .val (.int (p4 &&& (268435455 : Int32))), .val (.int (p5 &&& (268435455 : Int32))), .val (.int v101), .val (.int v102), .val (.int v103), .val (.ref b104), .val (.int ((0 : Int32) + (p1 &&& (268435455 : Int32)))), .val (.int (1 : Int32)), .unset, .unset] []))
    refine OwnEnd.go (fun _ k => XS.aload X154.here hx rfl (hb hby at_261) rfl rfl k) ?_
    show OwnEnd p e below s _ _ _ (T154.setTop (mkF m 263 #[.val (.int p1), .val (.int p2), .val (.int p3), .val (.int p4), .val (.int p5), .val (.int p6), .val (.int (p1 &&& (268435455 : Int32))), .val (.int (p2 &&& (268435455 : Int32))), .val (.int (p3 &&& (268435455 : Int32))), .val (.int (p4 &&& (268435455 : Int32))), .val (.int (p5 &&& (268435455 : Int32))), .val (.int v101), .val (.int v102), .val (.int v103), .val (.ref b104), .val (.int ((0 : Int32) + (p1 &&& (268435455 : Int32)))), .val (.int (1 : Int32)), .unset, .unset] [(.ref b104)]))
    obtain ⟨_, T158, L158, X158, hQ158, st158⟩ := ownCallV X154 hx hZ hown ww50 ww51 ww53 ww52 ww3 ww54 (by decide) (rm7d1 l Z a0 hw [] b104 y119 y120 (((((0 : Int32) + (p1 &&& (268435455 : Int32))) + (1 : Int32)) + (p2 &&& (268435455 : Int32))) + (p3 &&& (268435455 : Int32))) ((0 : Int32) + (p1 &&& (268435455 : Int32))) (0 : Int32) (((0 : Int32) + (p4 &&& (268435455 : Int32))) + (p5 &&& (268435455 : Int32))) (0 : Int32) (0 : Int32) (0 : Int32) (0 : Int32) T154.heap n0 Y154  P155) (rfl : T154.heap = T154.heap) F156 0 (by decide) (by decide) (by decide) (by decide) (g := (mkF m 263 #[.val (.int p1), .val (.int p2), .val (.int p3), .val (.int p4), .val (.int p5), .val (.int p6), .val (.int (p1 &&& (268435455 : Int32))), .val (.int (p2 &&& (268435455 : Int32))), .val (.int (p3 &&& (268435455 : Int32))), .val (.int (p4 &&& (268435455 : Int32))), .val (.int (p5 &&& (268435455 : Int32))), .val (.int v101), .val (.int v102), .val (.int v103), .val (.ref b104), .val (.int ((0 : Int32) + (p1 &&& (268435455 : Int32)))), .val (.int (1 : Int32)), .unset, .unset] [(.ref b104)])) rfl (by rw [hml]; rfl) (argsL := []) (rest := []) (lenOf pd0_0 rfl) rfl rfl (by show 2 * 0 + _ ≤ _; exact Nat.le_of_eq rfl) (hb hby at_263)
    obtain ⟨rfl, N158q, K158q, P159⟩ := hQ158
    have N158 := Fr.app N154 N158q
    have F160 := F156.keep K158q
    have K158 := K154.trans K158q (allS (Or.inr v104) (allS (Or.inr (Nat.le_trans K104.1 P116)) (allS (Or.inr (Nat.le_trans K104.1 P117)) all0)))
    have Y158 := Nat.le_trans Y154 K158q.1
    have O158 := O154.keep K158q (allS u104 (allS P114 (allS P115 all0)))
    refine OwnEnd.go (fun _ k => st158 _ k) ?_
    show OwnEnd p e below s _ _ _ (T158.setTop (mkF m 266 #[.val (.int p1), .val (.int p2), .val (.int p3), .val (.int p4), .val (.int p5), .val (.int p6), .val (.int (p1 &&& (268435455 : Int32))), .val (.int (p2 &&& (268435455 : Int32))), .val (.int (p3 &&& (268435455 : Int32))), .val (.int (p4 &&& (268435455 : Int32))), .val (.int (p5 &&& (268435455 : Int32))), .val (.int v101), .val (.int v102), .val (.int v103), .val (.ref b104), .val (.int ((0 : Int32) + (p1 &&& (268435455 : Int32)))), .val (.int (1 : Int32)), .unset, .unset] []))
    refine OwnEnd.go (fun _ k => XS.iload X158.here hx rfl (hb hby at_266) rfl  k) ?_
    show OwnEnd p e below s _ _ _ (T158.setTop (mkF m 268 #[.val (.int p1), .val (.int p2), .val (.int p3), .val (.int p4), .val (.int p5), .val (.int p6), .val (.int (p1 &&& (268435455 : Int32))), .val (.int (p2 &&& (268435455 : Int32))), .val (.int (p3 &&& (268435455 : Int32))), .val (.int (p4 &&& (268435455 : Int32))), .val (.int (p5 &&& (268435455 : Int32))), .val (.int v101), .val (.int v102), .val (.int v103), .val (.ref b104), .val (.int ((0 : Int32) + (p1 &&& (268435455 : Int32)))), .val (.int (1 : Int32)), .unset, .unset] [(.int v102)]))
    refine OwnEnd.go (fun _ k => XS.ifYes X158.here hx rfl (pc0 := 268) (pc' := 281) rfl (hb hby at_268) rfl ((if0 _ _).trans (teq hc149).1) (by decide) (by decide) k) ?_
    show OwnEnd p e below s _ _ _ (T158.setTop (mkF m 281 #[.val (.int p1), .val (.int p2), .val (.int p3), .val (.int p4), .val (.int p5), .val (.int p6), .val (.int (p1 &&& (268435455 : Int32))), .val (.int (p2 &&& (268435455 : Int32))), .val (.int (p3 &&& (268435455 : Int32))), .val (.int (p4 &&& (268435455 : Int32))), .val (.int (p5 &&& (268435455 : Int32))), .val (.int v101), .val (.int v102), .val (.int v103), .val (.ref b104), .val (.int ((0 : Int32) + (p1 &&& (268435455 : Int32)))), .val (.int (1 : Int32)), .unset, .unset] []))
    refine OwnEnd.go (fun _ k => XS.iconst X158.here hx rfl (hb hby at_281) k) ?_
    show OwnEnd p e below s _ _ _ (T158.setTop (mkF m 282 #[.val (.int p1), .val (.int p2), .val (.int p3), .val (.int p4), .val (.int p5), .val (.int p6), .val (.int (p1 &&& (268435455 : Int32))), .val (.int (p2 &&& (268435455 : Int32))), .val (.int (p3 &&& (268435455 : Int32))), .val (.int (p4 &&& (268435455 : Int32))), .val (.int (p5 &&& (268435455 : Int32))), .val (.int v101), .val (.int v102), .val (.int v103), .val (.ref b104), .val (.int ((0 : Int32) + (p1 &&& (268435455 : Int32)))), .val (.int (1 : Int32)), .unset, .unset] [(.int (1 : Int32))]))
    refine OwnEnd.go (fun _ k => XS.iload X158.here hx rfl (hb hby at_282) rfl  k) ?_
    show OwnEnd p e below s _ _ _ (T158.setTop (mkF m 284 #[.val (.int p1), .val (.int p2), .val (.int p3), .val (.int p4), .val (.int p5), .val (.int p6), .val (.int (p1 &&& (268435455 : Int32))), .val (.int (p2 &&& (268435455 : Int32))), .val (.int (p3 &&& (268435455 : Int32))), .val (.int (p4 &&& (268435455 : Int32))), .val (.int (p5 &&& (268435455 : Int32))), .val (.int v101), .val (.int v102), .val (.int v103), .val (.ref b104), .val (.int ((0 : Int32) + (p1 &&& (268435455 : Int32)))), .val (.int (1 : Int32)), .unset, .unset] [(.int (p2 &&& (268435455 : Int32))), (.int (1 : Int32))]))
    refine OwnEnd.go (fun _ k => XS.iadd X158.here hx rfl (hb hby at_284) rfl k) ?_
    show OwnEnd p e below s _ _ _ (T158.setTop (mkF m 285 #[.val (.int p1), .val (.int p2), .val (.int p3), .val (.int p4), .val (.int p5), .val (.int p6), .val (.int (p1 &&& (268435455 : Int32))), .val (.int (p2 &&& (268435455 : Int32))), .val (.int (p3 &&& (268435455 : Int32))), .val (.int (p4 &&& (268435455 : Int32))), .val (.int (p5 &&& (268435455 : Int32))), .val (.int v101), .val (.int v102), .val (.int v103), .val (.ref b104), .val (.int ((0 : Int32) + (p1 &&& (268435455 : Int32)))), .val (.int (1 : Int32)), .unset, .unset] [(.int ((1 : Int32) + (p2 &&& (268435455 : Int32))))]))
    refine OwnEnd.go (fun _ k => XS.iload X158.here hx rfl (hb hby at_285) rfl  k) ?_
    show OwnEnd p e below s _ _ _ (T158.setTop (mkF m 287 #[.val (.int p1), .val (.int p2), .val (.int p3), .val (.int p4), .val (.int p5), .val (.int p6), .val (.int (p1 &&& (268435455 : Int32))), .val (.int (p2 &&& (268435455 : Int32))), .val (.int (p3 &&& (268435455 : Int32))), .val (.int (p4 &&& (268435455 : Int32))), .val (.int (p5 &&& (268435455 : Int32))), .val (.int v101), .val (.int v102), .val (.int v103), .val (.ref b104), .val (.int ((0 : Int32) + (p1 &&& (268435455 : Int32)))), .val (.int (1 : Int32)), .unset, .unset] [(.int (p3 &&& (268435455 : Int32))), (.int ((1 : Int32) + (p2 &&& (268435455 : Int32))))]))
    refine OwnEnd.go (fun _ k => XS.iadd X158.here hx rfl (hb hby at_287) rfl k) ?_
    show OwnEnd p e below s _ _ _ (T158.setTop (mkF m 288 #[.val (.int p1), .val (.int p2), .val (.int p3), .val (.int p4), .val (.int p5), .val (.int p6), .val (.int (p1 &&& (268435455 : Int32))), .val (.int (p2 &&& (268435455 : Int32))), .val (.int (p3 &&& (268435455 : Int32))), .val (.int (p4 &&& (268435455 : Int32))), .val (.int (p5 &&& (268435455 : Int32))), .val (.int v101), .val (.int v102), .val (.int v103), .val (.ref b104), .val (.int ((0 : Int32) + (p1 &&& (268435455 : Int32)))), .val (.int (1 : Int32)), .unset, .unset] [(.int (((1 : Int32) + (p2 &&& (268435455 : Int32))) + (p3 &&& (268435455 : Int32))))]))
    refine OwnEnd.go (fun _ k => XS.istore X158.here hx rfl (hb hby at_288) rfl  (l' := #[.val (.int p1), .val (.int p2), .val (.int p3), .val (.int p4), .val (.int p5), .val (.int p6), .val (.int (p1 &&& (268435455 : Int32))), .val (.int (p2 &&& (268435455 : Int32))), .val (.int (p3 &&& (268435455 : Int32))), .val (.int (p4 &&& (268435455 : Int32))), .val (.int (p5 &&& (268435455 : Int32))), .val (.int v101), .val (.int v102), .val (.int v103), .val (.ref b104), .val (.int ((0 : Int32) + (p1 &&& (268435455 : Int32)))), .val (.int (1 : Int32)), .val (.int (((1 : Int32) + (p2 &&& (268435455 : Int32))) + (p3 &&& (268435455 : Int32)))), .unset]) rfl k) ?_
    show OwnEnd p e below s _ _ _ (T158.setTop (mkF m 290 #[.val (.int p1), .val (.int p2), .val (.int p3), .val (.int p4), .val (.int p5), .val (.int p6), .val (.int (p1 &&& (268435455 : Int32))), .val (.int (p2 &&& (268435455 : Int32))), .val (.int (p3 &&& (268435455 : Int32))), .val (.int (p4 &&& (268435455 : Int32))), .val (.int (p5 &&& (268435455 : Int32))), .val (.int v101), .val (.int v102), .val (.int v103), .val (.ref b104), .val (.int ((0 : Int32) + (p1 &&& (268435455 : Int32)))), .val (.int (1 : Int32)), .val (.int (((1 : Int32) + (p2 &&& (268435455 : Int32))) + (p3 &&& (268435455 : Int32)))), .unset] []))
    refine OwnEnd.go (fun _ k => XS.iload X158.here hx rfl (hb hby at_290) rfl  k) ?_
    show OwnEnd p e below s _ _ _ (T158.setTop (mkF m 292 #[.val (.int p1), .val (.int p2), .val (.int p3), .val (.int p4), .val (.int p5), .val (.int p6), .val (.int (p1 &&& (268435455 : Int32))), .val (.int (p2 &&& (268435455 : Int32))), .val (.int (p3 &&& (268435455 : Int32))), .val (.int (p4 &&& (268435455 : Int32))), .val (.int (p5 &&& (268435455 : Int32))), .val (.int v101), .val (.int v102), .val (.int v103), .val (.ref b104), .val (.int ((0 : Int32) + (p1 &&& (268435455 : Int32)))), .val (.int (1 : Int32)), .val (.int (((1 : Int32) + (p2 &&& (268435455 : Int32))) + (p3 &&& (268435455 : Int32)))), .unset] [(.int v102)]))
    refine OwnEnd.go (fun _ k => XS.ifYes X158.here hx rfl (pc0 := 292) (pc' := 300) rfl (hb hby at_292) rfl ((if0 _ _).trans (teq hc149).1) (by decide) (by decide) k) ?_
    show OwnEnd p e below s _ _ _ (T158.setTop (mkF m 300 #[.val (.int p1), .val (.int p2), .val (.int p3), .val (.int p4), .val (.int p5), .val (.int p6), .val (.int (p1 &&& (268435455 : Int32))), .val (.int (p2 &&& (268435455 : Int32))), .val (.int (p3 &&& (268435455 : Int32))), .val (.int (p4 &&& (268435455 : Int32))), .val (.int (p5 &&& (268435455 : Int32))), .val (.int v101), .val (.int v102), .val (.int v103), .val (.ref b104), .val (.int ((0 : Int32) + (p1 &&& (268435455 : Int32)))), .val (.int (1 : Int32)), .val (.int (((1 : Int32) + (p2 &&& (268435455 : Int32))) + (p3 &&& (268435455 : Int32)))), .unset] []))
    refine OwnEnd.go (fun _ k => XS.iload X158.here hx rfl (hb hby at_300) rfl  k) ?_
    show OwnEnd p e below s _ _ _ (T158.setTop (mkF m 302 #[.val (.int p1), .val (.int p2), .val (.int p3), .val (.int p4), .val (.int p5), .val (.int p6), .val (.int (p1 &&& (268435455 : Int32))), .val (.int (p2 &&& (268435455 : Int32))), .val (.int (p3 &&& (268435455 : Int32))), .val (.int (p4 &&& (268435455 : Int32))), .val (.int (p5 &&& (268435455 : Int32))), .val (.int v101), .val (.int v102), .val (.int v103), .val (.ref b104), .val (.int ((0 : Int32) + (p1 &&& (268435455 : Int32)))), .val (.int (1 : Int32)), .val (.int (((1 : Int32) + (p2 &&& (268435455 : Int32))) + (p3 &&& (268435455 : Int32)))), .unset] [(.int (p4 &&& (268435455 : Int32)))]))
    refine OwnEnd.go (fun _ k => XS.iload X158.here hx rfl (hb hby at_302) rfl  k) ?_
    show OwnEnd p e below s _ _ _ (T158.setTop (mkF m 304 #[.val (.int p1), .val (.int p2), .val (.int p3), .val (.int p4), .val (.int p5), .val (.int p6), .val (.int (p1 &&& (268435455 : Int32))), .val (.int (p2 &&& (268435455 : Int32))), .val (.int (p3 &&& (268435455 : Int32))), .val (.int (p4 &&& (268435455 : Int32))), .val (.int (p5 &&& (268435455 : Int32))), .val (.int v101), .val (.int v102), .val (.int v103), .val (.ref b104), .val (.int ((0 : Int32) + (p1 &&& (268435455 : Int32)))), .val (.int (1 : Int32)), .val (.int (((1 : Int32) + (p2 &&& (268435455 : Int32))) + (p3 &&& (268435455 : Int32)))), .unset] [(.int (p5 &&& (268435455 : Int32))), (.int (p4 &&& (268435455 : Int32)))]))
    refine OwnEnd.go (fun _ k => XS.iadd X158.here hx rfl (hb hby at_304) rfl k) ?_
    show OwnEnd p e below s _ _ _ (T158.setTop (mkF m 305 #[.val (.int p1), .val (.int p2), .val (.int p3), .val (.int p4), .val (.int p5), .val (.int p6), .val (.int (p1 &&& (268435455 : Int32))), .val (.int (p2 &&& (268435455 : Int32))), .val (.int (p3 &&& (268435455 : Int32))), .val (.int (p4 &&& (268435455 : Int32))), .val (.int (p5 &&& (268435455 : Int32))), .val (.int v101), .val (.int v102), .val (.int v103), .val (.ref b104), .val (.int ((0 : Int32) + (p1 &&& (268435455 : Int32)))), .val (.int (1 : Int32)), .val (.int (((1 : Int32) + (p2 &&& (268435455 : Int32))) + (p3 &&& (268435455 : Int32)))), .unset] [(.int ((p4 &&& (268435455 : Int32)) + (p5 &&& (268435455 : Int32))))]))
    refine OwnEnd.go (fun _ k => XS.istore X158.here hx rfl (hb hby at_305) rfl  (l' := #[.val (.int p1), .val (.int p2), .val (.int p3), .val (.int p4), .val (.int p5), .val (.int p6), .val (.int (p1 &&& (268435455 : Int32))), .val (.int (p2 &&& (268435455 : Int32))), .val (.int (p3 &&& (268435455 : Int32))), .val (.int (p4 &&& (268435455 : Int32))), .val (.int (p5 &&& (268435455 : Int32))), .val (.int v101), .val (.int v102), .val (.int v103), .val (.ref b104), .val (.int ((0 : Int32) + (p1 &&& (268435455 : Int32)))), .val (.int (1 : Int32)), .val (.int (((1 : Int32) + (p2 &&& (268435455 : Int32))) + (p3 &&& (268435455 : Int32)))), .val (.int ((p4 &&& (268435455 : Int32)) + (p5 &&& (268435455 : Int32))))]) rfl k) ?_
    show OwnEnd p e below s _ _ _ (T158.setTop (mkF m 307 #[.val (.int p1), .val (.int p2), .val (.int p3), .val (.int p4), .val (.int p5), .val (.int p6), .val (.int (p1 &&& (268435455 : Int32))), .val (.int (p2 &&& (268435455 : Int32))), .val (.int (p3 &&& (268435455 : Int32))), .val (.int (p4 &&& (268435455 : Int32))), .val (.int (p5 &&& (268435455 : Int32))), .val (.int v101), .val (.int v102), .val (.int v103), .val (.ref b104), .val (.int ((0 : Int32) + (p1 &&& (268435455 : Int32)))), .val (.int (1 : Int32)), .val (.int (((1 : Int32) + (p2 &&& (268435455 : Int32))) + (p3 &&& (268435455 : Int32)))), .val (.int ((p4 &&& (268435455 : Int32)) + (p5 &&& (268435455 : Int32))))] []))
    refine OwnEnd.go (fun _ k => XS.iload X158.here hx rfl (hb hby at_307) rfl  k) ?_
    show OwnEnd p e below s _ _ _ (T158.setTop (mkF m 309 #[.val (.int p1), .val (.int p2), .val (.int p3), .val (.int p4), .val (.int p5), .val (.int p6), .val (.int (p1 &&& (268435455 : Int32))), .val (.int (p2 &&& (268435455 : Int32))), .val (.int (p3 &&& (268435455 : Int32))), .val (.int (p4 &&& (268435455 : Int32))), .val (.int (p5 &&& (268435455 : Int32))), .val (.int v101), .val (.int v102), .val (.int v103), .val (.ref b104), .val (.int ((0 : Int32) + (p1 &&& (268435455 : Int32)))), .val (.int (1 : Int32)), .val (.int (((1 : Int32) + (p2 &&& (268435455 : Int32))) + (p3 &&& (268435455 : Int32)))), .val (.int ((p4 &&& (268435455 : Int32)) + (p5 &&& (268435455 : Int32))))] [(.int (1 : Int32))]))
    refine OwnEnd.go (fun _ k => XS.ifNo X158.here hx rfl (hb hby at_309) rfl ((if0 _ _).trans (feq (by decide : ¬ (1 : Int32) = (0 : Int32))).1) k) ?_
    show OwnEnd p e below s _ _ _ (T158.setTop (mkF m 312 #[.val (.int p1), .val (.int p2), .val (.int p3), .val (.int p4), .val (.int p5), .val (.int p6), .val (.int (p1 &&& (268435455 : Int32))), .val (.int (p2 &&& (268435455 : Int32))), .val (.int (p3 &&& (268435455 : Int32))), .val (.int (p4 &&& (268435455 : Int32))), .val (.int (p5 &&& (268435455 : Int32))), .val (.int v101), .val (.int v102), .val (.int v103), .val (.ref b104), .val (.int ((0 : Int32) + (p1 &&& (268435455 : Int32)))), .val (.int (1 : Int32)), .val (.int (((1 : Int32) + (p2 &&& (268435455 : Int32))) + (p3 &&& (268435455 : Int32)))), .val (.int ((p4 &&& (268435455 : Int32)) + (p5 &&& (268435455 : Int32))))] []))
    refine OwnEnd.go (fun _ k => XS.aload X158.here hx rfl (hb hby at_312) rfl rfl k) ?_
    show OwnEnd p e below s _ _ _ (T158.setTop (mkF m 314 #[.val (.int p1), .val (.int p2), .val (.int p3), .val (.int p4), .val (.int p5), .val (.int p6), .val (.int (p1 &&& (268435455 : Int32))), .val (.int (p2 &&& (268435455 : Int32))), .val (.int (p3 &&& (268435455 : Int32))), .val (.int (p4 &&& (268435455 : Int32))), .val (.int (p5 &&& (268435455 : Int32))), .val (.int v101), .val (.int v102), .val (.int v103), .val (.ref b104), .val (.int ((0 : Int32) + (p1 &&& (268435455 : Int32)))), .val (.int (1 : Int32)), .val (.int (((1 : Int32) + (p2 &&& (268435455 : Int32))) + (p3 &&& (268435455 : Int32)))), .val (.int ((p4 &&& (268435455 : Int32)) + (p5 &&& (268435455 : Int32))))] [(.ref b104)]))
    obtain ⟨_, T162, L162, X162, hQ162, st162⟩ := ownCallV X158 hx hZ hown ww61 ww62 ww64 ww63 ww3 ww65 (by decide) (rm8 l Z a0 hw [] b104 y119 y120 (((((0 : Int32) + (p1 &&& (268435455 : Int32))) + (1 : Int32)) + (p2 &&& (268435455 : Int32))) + (p3 &&& (268435455 : Int32))) ((0 : Int32) + (p1 &&& (268435455 : Int32))) (0 : Int32) (((0 : Int32) + (p4 &&& (268435455 : Int32))) + (p5 &&& (268435455 : Int32))) (0 : Int32) ((0 : Int32) + (p1 &&& (268435455 : Int32))) ((((((0 : Int32) + (p1 &&& (268435455 : Int32))) + (1 : Int32)) + (p2 &&& (268435455 : Int32))) + (p3 &&& (268435455 : Int32))) - ((0 : Int32) + (p1 &&& (268435455 : Int32)))) (((0 : Int32) + (p4 &&& (268435455 : Int32))) + (p5 &&& (268435455 : Int32))) (0 : Int32) T158.heap n0 Y158  P159) (rfl : T158.heap = T158.heap) F160 0 (by decide) (by decide) (by decide) (by decide) (g := (mkF m 314 #[.val (.int p1), .val (.int p2), .val (.int p3), .val (.int p4), .val (.int p5), .val (.int p6), .val (.int (p1 &&& (268435455 : Int32))), .val (.int (p2 &&& (268435455 : Int32))), .val (.int (p3 &&& (268435455 : Int32))), .val (.int (p4 &&& (268435455 : Int32))), .val (.int (p5 &&& (268435455 : Int32))), .val (.int v101), .val (.int v102), .val (.int v103), .val (.ref b104), .val (.int ((0 : Int32) + (p1 &&& (268435455 : Int32)))), .val (.int (1 : Int32)), .val (.int (((1 : Int32) + (p2 &&& (268435455 : Int32))) + (p3 &&& (268435455 : Int32)))), .val (.int ((p4 &&& (268435455 : Int32)) + (p5 &&& (268435455 : Int32))))] [(.ref b104)])) rfl (by rw [hml]; rfl) (argsL := []) (rest := []) (lenOf pd0_3 rfl) rfl rfl (by show 2 * 0 + _ ≤ _; exact Nat.le_of_eq rfl) (hb hby at_314)
    obtain ⟨rfl, N162q, e162⟩ := hQ162
    have N162 := Fr.app N158 N162q
    refine OwnEnd.go (fun _ k => st162 _ k) ?_
    show OwnEnd p e below s _ _ _ (T162.setTop (mkF m 317 #[.val (.int p1), .val (.int p2), .val (.int p3), .val (.int p4), .val (.int p5), .val (.int p6), .val (.int (p1 &&& (268435455 : Int32))), .val (.int (p2 &&& (268435455 : Int32))), .val (.int (p3 &&& (268435455 : Int32))), .val (.int (p4 &&& (268435455 : Int32))), .val (.int (p5 &&& (268435455 : Int32))), .val (.int v101), .val (.int v102), .val (.int v103), .val (.ref b104), .val (.int ((0 : Int32) + (p1 &&& (268435455 : Int32)))), .val (.int (1 : Int32)), .val (.int (((1 : Int32) + (p2 &&& (268435455 : Int32))) + (p3 &&& (268435455 : Int32)))), .val (.int ((p4 &&& (268435455 : Int32)) + (p5 &&& (268435455 : Int32))))] [(.int ((0 : Int32) + (p1 &&& (268435455 : Int32))))]))
    refine OwnEnd.go (fun _ k => XS.iload X162.here hx rfl (hb hby at_317) rfl  k) ?_
    show OwnEnd p e below s _ _ _ (T162.setTop (mkF m 319 #[.val (.int p1), .val (.int p2), .val (.int p3), .val (.int p4), .val (.int p5), .val (.int p6), .val (.int (p1 &&& (268435455 : Int32))), .val (.int (p2 &&& (268435455 : Int32))), .val (.int (p3 &&& (268435455 : Int32))), .val (.int (p4 &&& (268435455 : Int32))), .val (.int (p5 &&& (268435455 : Int32))), .val (.int v101), .val (.int v102), .val (.int v103), .val (.ref b104), .val (.int ((0 : Int32) + (p1 &&& (268435455 : Int32)))), .val (.int (1 : Int32)), .val (.int (((1 : Int32) + (p2 &&& (268435455 : Int32))) + (p3 &&& (268435455 : Int32)))), .val (.int ((p4 &&& (268435455 : Int32)) + (p5 &&& (268435455 : Int32))))] [(.int (p1 &&& (268435455 : Int32))), (.int ((0 : Int32) + (p1 &&& (268435455 : Int32))))]))
    refine OwnEnd.go (fun _ k => XS.icmpNo X162.here hx rfl (hb hby at_319) rfl (teq (own_s1 p1 p2 p3 p4 p5 p6)).2 k) ?_
    show OwnEnd p e below s _ _ _ (T162.setTop (mkF m 322 #[.val (.int p1), .val (.int p2), .val (.int p3), .val (.int p4), .val (.int p5), .val (.int p6), .val (.int (p1 &&& (268435455 : Int32))), .val (.int (p2 &&& (268435455 : Int32))), .val (.int (p3 &&& (268435455 : Int32))), .val (.int (p4 &&& (268435455 : Int32))), .val (.int (p5 &&& (268435455 : Int32))), .val (.int v101), .val (.int v102), .val (.int v103), .val (.ref b104), .val (.int ((0 : Int32) + (p1 &&& (268435455 : Int32)))), .val (.int (1 : Int32)), .val (.int (((1 : Int32) + (p2 &&& (268435455 : Int32))) + (p3 &&& (268435455 : Int32)))), .val (.int ((p4 &&& (268435455 : Int32)) + (p5 &&& (268435455 : Int32))))] []))
    refine OwnEnd.go (fun _ k => XS.aload X162.here hx rfl (hb hby at_322) rfl rfl k) ?_
    show OwnEnd p e below s _ _ _ (T162.setTop (mkF m 324 #[.val (.int p1), .val (.int p2), .val (.int p3), .val (.int p4), .val (.int p5), .val (.int p6), .val (.int (p1 &&& (268435455 : Int32))), .val (.int (p2 &&& (268435455 : Int32))), .val (.int (p3 &&& (268435455 : Int32))), .val (.int (p4 &&& (268435455 : Int32))), .val (.int (p5 &&& (268435455 : Int32))), .val (.int v101), .val (.int v102), .val (.int v103), .val (.ref b104), .val (.int ((0 : Int32) + (p1 &&& (268435455 : Int32)))), .val (.int (1 : Int32)), .val (.int (((1 : Int32) + (p2 &&& (268435455 : Int32))) + (p3 &&& (268435455 : Int32)))), .val (.int ((p4 &&& (268435455 : Int32)) + (p5 &&& (268435455 : Int32))))] [(.ref b104)]))
    obtain ⟨_, T163, L163, X163, hQ163, st163⟩ := ownCallV X162 hx hZ hown ww66 ww67 ww69 ww68 ww3 ww70 (by decide) (rm9 l Z a0 hw [] b104 y119 y120 (((((0 : Int32) + (p1 &&& (268435455 : Int32))) + (1 : Int32)) + (p2 &&& (268435455 : Int32))) + (p3 &&& (268435455 : Int32))) ((0 : Int32) + (p1 &&& (268435455 : Int32))) (0 : Int32) (((0 : Int32) + (p4 &&& (268435455 : Int32))) + (p5 &&& (268435455 : Int32))) (0 : Int32) ((0 : Int32) + (p1 &&& (268435455 : Int32))) ((((((0 : Int32) + (p1 &&& (268435455 : Int32))) + (1 : Int32)) + (p2 &&& (268435455 : Int32))) + (p3 &&& (268435455 : Int32))) - ((0 : Int32) + (p1 &&& (268435455 : Int32)))) (((0 : Int32) + (p4 &&& (268435455 : Int32))) + (p5 &&& (268435455 : Int32))) (0 : Int32) T158.heap n0 Y158  P159) e162 F160 0 (by decide) (by decide) (by decide) (by decide) (g := (mkF m 324 #[.val (.int p1), .val (.int p2), .val (.int p3), .val (.int p4), .val (.int p5), .val (.int p6), .val (.int (p1 &&& (268435455 : Int32))), .val (.int (p2 &&& (268435455 : Int32))), .val (.int (p3 &&& (268435455 : Int32))), .val (.int (p4 &&& (268435455 : Int32))), .val (.int (p5 &&& (268435455 : Int32))), .val (.int v101), .val (.int v102), .val (.int v103), .val (.ref b104), .val (.int ((0 : Int32) + (p1 &&& (268435455 : Int32)))), .val (.int (1 : Int32)), .val (.int (((1 : Int32) + (p2 &&& (268435455 : Int32))) + (p3 &&& (268435455 : Int32)))), .val (.int ((p4 &&& (268435455 : Int32)) + (p5 &&& (268435455 : Int32))))] [(.ref b104)])) rfl (by rw [hml]; rfl) (argsL := []) (rest := []) (lenOf pd0_3 rfl) rfl rfl (by show 2 * 0 + _ ≤ _; exact Nat.le_of_eq rfl) (hb hby at_324)
    obtain ⟨rfl, N163q, e163⟩ := hQ163
    have N163 := Fr.app N162 N163q
    refine OwnEnd.go (fun _ k => st163 _ k) ?_
    show OwnEnd p e below s _ _ _ (T163.setTop (mkF m 327 #[.val (.int p1), .val (.int p2), .val (.int p3), .val (.int p4), .val (.int p5), .val (.int p6), .val (.int (p1 &&& (268435455 : Int32))), .val (.int (p2 &&& (268435455 : Int32))), .val (.int (p3 &&& (268435455 : Int32))), .val (.int (p4 &&& (268435455 : Int32))), .val (.int (p5 &&& (268435455 : Int32))), .val (.int v101), .val (.int v102), .val (.int v103), .val (.ref b104), .val (.int ((0 : Int32) + (p1 &&& (268435455 : Int32)))), .val (.int (1 : Int32)), .val (.int (((1 : Int32) + (p2 &&& (268435455 : Int32))) + (p3 &&& (268435455 : Int32)))), .val (.int ((p4 &&& (268435455 : Int32)) + (p5 &&& (268435455 : Int32))))] [(.int ((((((0 : Int32) + (p1 &&& (268435455 : Int32))) + (1 : Int32)) + (p2 &&& (268435455 : Int32))) + (p3 &&& (268435455 : Int32))) - ((0 : Int32) + (p1 &&& (268435455 : Int32)))))]))
    refine OwnEnd.go (fun _ k => XS.iload X163.here hx rfl (hb hby at_327) rfl  k) ?_
    show OwnEnd p e below s _ _ _ (T163.setTop (mkF m 329 #[.val (.int p1), .val (.int p2), .val (.int p3), .val (.int p4), .val (.int p5), .val (.int p6), .val (.int (p1 &&& (268435455 : Int32))), .val (.int (p2 &&& (268435455 : Int32))), .val (.int (p3 &&& (268435455 : Int32))), .val (.int (p4 &&& (268435455 : Int32))), .val (.int (p5 &&& (268435455 : Int32))), .val (.int v101), .val (.int v102), .val (.int v103), .val (.ref b104), .val (.int ((0 : Int32) + (p1 &&& (268435455 : Int32)))), .val (.int (1 : Int32)), .val (.int (((1 : Int32) + (p2 &&& (268435455 : Int32))) + (p3 &&& (268435455 : Int32)))), .val (.int ((p4 &&& (268435455 : Int32)) + (p5 &&& (268435455 : Int32))))] [(.int (((1 : Int32) + (p2 &&& (268435455 : Int32))) + (p3 &&& (268435455 : Int32)))), (.int ((((((0 : Int32) + (p1 &&& (268435455 : Int32))) + (1 : Int32)) + (p2 &&& (268435455 : Int32))) + (p3 &&& (268435455 : Int32))) - ((0 : Int32) + (p1 &&& (268435455 : Int32)))))]))
    refine OwnEnd.go (fun _ k => XS.icmpNo X163.here hx rfl (hb hby at_329) rfl (teq (own_s2 p1 p2 p3 p4 p5 p6)).2 k) ?_
    show OwnEnd p e below s _ _ _ (T163.setTop (mkF m 332 #[.val (.int p1), .val (.int p2), .val (.int p3), .val (.int p4), .val (.int p5), .val (.int p6), .val (.int (p1 &&& (268435455 : Int32))), .val (.int (p2 &&& (268435455 : Int32))), .val (.int (p3 &&& (268435455 : Int32))), .val (.int (p4 &&& (268435455 : Int32))), .val (.int (p5 &&& (268435455 : Int32))), .val (.int v101), .val (.int v102), .val (.int v103), .val (.ref b104), .val (.int ((0 : Int32) + (p1 &&& (268435455 : Int32)))), .val (.int (1 : Int32)), .val (.int (((1 : Int32) + (p2 &&& (268435455 : Int32))) + (p3 &&& (268435455 : Int32)))), .val (.int ((p4 &&& (268435455 : Int32)) + (p5 &&& (268435455 : Int32))))] []))
    refine OwnEnd.go (fun _ k => XS.aload X163.here hx rfl (hb hby at_332) rfl rfl k) ?_
    show OwnEnd p e below s _ _ _ (T163.setTop (mkF m 334 #[.val (.int p1), .val (.int p2), .val (.int p3), .val (.int p4), .val (.int p5), .val (.int p6), .val (.int (p1 &&& (268435455 : Int32))), .val (.int (p2 &&& (268435455 : Int32))), .val (.int (p3 &&& (268435455 : Int32))), .val (.int (p4 &&& (268435455 : Int32))), .val (.int (p5 &&& (268435455 : Int32))), .val (.int v101), .val (.int v102), .val (.int v103), .val (.ref b104), .val (.int ((0 : Int32) + (p1 &&& (268435455 : Int32)))), .val (.int (1 : Int32)), .val (.int (((1 : Int32) + (p2 &&& (268435455 : Int32))) + (p3 &&& (268435455 : Int32)))), .val (.int ((p4 &&& (268435455 : Int32)) + (p5 &&& (268435455 : Int32))))] [(.ref b104)]))
    obtain ⟨_, T164, L164, X164, hQ164, st164⟩ := ownCallV X163 hx hZ hown ww71 ww72 ww74 ww73 ww3 ww75 (by decide) (rm10 l Z a0 hw [] b104 y119 y120 (((((0 : Int32) + (p1 &&& (268435455 : Int32))) + (1 : Int32)) + (p2 &&& (268435455 : Int32))) + (p3 &&& (268435455 : Int32))) ((0 : Int32) + (p1 &&& (268435455 : Int32))) (0 : Int32) (((0 : Int32) + (p4 &&& (268435455 : Int32))) + (p5 &&& (268435455 : Int32))) (0 : Int32) ((0 : Int32) + (p1 &&& (268435455 : Int32))) ((((((0 : Int32) + (p1 &&& (268435455 : Int32))) + (1 : Int32)) + (p2 &&& (268435455 : Int32))) + (p3 &&& (268435455 : Int32))) - ((0 : Int32) + (p1 &&& (268435455 : Int32)))) (((0 : Int32) + (p4 &&& (268435455 : Int32))) + (p5 &&& (268435455 : Int32))) (0 : Int32) T158.heap n0 Y158  P159) e163 F160 0 (by decide) (by decide) (by decide) (by decide) (g := (mkF m 334 #[.val (.int p1), .val (.int p2), .val (.int p3), .val (.int p4), .val (.int p5), .val (.int p6), .val (.int (p1 &&& (268435455 : Int32))), .val (.int (p2 &&& (268435455 : Int32))), .val (.int (p3 &&& (268435455 : Int32))), .val (.int (p4 &&& (268435455 : Int32))), .val (.int (p5 &&& (268435455 : Int32))), .val (.int v101), .val (.int v102), .val (.int v103), .val (.ref b104), .val (.int ((0 : Int32) + (p1 &&& (268435455 : Int32)))), .val (.int (1 : Int32)), .val (.int (((1 : Int32) + (p2 &&& (268435455 : Int32))) + (p3 &&& (268435455 : Int32)))), .val (.int ((p4 &&& (268435455 : Int32)) + (p5 &&& (268435455 : Int32))))] [(.ref b104)])) rfl (by rw [hml]; rfl) (argsL := []) (rest := []) (lenOf pd0_3 rfl) rfl rfl (by show 2 * 0 + _ ≤ _; exact Nat.le_of_eq rfl) (hb hby at_334)
    obtain ⟨rfl, N164q, e164⟩ := hQ164
    have N164 := Fr.app N163 N164q
    refine OwnEnd.go (fun _ k => st164 _ k) ?_
    show OwnEnd p e below s _ _ _ (T164.setTop (mkF m 337 #[.val (.int p1), .val (.int p2), .val (.int p3), .val (.int p4), .val (.int p5), .val (.int p6), .val (.int (p1 &&& (268435455 : Int32))), .val (.int (p2 &&& (268435455 : Int32))), .val (.int (p3 &&& (268435455 : Int32))), .val (.int (p4 &&& (268435455 : Int32))), .val (.int (p5 &&& (268435455 : Int32))), .val (.int v101), .val (.int v102), .val (.int v103), .val (.ref b104), .val (.int ((0 : Int32) + (p1 &&& (268435455 : Int32)))), .val (.int (1 : Int32)), .val (.int (((1 : Int32) + (p2 &&& (268435455 : Int32))) + (p3 &&& (268435455 : Int32)))), .val (.int ((p4 &&& (268435455 : Int32)) + (p5 &&& (268435455 : Int32))))] [(.int (((0 : Int32) + (p4 &&& (268435455 : Int32))) + (p5 &&& (268435455 : Int32))))]))
    refine OwnEnd.go (fun _ k => XS.iload X164.here hx rfl (hb hby at_337) rfl  k) ?_
    show OwnEnd p e below s _ _ _ (T164.setTop (mkF m 339 #[.val (.int p1), .val (.int p2), .val (.int p3), .val (.int p4), .val (.int p5), .val (.int p6), .val (.int (p1 &&& (268435455 : Int32))), .val (.int (p2 &&& (268435455 : Int32))), .val (.int (p3 &&& (268435455 : Int32))), .val (.int (p4 &&& (268435455 : Int32))), .val (.int (p5 &&& (268435455 : Int32))), .val (.int v101), .val (.int v102), .val (.int v103), .val (.ref b104), .val (.int ((0 : Int32) + (p1 &&& (268435455 : Int32)))), .val (.int (1 : Int32)), .val (.int (((1 : Int32) + (p2 &&& (268435455 : Int32))) + (p3 &&& (268435455 : Int32)))), .val (.int ((p4 &&& (268435455 : Int32)) + (p5 &&& (268435455 : Int32))))] [(.int ((p4 &&& (268435455 : Int32)) + (p5 &&& (268435455 : Int32)))), (.int (((0 : Int32) + (p4 &&& (268435455 : Int32))) + (p5 &&& (268435455 : Int32))))]))
    refine OwnEnd.go (fun _ k => XS.icmpNo X164.here hx rfl (hb hby at_339) rfl (teq (own_s3 p1 p2 p3 p4 p5 p6)).2 k) ?_
    show OwnEnd p e below s _ _ _ (T164.setTop (mkF m 342 #[.val (.int p1), .val (.int p2), .val (.int p3), .val (.int p4), .val (.int p5), .val (.int p6), .val (.int (p1 &&& (268435455 : Int32))), .val (.int (p2 &&& (268435455 : Int32))), .val (.int (p3 &&& (268435455 : Int32))), .val (.int (p4 &&& (268435455 : Int32))), .val (.int (p5 &&& (268435455 : Int32))), .val (.int v101), .val (.int v102), .val (.int v103), .val (.ref b104), .val (.int ((0 : Int32) + (p1 &&& (268435455 : Int32)))), .val (.int (1 : Int32)), .val (.int (((1 : Int32) + (p2 &&& (268435455 : Int32))) + (p3 &&& (268435455 : Int32)))), .val (.int ((p4 &&& (268435455 : Int32)) + (p5 &&& (268435455 : Int32))))] []))
    refine OwnEnd.go (fun _ k => XS.iconst X164.here hx rfl (hb hby at_342) k) ?_
    show OwnEnd p e below s _ _ _ (T164.setTop (mkF m 343 #[.val (.int p1), .val (.int p2), .val (.int p3), .val (.int p4), .val (.int p5), .val (.int p6), .val (.int (p1 &&& (268435455 : Int32))), .val (.int (p2 &&& (268435455 : Int32))), .val (.int (p3 &&& (268435455 : Int32))), .val (.int (p4 &&& (268435455 : Int32))), .val (.int (p5 &&& (268435455 : Int32))), .val (.int v101), .val (.int v102), .val (.int v103), .val (.ref b104), .val (.int ((0 : Int32) + (p1 &&& (268435455 : Int32)))), .val (.int (1 : Int32)), .val (.int (((1 : Int32) + (p2 &&& (268435455 : Int32))) + (p3 &&& (268435455 : Int32)))), .val (.int ((p4 &&& (268435455 : Int32)) + (p5 &&& (268435455 : Int32))))] [(.int (1 : Int32))]))
    refine OwnEnd.go (fun _ k => XS.goto X164.here hx rfl (pc0 := 343) (pc' := 347) rfl (hb hby at_343) (by decide) (by decide) k) ?_
    show OwnEnd p e below s _ _ _ (T164.setTop (mkF m 347 #[.val (.int p1), .val (.int p2), .val (.int p3), .val (.int p4), .val (.int p5), .val (.int p6), .val (.int (p1 &&& (268435455 : Int32))), .val (.int (p2 &&& (268435455 : Int32))), .val (.int (p3 &&& (268435455 : Int32))), .val (.int (p4 &&& (268435455 : Int32))), .val (.int (p5 &&& (268435455 : Int32))), .val (.int v101), .val (.int v102), .val (.int v103), .val (.ref b104), .val (.int ((0 : Int32) + (p1 &&& (268435455 : Int32)))), .val (.int (1 : Int32)), .val (.int (((1 : Int32) + (p2 &&& (268435455 : Int32))) + (p3 &&& (268435455 : Int32)))), .val (.int ((p4 &&& (268435455 : Int32)) + (p5 &&& (268435455 : Int32))))] [(.int (1 : Int32))]))
    refine ownRetZ X164 hx hlk hret (hb hby at_347) (by decide) (by decide) (1 : Int32) (by decide) ?_
    show Q0 Z p1 p2 p3 p4 p5 p6 a_DOCUMENT a_ELEMENT a_ATTRIBUTE h0 n0 _ T164.heap _
    rw [e164]
    exact ⟨rfl, N164⟩
  · refine OwnEnd.go (fun _ k => XS.ifNo X145.here hx rfl (hb hby at_140) rfl ((if0 _ _).trans (feq hc149).1) k) ?_
    show OwnEnd p e below s _ _ _ (T145.setTop (mkF m 143 #[.val (.int p1), .val (.int p2), .val (.int p3), .val (.int p4), .val (.int p5), .val (.int p6), .val (.int (p1 &&& (268435455 : Int32))), .val (.int (p2 &&& (268435455 : Int32))), .val (.int (p3 &&& (268435455 : Int32))), .val (.int (p4 &&& (268435455 : Int32))), .val (.int (p5 &&& (268435455 : Int32))), .val (.int v101), .val (.int v102), .val (.int v103), .val (.ref b104), .val (.int ((0 : Int32) + (p1 &&& (268435455 : Int32)))), .val (.int (1 : Int32)), .unset, .unset] []))
    refine OwnEnd.go (fun _ k => XS.aload X145.here hx rfl (hb hby at_143) rfl rfl k) ?_
    show OwnEnd p e below s _ _ _ (T145.setTop (mkF m 145 #[.val (.int p1), .val (.int p2), .val (.int p3), .val (.int p4), .val (.int p5), .val (.int p6), .val (.int (p1 &&& (268435455 : Int32))), .val (.int (p2 &&& (268435455 : Int32))), .val (.int (p3 &&& (268435455 : Int32))), .val (.int (p4 &&& (268435455 : Int32))), .val (.int (p5 &&& (268435455 : Int32))), .val (.int v101), .val (.int v102), .val (.int v103), .val (.ref b104), .val (.int ((0 : Int32) + (p1 &&& (268435455 : Int32)))), .val (.int (1 : Int32)), .unset, .unset] [(.ref b104)]))
    refine OwnEnd.go (fun _ k => XS.iload X145.here hx rfl (hb hby at_145) rfl  k) ?_
    show OwnEnd p e below s _ _ _ (T145.setTop (mkF m 147 #[.val (.int p1), .val (.int p2), .val (.int p3), .val (.int p4), .val (.int p5), .val (.int p6), .val (.int (p1 &&& (268435455 : Int32))), .val (.int (p2 &&& (268435455 : Int32))), .val (.int (p3 &&& (268435455 : Int32))), .val (.int (p4 &&& (268435455 : Int32))), .val (.int (p5 &&& (268435455 : Int32))), .val (.int v101), .val (.int v102), .val (.int v103), .val (.ref b104), .val (.int ((0 : Int32) + (p1 &&& (268435455 : Int32)))), .val (.int (1 : Int32)), .unset, .unset] [(.int v103), (.ref b104)]))
    have D165 : ownDia X145 T145.heap (fun v : Addr => v = a_ELEMENT ∨ v = a_DOCUMENT) (fun v => (mkF m 159 #[.val (.int p1), .val (.int p2), .val (.int p3), .val (.int p4), .val (.int p5), .val (.int p6), .val (.int (p1 &&& (268435455 : Int32))), .val (.int (p2 &&& (268435455 : Int32))), .val (.int (p3 &&& (268435455 : Int32))), .val (.int (p4 &&& (268435455 : Int32))), .val (.int (p5 &&& (268435455 : Int32))), .val (.int v101), .val (.int v102), .val (.int v103), .val (.ref b104), .val (.int ((0 : Int32) + (p1 &&& (268435455 : Int32)))), .val (.int (1 : Int32)), .unset, .unset] [(.ref v), (.ref b104)])) (mkF m 147 #[.val (.int p1), .val (.int p2), .val (.int p3), .val (.int p4), .val (.int p5), .val (.int p6), .val (.int (p1 &&& (268435455 : Int32))), .val (.int (p2 &&& (268435455 : Int32))), .val (.int (p3 &&& (268435455 : Int32))), .val (.int (p4 &&& (268435455 : Int32))), .val (.int (p5 &&& (268435455 : Int32))), .val (.int v101), .val (.int v102), .val (.int v103), .val (.ref b104), .val (.int ((0 : Int32) + (p1 &&& (268435455 : Int32)))), .val (.int (1 : Int32)), .unset, .unset] [(.int v103), (.ref b104)]) := by
      by_cases hc : v103 = (0 : Int32)
      · obtain ⟨T166, X166, e166, st166⟩ := getS2 X145 hx hZ hown (host := "") (Or.inl ww49) Via.refl (rfl : T145.heap = T145.heap) (S_ELEMENT.ext O145.2) (g := (mkF m 156 #[.val (.int p1), .val (.int p2), .val (.int p3), .val (.int p4), .val (.int p5), .val (.int p6), .val (.int (p1 &&& (268435455 : Int32))), .val (.int (p2 &&& (268435455 : Int32))), .val (.int (p3 &&& (268435455 : Int32))), .val (.int (p4 &&& (268435455 : Int32))), .val (.int (p5 &&& (268435455 : Int32))), .val (.int v101), .val (.int v102), .val (.int v103), .val (.ref b104), .val (.int ((0 : Int32) + (p1 &&& (268435455 : Int32)))), .val (.int (1 : Int32)), .unset, .unset] [(.ref b104)])) rfl (hb hby at_156)
        refine ⟨_, a_ELEMENT, X166, e166, (Or.inl rfl), fun t k => ?_⟩
        refine XS.ifYes X145.here hx rfl (pc0 := 147) (pc' := 156) rfl (hb hby at_147) rfl ((if0 _ _).trans (teq hc).1) (by decide) (by decide) ?_
        show Steps p.tables e below (T145.setTop (mkF m 156 #[.val (.int p1), .val (.int p2), .val (.int p3), .val (.int p4), .val (.int p5), .val (.int p6), .val (.int (p1 &&& (268435455 : Int32))), .val (.int (p2 &&& (268435455 : Int32))), .val (.int (p3 &&& (268435455 : Int32))), .val (.int (p4 &&& (268435455 : Int32))), .val (.int (p5 &&& (268435455 : Int32))), .val (.int v101), .val (.int v102), .val (.int v103), .val (.ref b104), .val (.int ((0 : Int32) + (p1 &&& (268435455 : Int32)))), .val (.int (1 : Int32)), .unset, .unset] [(.ref b104)])) _
        refine st166 _ ?_
        show Steps p.tables e below (T166.setTop (mkF m 159 #[.val (.int p1), .val (.int p2), .val (.int p3), .val (.int p4), .val (.int p5), .val (.int p6), .val (.int (p1 &&& (268435455 : Int32))), .val (.int (p2 &&& (268435455 : Int32))), .val (.int (p3 &&& (268435455 : Int32))), .val (.int (p4 &&& (268435455 : Int32))), .val (.int (p5 &&& (268435455 : Int32))), .val (.int v101), .val (.int v102), .val (.int v103), .val (.ref b104), .val (.int ((0 : Int32) + (p1 &&& (268435455 : Int32)))), .val (.int (1 : Int32)), .unset, .unset] [(.ref a_ELEMENT), (.ref b104)])) _
        exact k
      · obtain ⟨T167, X167, e167, st167⟩ := getS2 X145 hx hZ hown (host := "") (Or.inl ww22) Via.refl (rfl : T145.heap = T145.heap) (S_DOCUMENT.ext O145.2) (g := (mkF m 150 #[.val (.int p1), .val (.int p2), .val (.int p3), .val (.int p4), .val (.int p5), .val (.int p6), .val (.int (p1 &&& (268435455 : Int32))), .val (.int (p2 &&& (268435455 : Int32))), .val (.int (p3 &&& (268435455 : Int32))), .val (.int (p4 &&& (268435455 : Int32))), .val (.int (p5 &&& (268435455 : Int32))), .val (.int v101), .val (.int v102), .val (.int v103), .val (.ref b104), .val (.int ((0 : Int32) + (p1 &&& (268435455 : Int32)))), .val (.int (1 : Int32)), .unset, .unset] [(.ref b104)])) rfl (hb hby at_150)
        refine ⟨_, a_DOCUMENT, X167, e167, (Or.inr rfl), fun t k => ?_⟩
        refine XS.ifNo X145.here hx rfl (hb hby at_147) rfl ((if0 _ _).trans (feq hc).1) ?_
        show Steps p.tables e below (T145.setTop (mkF m 150 #[.val (.int p1), .val (.int p2), .val (.int p3), .val (.int p4), .val (.int p5), .val (.int p6), .val (.int (p1 &&& (268435455 : Int32))), .val (.int (p2 &&& (268435455 : Int32))), .val (.int (p3 &&& (268435455 : Int32))), .val (.int (p4 &&& (268435455 : Int32))), .val (.int (p5 &&& (268435455 : Int32))), .val (.int v101), .val (.int v102), .val (.int v103), .val (.ref b104), .val (.int ((0 : Int32) + (p1 &&& (268435455 : Int32)))), .val (.int (1 : Int32)), .unset, .unset] [(.ref b104)])) _
        refine st167 _ ?_
        show Steps p.tables e below (T167.setTop (mkF m 153 #[.val (.int p1), .val (.int p2), .val (.int p3), .val (.int p4), .val (.int p5), .val (.int p6), .val (.int (p1 &&& (268435455 : Int32))), .val (.int (p2 &&& (268435455 : Int32))), .val (.int (p3 &&& (268435455 : Int32))), .val (.int (p4 &&& (268435455 : Int32))), .val (.int (p5 &&& (268435455 : Int32))), .val (.int v101), .val (.int v102), .val (.int v103), .val (.ref b104), .val (.int ((0 : Int32) + (p1 &&& (268435455 : Int32)))), .val (.int (1 : Int32)), .unset, .unset] [(.ref a_DOCUMENT), (.ref b104)])) _
        refine XS.goto X167.here hx rfl (pc0 := 153) (pc' := 159) rfl (hb hby at_153) (by decide) (by decide) ?_
        show Steps p.tables e below (T167.setTop (mkF m 159 #[.val (.int p1), .val (.int p2), .val (.int p3), .val (.int p4), .val (.int p5), .val (.int p6), .val (.int (p1 &&& (268435455 : Int32))), .val (.int (p2 &&& (268435455 : Int32))), .val (.int (p3 &&& (268435455 : Int32))), .val (.int (p4 &&& (268435455 : Int32))), .val (.int (p5 &&& (268435455 : Int32))), .val (.int v101), .val (.int v102), .val (.int v103), .val (.ref b104), .val (.int ((0 : Int32) + (p1 &&& (268435455 : Int32)))), .val (.int (1 : Int32)), .unset, .unset] [(.ref a_DOCUMENT), (.ref b104)])) _
        exact k
    obtain ⟨T165, v165, X165, e165, P165, st165⟩ := D165
    refine OwnEnd.go st165 ?_
    show OwnEnd p e below s _ _ _ (T165.setTop (mkF m 159 #[.val (.int p1), .val (.int p2), .val (.int p3), .val (.int p4), .val (.int p5), .val (.int p6), .val (.int (p1 &&& (268435455 : Int32))), .val (.int (p2 &&& (268435455 : Int32))), .val (.int (p3 &&& (268435455 : Int32))), .val (.int (p4 &&& (268435455 : Int32))), .val (.int (p5 &&& (268435455 : Int32))), .val (.int v101), .val (.int v102), .val (.int v103), .val (.ref b104), .val (.int ((0 : Int32) + (p1 &&& (268435455 : Int32)))), .val (.int (1 : Int32)), .unset, .unset] [(.ref v165), (.ref b104)]))
    have nk165 : v165 ≠ a_ATTRIBUTE := fun q => P165.elim (fun z => nAE (q.symm.trans z)) (fun z => nAD (q.symm.trans z))
    obtain ⟨_, T168, L168, X168, hQ168, st168⟩ := ownCallV X165 hx hZ hown ww25 ww26 ww28 ww27 ww3 ww29 (by decide) (rm4d1open l Z a0 hw [] b104 v165 y119 y120 ((((0 : Int32) + (p1 &&& (268435455 : Int32))) + (1 : Int32)) + (p2 &&& (268435455 : Int32))) ((0 : Int32) + (p1 &&& (268435455 : Int32))) (0 : Int32) ((0 : Int32) + (p4 &&& (268435455 : Int32))) (0 : Int32) (0 : Int32) (0 : Int32) (0 : Int32) a_ATTRIBUTE a_ELEMENT a_DOCUMENT T145.heap n0 Y145 O145 S_ATTRIBUTE S_ELEMENT S_DOCUMENT nk165 P165 P146) e165 F147 0 (by decide) (by decide) (by decide) (by decide) (g := (mkF m 159 #[.val (.int p1), .val (.int p2), .val (.int p3), .val (.int p4), .val (.int p5), .val (.int p6), .val (.int (p1 &&& (268435455 : Int32))), .val (.int (p2 &&& (268435455 : Int32))), .val (.int (p3 &&& (268435455 : Int32))), .val (.int (p4 &&& (268435455 : Int32))), .val (.int (p5 &&& (268435455 : Int32))), .val (.int v101), .val (.int v102), .val (.int v103), .val (.ref b104), .val (.int ((0 : Int32) + (p1 &&& (268435455 : Int32)))), .val (.int (1 : Int32)), .unset, .unset] [(.ref v165), (.ref b104)])) rfl (by rw [hml]; rfl) (argsL := [(.ref v165)]) (rest := []) (lenOf pd0_2 rfl) rfl rfl (by show 2 * 0 + _ ≤ _; exact Nat.le_of_eq rfl) (hb hby at_159)
    obtain ⟨rfl, N168q, K168q, P169⟩ := hQ168
    have N168 := Fr.app N145 N168q
    have F170 := F147.keep K168q
    have K168 := K145.trans K168q (allS (Or.inr v104) (allS (Or.inr (Nat.le_trans K104.1 P116)) (allS (Or.inr (Nat.le_trans K104.1 P117)) all0)))
    have Y168 := Nat.le_trans Y145 K168q.1
    have O168 := O145.keep K168q (allS u104 (allS P114 (allS P115 all0)))
    refine OwnEnd.go (fun _ k => st168 _ k) ?_
    show OwnEnd p e below s _ _ _ (T168.setTop (mkF m 162 #[.val (.int p1), .val (.int p2), .val (.int p3), .val (.int p4), .val (.int p5), .val (.int p6), .val (.int (p1 &&& (268435455 : Int32))), .val (.int (p2 &&& (268435455 : Int32))), .val (.int (p3 &&& (268435455 : Int32))), .val (.int (p4 &&& (268435455 : Int32))), .val (.int (p5 &&& (268435455 : Int32))), .val (.int v101), .val (.int v102), .val (.int v103), .val (.ref b104), .val (.int ((0 : Int32) + (p1 &&& (268435455 : Int32)))), .val (.int (1 : Int32)), .unset, .unset] [(.int ((((0 : Int32) + (p1 &&& (268435455 : Int32))) + (1 : Int32)) + (p2 &&& (268435455 : Int32))))]))
    refine OwnEnd.go (fun _ k => XS.istore X168.here hx rfl (hb hby at_162) rfl  (l' := #[.val (.int p1), .val (.int p2), .val (.int p3), .val (.int p4), .val (.int p5), .val (.int p6), .val (.int (p1 &&& (268435455 : Int32))), .val (.int (p2 &&& (268435455 : Int32))), .val (.int (p3 &&& (268435455 : Int32))), .val (.int (p4 &&& (268435455 : Int32))), .val (.int (p5 &&& (268435455 : Int32))), .val (.int v101), .val (.int v102), .val (.int v103), .val (.ref b104), .val (.int ((0 : Int32) + (p1 &&& (268435455 : Int32)))), .val (.int (1 : Int32)), .val (.int ((((0 : Int32) + (p1 &&& (268435455 : Int32))) + (1 : Int32)) + (p2 &&& (268435455 : Int32)))), .unset]) rfl k) ?_
    show OwnEnd p e below s _ _ _ (T168.setTop (mkF m 164 #[.val (.int p1), .val (.int p2), .val (.int p3), .val (.int p4), .val (.int p5), .val (.int p6), .val (.int (p1 &&& (268435455 : Int32))), .val (.int (p2 &&& (268435455 : Int32))), .val (.int (p3 &&& (268435455 : Int32))), .val (.int (p4 &&& (268435455 : Int32))), .val (.int (p5 &&& (268435455 : Int32))), .val (.int v101), .val (.int v102), .val (.int v103), .val (.ref b104), .val (.int ((0 : Int32) + (p1 &&& (268435455 : Int32)))), .val (.int (1 : Int32)), .val (.int ((((0 : Int32) + (p1 &&& (268435455 : Int32))) + (1 : Int32)) + (p2 &&& (268435455 : Int32)))), .unset] []))
    refine OwnEnd.go (fun _ k => XS.aload X168.here hx rfl (hb hby at_164) rfl rfl k) ?_
    show OwnEnd p e below s _ _ _ (T168.setTop (mkF m 166 #[.val (.int p1), .val (.int p2), .val (.int p3), .val (.int p4), .val (.int p5), .val (.int p6), .val (.int (p1 &&& (268435455 : Int32))), .val (.int (p2 &&& (268435455 : Int32))), .val (.int (p3 &&& (268435455 : Int32))), .val (.int (p4 &&& (268435455 : Int32))), .val (.int (p5 &&& (268435455 : Int32))), .val (.int v101), .val (.int v102), .val (.int v103), .val (.ref b104), .val (.int ((0 : Int32) + (p1 &&& (268435455 : Int32)))), .val (.int (1 : Int32)), .val (.int ((((0 : Int32) + (p1 &&& (268435455 : Int32))) + (1 : Int32)) + (p2 &&& (268435455 : Int32)))), .unset] [(.ref b104)]))
    refine OwnEnd.go (fun _ k => XS.iload X168.here hx rfl (hb hby at_166) rfl  k) ?_
    show OwnEnd p e below s _ _ _ (T168.setTop (mkF m 168 #[.val (.int p1), .val (.int p2), .val (.int p3), .val (.int p4), .val (.int p5), .val (.int p6), .val (.int (p1 &&& (268435455 : Int32))), .val (.int (p2 &&& (268435455 : Int32))), .val (.int (p3 &&& (268435455 : Int32))), .val (.int (p4 &&& (268435455 : Int32))), .val (.int (p5 &&& (268435455 : Int32))), .val (.int v101), .val (.int v102), .val (.int v103), .val (.ref b104), .val (.int ((0 : Int32) + (p1 &&& (268435455 : Int32)))), .val (.int (1 : Int32)), .val (.int ((((0 : Int32) + (p1 &&& (268435455 : Int32))) + (1 : Int32)) + (p2 &&& (268435455 : Int32)))), .unset] [(.int (p5 &&& (268435455 : Int32))), (.ref b104)]))
    obtain ⟨_, T172, L172, X172, hQ172, st172⟩ := ownCallV X168 hx hZ hown ww44 ww45 ww47 ww46 ww3 ww48 (by decide) (rm6d2 l Z a0 hw [] b104 (p5 &&& (268435455 : Int32)) y119 y120 (((((0 : Int32) + (p1 &&& (268435455 : Int32))) + (1 : Int32)) + (p2 &&& (268435455 : Int32))) + (1 : Int32)) ((0 : Int32) + (p1 &&& (268435455 : Int32))) ((((0 : Int32) + (p1 &&& (268435455 : Int32))) + (1 : Int32)) + (p2 &&& (268435455 : Int32))) ((0 : Int32) + (p4 &&& (268435455 : Int32))) (0 : Int32) (0 : Int32) (0 : Int32) (0 : Int32) T168.heap n0 Y168  P169) (rfl : T168.heap = T168.heap) F170 0 (by decide) (by decide) (by decide) (by decide) (g := (mkF m 168 #[.val (.int p1), .val (.int p2), .val (.int p3), .val (.int p4), .val (.int p5), .val (.int p6), .val (.int (p1 &&& (268435455 : Int32))), .val (.int (p2 &&& (268435455 : Int32))), .val (.int (p3 &&& (268435455 : Int32))), .val (.int (p4 &&& (268435455 : Int32))), .val (.int (p5 &&& (268435455 : Int32))), .val (.int v101), .val (.int v102), .val (.int v103), .val (.ref b104), .val (.int ((0 : Int32) + (p1 &&& (268435455 : Int32)))), .val (.int (1 : Int32)), .val (.int ((((0 : Int32) + (p1 &&& (268435455 : Int32))) + (1 : Int32)) + (p2 &&& (268435455 : Int32)))), .unset] [(.int (p5 &&& (268435455 : Int32))), (.ref b104)])) rfl (by rw [hml]; rfl) (argsL := [(.int (p5 &&& (268435455 : Int32)))]) (rest := []) (lenOf pd0_1 rfl) rfl rfl (by show 2 * 0 + _ ≤ _; exact Nat.le_of_eq rfl) (hb hby at_168)
    obtain ⟨rfl, N172q, K172q, P173⟩ := hQ172
    have N172 := Fr.app N168 N172q
    have F174 := F170.keep K172q
    have K172 := K168.trans K172q (allS (Or.inr v104) (allS (Or.inr (Nat.le_trans K104.1 P116)) (allS (Or.inr (Nat.le_trans K104.1 P117)) all0)))
    have Y172 := Nat.le_trans Y168 K172q.1
    have O172 := O168.keep K172q (allS u104 (allS P114 (allS P115 all0)))
    refine OwnEnd.go (fun _ k => st172 _ k) ?_
    show OwnEnd p e below s _ _ _ (T172.setTop (mkF m 171 #[.val (.int p1), .val (.int p2), .val (.int p3), .val (.int p4), .val (.int p5), .val (.int p6), .val (.int (p1 &&& (268435455 : Int32))), .val (.int (p2 &&& (268435455 : Int32))), .val (.int (p3 &&& (268435455 : Int32))), .val (.int (p4 &&& (268435455 : Int32))), .val (.int (p5 &&& (268435455 : Int32))), .val (.int v101), .val (.int v102), .val (.int v103), .val (.ref b104), .val (.int ((0 : Int32) + (p1 &&& (268435455 : Int32)))), .val (.int (1 : Int32)), .val (.int ((((0 : Int32) + (p1 &&& (268435455 : Int32))) + (1 : Int32)) + (p2 &&& (268435455 : Int32)))), .unset] []))
    refine OwnEnd.go (fun _ k => XS.aload X172.here hx rfl (hb hby at_171) rfl rfl k) ?_
    show OwnEnd p e below s _ _ _ (T172.setTop (mkF m 173 #[.val (.int p1), .val (.int p2), .val (.int p3), .val (.int p4), .val (.int p5), .val (.int p6), .val (.int (p1 &&& (268435455 : Int32))), .val (.int (p2 &&& (268435455 : Int32))), .val (.int (p3 &&& (268435455 : Int32))), .val (.int (p4 &&& (268435455 : Int32))), .val (.int (p5 &&& (268435455 : Int32))), .val (.int v101), .val (.int v102), .val (.int v103), .val (.ref b104), .val (.int ((0 : Int32) + (p1 &&& (268435455 : Int32)))), .val (.int (1 : Int32)), .val (.int ((((0 : Int32) + (p1 &&& (268435455 : Int32))) + (1 : Int32)) + (p2 &&& (268435455 : Int32)))), .unset] [(.ref b104)]))
    refine OwnEnd.go (fun _ k => XS.iload X172.here hx rfl (hb hby at_173) rfl  k) ?_
    show OwnEnd p e below s _ _ _ (T172.setTop (mkF m 175 #[.val (.int p1), .val (.int p2), .val (.int p3), .val (.int p4), .val (.int p5), .val (.int p6), .val (.int (p1 &&& (268435455 : Int32))), .val (.int (p2 &&& (268435455 : Int32))), .val (.int (p3 &&& (268435455 : Int32))), .val (.int (p4 &&& (268435455 : Int32))), .val (.int (p5 &&& (268435455 : Int32))), .val (.int v101), .val (.int v102), .val (.int v103), .val (.ref b104), .val (.int ((0 : Int32) + (p1 &&& (268435455 : Int32)))), .val (.int (1 : Int32)), .val (.int ((((0 : Int32) + (p1 &&& (268435455 : Int32))) + (1 : Int32)) + (p2 &&& (268435455 : Int32)))), .unset] [(.int (p3 &&& (268435455 : Int32))), (.ref b104)]))
    obtain ⟨_, T176, L176, X176, hQ176, st176⟩ := ownCallV X172 hx hZ hown ww15 ww16 ww18 ww17 ww3 ww19 (by decide) (rm3 l Z a0 hw [] b104 (p3 &&& (268435455 : Int32)) y119 y120 (((((0 : Int32) + (p1 &&& (268435455 : Int32))) + (1 : Int32)) + (p2 &&& (268435455 : Int32))) + (1 : Int32)) ((0 : Int32) + (p1 &&& (268435455 : Int32))) ((((0 : Int32) + (p1 &&& (268435455 : Int32))) + (1 : Int32)) + (p2 &&& (268435455 : Int32))) ((0 : Int32) + (p4 &&& (268435455 : Int32))) ((0 : Int32) + (p5 &&& (268435455 : Int32))) (0 : Int32) (0 : Int32) (0 : Int32) (2 : Int32) T172.heap n0 Y172  P173) (rfl : T172.heap = T172.heap) F174 0 (by decide) (by decide) (by decide) (by decide) (g := (mkF m 175 #[.val (.int p1), .val (.int p2), .val (.int p3), .val (.int p4), .val (.int p5), .val (.int p6), .val (.int (p1 &&& (268435455 : Int32))), .val (.int (p2 &&& (268435455 : Int32))), .val (.int (p3 &&& (268435455 : Int32))), .val (.int (p4 &&& (268435455 : Int32))), .val (.int (p5 &&& (268435455 : Int32))), .val (.int v101), .val (.int v102), .val (.int v103), .val (.ref b104), .val (.int ((0 : Int32) + (p1 &&& (268435455 : Int32)))), .val (.int (1 : Int32)), .val (.int ((((0 : Int32) + (p1 &&& (268435455 : Int32))) + (1 : Int32)) + (p2 &&& (268435455 : Int32)))), .unset] [(.int (p3 &&& (268435455 : Int32))), (.ref b104)])) rfl (by rw [hml]; rfl) (argsL := [(.int (p3 &&& (268435455 : Int32)))]) (rest := []) (lenOf pd0_1 rfl) rfl rfl (by show 2 * 0 + _ ≤ _; exact Nat.le_of_eq rfl) (hb hby at_175)
    obtain ⟨rfl, N176q, K176q, P177⟩ := hQ176
    have N176 := Fr.app N172 N176q
    have F178 := F174.keep K176q
    have K176 := K172.trans K176q (allS (Or.inr v104) (allS (Or.inr (Nat.le_trans K104.1 P116)) (allS (Or.inr (Nat.le_trans K104.1 P117)) all0)))
    have Y176 := Nat.le_trans Y172 K176q.1
    have O176 := O172.keep K176q (allS u104 (allS P114 (allS P115 all0)))
    refine OwnEnd.go (fun _ k => st176 _ k) ?_
    show OwnEnd p e below s _ _ _ (T176.setTop (mkF m 178 #[.val (.int p1), .val (.int p2), .val (.int p3), .val (.int p4), .val (.int p5), .val (.int p6), .val (.int (p1 &&& (268435455 : Int32))), .val (.int (p2 &&& (268435455 : Int32))), .val (.int (p3 &&& (268435455 : Int32))), .val (.int (p4 &&& (268435455 : Int32))), .val (.int (p5 &&& (268435455 : Int32))), .val (.int v101), .val (.int v102), .val (.int v103), .val (.ref b104), .val (.int ((0 : Int32) + (p1 &&& (268435455 : Int32)))), .val (.int (1 : Int32)), .val (.int ((((0 : Int32) + (p1 &&& (268435455 : Int32))) + (1 : Int32)) + (p2 &&& (268435455 : Int32)))), .unset] []))
    refine OwnEnd.go (fun _ k => XS.aload X176.here hx rfl (hb hby at_178) rfl rfl k) ?_
    show OwnEnd p e below s _ _ _ (T176.setTop (mkF m 180 #[.val (.int p1), .val (.int p2), .val (.int p3), .val (.int p4), .val (.int p5), .val (.int p6), .val (.int (p1 &&& (268435455 : Int32))), .val (.int (p2 &&& (268435455 : Int32))), .val (.int (p3 &&& (268435455 : Int32))), .val (.int (p4 &&& (268435455 : Int32))), .val (.int (p5 &&& (268435455 : Int32))), .val (.int v101), .val (.int v102), .val (.int v103), .val (.ref b104), .val (.int ((0 : Int32) + (p1 &&& (268435455 : Int32)))), .val (.int (1 : Int32)), .val (.int ((((0 : Int32) + (p1 &&& (268435455 : Int32))) + (1 : Int32)) + (p2 &&& (268435455 : Int32)))), .unset] [(.ref b104)]))
    obtain ⟨_, T180, L180, X180, hQ180, st180⟩ := ownCallV X176 hx hZ hown ww50 ww51 ww53 ww52 ww3 ww54 (by decide) (rm7d2 l Z a0 hw [] b104 y119 y120 ((((((0 : Int32) + (p1 &&& (268435455 : Int32))) + (1 : Int32)) + (p2 &&& (268435455 : Int32))) + (1 : Int32)) + (p3 &&& (268435455 : Int32))) ((0 : Int32) + (p1 &&& (268435455 : Int32))) ((((0 : Int32) + (p1 &&& (268435455 : Int32))) + (1 : Int32)) + (p2 &&& (268435455 : Int32))) ((0 : Int32) + (p4 &&& (268435455 : Int32))) ((0 : Int32) + (p5 &&& (268435455 : Int32))) (0 : Int32) (0 : Int32) (0 : Int32) T176.heap n0 Y176  P177) (rfl : T176.heap = T176.heap) F178 0 (by decide) (by decide) (by decide) (by decide) (g := (mkF m 180 #[.val (.int p1), .val (.int p2), .val (.int p3), .val (.int p4), .val (.int p5), .val (.int p6), .val (.int (p1 &&& (268435455 : Int32))), .val (.int (p2 &&& (268435455 : Int32))), .val (.int (p3 &&& (268435455 : Int32))), .val (.int (p4 &&& (268435455 : Int32))), .val (.int (p5 &&& (268435455 : Int32))), .val (.int v101), .val (.int v102), .val (.int v103), .val (.ref b104), .val (.int ((0 : Int32) + (p1 &&& (268435455 : Int32)))), .val (.int (1 : Int32)), .val (.int ((((0 : Int32) + (p1 &&& (268435455 : Int32))) + (1 : Int32)) + (p2 &&& (268435455 : Int32)))), .unset] [(.ref b104)])) rfl (by rw [hml]; rfl) (argsL := []) (rest := []) (lenOf pd0_0 rfl) rfl rfl (by show 2 * 0 + _ ≤ _; exact Nat.le_of_eq rfl) (hb hby at_180)
    obtain ⟨rfl, N180q, K180q, P181⟩ := hQ180
    have N180 := Fr.app N176 N180q
    have F182 := F178.keep K180q
    have K180 := K176.trans K180q (allS (Or.inr v104) (allS (Or.inr (Nat.le_trans K104.1 P116)) (allS (Or.inr (Nat.le_trans K104.1 P117)) all0)))
    have Y180 := Nat.le_trans Y176 K180q.1
    have O180 := O176.keep K180q (allS u104 (allS P114 (allS P115 all0)))
    refine OwnEnd.go (fun _ k => st180 _ k) ?_
    show OwnEnd p e below s _ _ _ (T180.setTop (mkF m 183 #[.val (.int p1), .val (.int p2), .val (.int p3), .val (.int p4), .val (.int p5), .val (.int p6), .val (.int (p1 &&& (268435455 : Int32))), .val (.int (p2 &&& (268435455 : Int32))), .val (.int (p3 &&& (268435455 : Int32))), .val (.int (p4 &&& (268435455 : Int32))), .val (.int (p5 &&& (268435455 : Int32))), .val (.int v101), .val (.int v102), .val (.int v103), .val (.ref b104), .val (.int ((0 : Int32) + (p1 &&& (268435455 : Int32)))), .val (.int (1 : Int32)), .val (.int ((((0 : Int32) + (p1 &&& (268435455 : Int32))) + (1 : Int32)) + (p2 &&& (268435455 : Int32)))), .unset] []))
    refine OwnEnd.go (fun _ k => XS.iload X180.here hx rfl (hb hby at_183) rfl  k) ?_
    show OwnEnd p e below s _ _ _ (T180.setTop (mkF m 185 #[.val (.int p1), .val (.int p2), .val (.int p3), .val (.int p4), .val (.int p5), .val (.int p6), .val (.int (p1 &&& (268435455 : Int32))), .val (.int (p2 &&& (268435455 : Int32))), .val (.int (p3 &&& (268435455 : Int32))), .val (.int (p4 &&& (268435455 : Int32))), .val (.int (p5 &&& (268435455 : Int32))), .val (.int v101), .val (.int v102), .val (.int v103), .val (.ref b104), .val (.int ((0 : Int32) + (p1 &&& (268435455 : Int32)))), .val (.int (1 : Int32)), .val (.int ((((0 : Int32) + (p1 &&& (268435455 : Int32))) + (1 : Int32)) + (p2 &&& (268435455 : Int32)))), .unset] [(.int (1 : Int32))]))
    refine OwnEnd.go (fun _ k => XS.ifNo X180.here hx rfl (hb hby at_185) rfl ((if0 _ _).trans (feq (by decide : ¬ (1 : Int32) = (0 : Int32))).1) k) ?_
    show OwnEnd p e below s _ _ _ (T180.setTop (mkF m 188 #[.val (.int p1), .val (.int p2), .val (.int p3), .val (.int p4), .val (.int p5), .val (.int p6), .val (.int (p1 &&& (268435455 : Int32))), .val (.int (p2 &&& (268435455 : Int32))), .val (.int (p3 &&& (268435455 : Int32))), .val (.int (p4 &&& (268435455 : Int32))), .val (.int (p5 &&& (268435455 : Int32))), .val (.int v101), .val (.int v102), .val (.int v103), .val (.ref b104), .val (.int ((0 : Int32) + (p1 &&& (268435455 : Int32)))), .val (.int (1 : Int32)), .val (.int ((((0 : Int32) + (p1 &&& (268435455 : Int32))) + (1 : Int32)) + (p2 &&& (268435455 : Int32)))), .unset] []))
    refine OwnEnd.go (fun _ k => XS.iload X180.here hx rfl (hb hby at_188) rfl  k) ?_
    show OwnEnd p e below s _ _ _ (T180.setTop (mkF m 190 #[.val (.int p1), .val (.int p2), .val (.int p3), .val (.int p4), .val (.int p5), .val (.int p6), .val (.int (p1 &&& (268435455 : Int32))), .val (.int (p2 &&& (268435455 : Int32))), .val (.int (p3 &&& (268435455 : Int32))), .val (.int (p4 &&& (268435455 : Int32))), .val (.int (p5 &&& (268435455 : Int32))), .val (.int v101), .val (.int v102), .val (.int v103), .val (.ref b104), .val (.int ((0 : Int32) + (p1 &&& (268435455 : Int32)))), .val (.int (1 : Int32)), .val (.int ((((0 : Int32) + (p1 &&& (268435455 : Int32))) + (1 : Int32)) + (p2 &&& (268435455 : Int32)))), .unset] [(.int ((((0 : Int32) + (p1 &&& (268435455 : Int32))) + (1 : Int32)) + (p2 &&& (268435455 : Int32))))]))
    refine OwnEnd.go (fun _ k => XS.iload X180.here hx rfl (hb hby at_190) rfl  k) ?_
    show OwnEnd p e below s _ _ _ (T180.setTop (mkF m 192 #[.val (.int p1), .val (.int p2), .val (.int p3), .val (.int p4), .val (.int p5), .val (.int p6), .val (.int (p1 &&& (268435455 : Int32))), .val (.int (p2 &&& (268435455 : Int32))), .val (.int (p3 &&& (268435455 : Int32))), .val (.int (p4 &&& (268435455 : Int32))), .val (.int (p5 &&& (268435455 : Int32))), .val (.int v101), .val (.int v102), .val (.int v103), .val (.ref b104), .val (.int ((0 : Int32) + (p1 &&& (268435455 : Int32)))), .val (.int (1 : Int32)), .val (.int ((((0 : Int32) + (p1 &&& (268435455 : Int32))) + (1 : Int32)) + (p2 &&& (268435455 : Int32)))), .unset] [(.int (p1 &&& (268435455 : Int32))), (.int ((((0 : Int32) + (p1 &&& (268435455 : Int32))) + (1 : Int32)) + (p2 &&& (268435455 : Int32))))]))
    refine OwnEnd.go (fun _ k => XS.iconst X180.here hx rfl (hb hby at_192) k) ?_
    show OwnEnd p e below s _ _ _ (T180.setTop (mkF m 193 #[.val (.int p1), .val (.int p2), .val (.int p3), .val (.int p4), .val (.int p5), .val (.int p6), .val (.int (p1 &&& (268435455 : Int32))), .val (.int (p2 &&& (268435455 : Int32))), .val (.int (p3 &&& (268435455 : Int32))), .val (.int (p4 &&& (268435455 : Int32))), .val (.int (p5 &&& (268435455 : Int32))), .val (.int v101), .val (.int v102), .val (.int v103), .val (.ref b104), .val (.int ((0 : Int32) + (p1 &&& (268435455 : Int32)))), .val (.int (1 : Int32)), .val (.int ((((0 : Int32) + (p1 &&& (268435455 : Int32))) + (1 : Int32)) + (p2 &&& (268435455 : Int32)))), .unset] [(.int (1 : Int32)), (.int (p1 &&& (268435455 : Int32))), (.int ((((0 : Int32) + (p1 &&& (268435455 : Int32))) + (1 : Int32)) + (p2 &&& (268435455 : Int32))))]))
    refine OwnEnd.go (fun _ k => XS.iadd X180.here hx rfl (hb hby at_193) rfl k) ?_
    show OwnEnd p e below s _ _ _ (T180.setTop (mkF m 194 #[.val (.int p1), .val (.int p2), .val (.int p3), .val (.int p4), .val (.int p5), .val (.int p6), .val (.int (p1 &&& (268435455 : Int32))), .val (.int (p2 &&& (268435455 : Int32))), .val (.int (p3 &&& (268435455 : Int32))), .val (.int (p4 &&& (268435455 : Int32))), .val (.int (p5 &&& (268435455 : Int32))), .val (.int v101), .val (.int v102), .val (.int v103), .val (.ref b104), .val (.int ((0 : Int32) + (p1 &&& (268435455 : Int32)))), .val (.int (1 : Int32)), .val (.int ((((0 : Int32) + (p1 &&& (268435455 : Int32))) + (1 : Int32)) + (p2 &&& (268435455 : Int32)))), .unset] [(.int ((p1 &&& (268435455 : Int32)) + (1 : Int32))), (.int ((((0 : Int32) + (p1 &&& (268435455 : Int32))) + (1 : Int32)) + (p2 &&& (268435455 : Int32))))]))
    refine OwnEnd.go (fun _ k => XS.iload X180.here hx rfl (hb hby at_194) rfl  k) ?_
    show OwnEnd p e below s _ _ _ (T180.setTop (mkF m 196 #[.val (.int p1), .val (.int p2), .val (.int p3), .val (.int p4), .val (.int p5), .val (.int p6), .val (.int (p1 &&& (268435455 : Int32))), .val (.int (p2 &&& (268435455 : Int32))), .val (.int (p3 &&& (268435455 : Int32))), .val (.int (p4 &&& (268435455 : Int32))), .val (.int (p5 &&& (268435455 : Int32))), .val (.int v101), .val (.int v102), .val (.int v103), .val (.ref b104), .val (.int ((0 : Int32) + (p1 &&& (268435455 : Int32)))), .val (.int (1 : Int32)), .val (.int ((((0 : Int32) + (p1 &&& (268435455 : Int32))) + (1 : Int32)) + (p2 &&& (268435455 : Int32)))), .unset] [(.int (p2 &&& (268435455 : Int32))), (.int ((p1 &&& (268435455 : Int32)) + (1 : Int32))), (.int ((((0 : Int32) + (p1 &&& (268435455 : Int32))) + (1 : Int32)) + (p2 &&& (268435455 : Int32))))]))
    refine OwnEnd.go (fun _ k => XS.iadd X180.here hx rfl (hb hby at_196) rfl k) ?_
    show OwnEnd p e below s _ _ _ (T180.setTop (mkF m 197 #[.val (.int p1), .val (.int p2), .val (.int p3), .val (.int p4), .val (.int p5), .val (.int p6), .val (.int (p1 &&& (268435455 : Int32))), .val (.int (p2 &&& (268435455 : Int32))), .val (.int (p3 &&& (268435455 : Int32))), .val (.int (p4 &&& (268435455 : Int32))), .val (.int (p5 &&& (268435455 : Int32))), .val (.int v101), .val (.int v102), .val (.int v103), .val (.ref b104), .val (.int ((0 : Int32) + (p1 &&& (268435455 : Int32)))), .val (.int (1 : Int32)), .val (.int ((((0 : Int32) + (p1 &&& (268435455 : Int32))) + (1 : Int32)) + (p2 &&& (268435455 : Int32)))), .unset] [(.int (((p1 &&& (268435455 : Int32)) + (1 : Int32)) + (p2 &&& (268435455 : Int32)))), (.int ((((0 : Int32) + (p1 &&& (268435455 : Int32))) + (1 : Int32)) + (p2 &&& (268435455 : Int32))))]))
    refine OwnEnd.go (fun _ k => XS.icmpNo X180.here hx rfl (hb hby at_197) rfl (teq (own_s4 p1 p2 p3 p4 p5 p6)).2 k) ?_
    show OwnEnd p e below s _ _ _ (T180.setTop (mkF m 200 #[.val (.int p1), .val (.int p2), .val (.int p3), .val (.int p4), .val (.int p5), .val (.int p6), .val (.int (p1 &&& (268435455 : Int32))), .val (.int (p2 &&& (268435455 : Int32))), .val (.int (p3 &&& (268435455 : Int32))), .val (.int (p4 &&& (268435455 : Int32))), .val (.int (p5 &&& (268435455 : Int32))), .val (.int v101), .val (.int v102), .val (.int v103), .val (.ref b104), .val (.int ((0 : Int32) + (p1 &&& (268435455 : Int32)))), .val (.int (1 : Int32)), .val (.int ((((0 : Int32) + (p1 &&& (268435455 : Int32))) + (1 : Int32)) + (p2 &&& (268435455 : Int32)))), .unset] []))
    refine OwnEnd.go (fun _ k => XS.aload X180.here hx rfl (hb hby at_200) rfl rfl k) ?_
    show OwnEnd p e below s _ _ _ (T180.setTop (mkF m 202 #[.val (.int p1), .val (.int p2), .val (.int p3), .val (.int p4), .val (.int p5), .val (.int p6), .val (.int (p1 &&& (268435455 : Int32))), .val (.int (p2 &&& (268435455 : Int32))), .val (.int (p3 &&& (268435455 : Int32))), .val (.int (p4 &&& (268435455 : Int32))), .val (.int (p5 &&& (268435455 : Int32))), .val (.int v101), .val (.int v102), .val (.int v103), .val (.ref b104), .val (.int ((0 : Int32) + (p1 &&& (268435455 : Int32)))), .val (.int (1 : Int32)), .val (.int ((((0 : Int32) + (p1 &&& (268435455 : Int32))) + (1 : Int32)) + (p2 &&& (268435455 : Int32)))), .unset] [(.ref b104)]))
    obtain ⟨_, T184, L184, X184, hQ184, st184⟩ := ownCallV X180 hx hZ hown ww61 ww62 ww64 ww63 ww3 ww65 (by decide) (rm8 l Z a0 hw [] b104 y119 y120 ((((((0 : Int32) + (p1 &&& (268435455 : Int32))) + (1 : Int32)) + (p2 &&& (268435455 : Int32))) + (1 : Int32)) + (p3 &&& (268435455 : Int32))) ((0 : Int32) + (p1 &&& (268435455 : Int32))) ((((0 : Int32) + (p1 &&& (268435455 : Int32))) + (1 : Int32)) + (p2 &&& (268435455 : Int32))) ((0 : Int32) + (p4 &&& (268435455 : Int32))) ((0 : Int32) + (p5 &&& (268435455 : Int32))) ((((0 : Int32) + (p1 &&& (268435455 : Int32))) + (1 : Int32)) + (p2 &&& (268435455 : Int32))) (((((((0 : Int32) + (p1 &&& (268435455 : Int32))) + (1 : Int32)) + (p2 &&& (268435455 : Int32))) + (1 : Int32)) + (p3 &&& (268435455 : Int32))) - ((((0 : Int32) + (p1 &&& (268435455 : Int32))) + (1 : Int32)) + (p2 &&& (268435455 : Int32)))) ((0 : Int32) + (p5 &&& (268435455 : Int32))) (1 : Int32) T180.heap n0 Y180  P181) (rfl : T180.heap = T180.heap) F182 0 (by decide) (by decide) (by decide) (by decide) (g := (mkF m 202 #[.val (.int p1), .val (.int p2), .val (.int p3), .val (.int p4), .val (.int p5), .val (.int p6), .val (.int (p1 &&& (268435455 : Int32))), .val (.int (p2 &&& (268435455 : Int32))), .val (.int (p3 &&& (268435455 : Int32))), .val (.int (p4 &&& (268435455 : Int32))), .val (.int (p5 &&& (268435455 : Int32))), .val (.int v101), .val (.int v102), .val (.int v103), .val (.ref b104), .val (.int ((0 : Int32) + (p1 &&& (268435455 : Int32)))), .val (.int (1 : Int32)), .val (.int ((((0 : Int32) + (p1 &&& (268435455 : Int32))) + (1 : Int32)) + (p2 &&& (268435455 : Int32)))), .unset] [(.ref b104)])) rfl (by rw [hml]; rfl) (argsL := []) (rest := []) (lenOf pd0_3 rfl) rfl rfl (by show 2 * 0 + _ ≤ _; exact Nat.le_of_eq rfl) (hb hby at_202)
    obtain ⟨rfl, N184q, e184⟩ := hQ184
    have N184 := Fr.app N180 N184q
    refine OwnEnd.go (fun _ k => st184 _ k) ?_
    show OwnEnd p e below s _ _ _ (T184.setTop (mkF m 205 #[.val (.int p1), .val (.int p2), .val (.int p3), .val (.int p4), .val (.int p5), .val (.int p6), .val (.int (p1 &&& (268435455 : Int32))), .val (.int (p2 &&& (268435455 : Int32))), .val (.int (p3 &&& (268435455 : Int32))), .val (.int (p4 &&& (268435455 : Int32))), .val (.int (p5 &&& (268435455 : Int32))), .val (.int v101), .val (.int v102), .val (.int v103), .val (.ref b104), .val (.int ((0 : Int32) + (p1 &&& (268435455 : Int32)))), .val (.int (1 : Int32)), .val (.int ((((0 : Int32) + (p1 &&& (268435455 : Int32))) + (1 : Int32)) + (p2 &&& (268435455 : Int32)))), .unset] [(.int ((((0 : Int32) + (p1 &&& (268435455 : Int32))) + (1 : Int32)) + (p2 &&& (268435455 : Int32))))]))
    refine OwnEnd.go (fun _ k => XS.iload X184.here hx rfl (hb hby at_205) rfl  k) ?_
    show OwnEnd p e below s _ _ _ (T184.setTop (mkF m 207 #[.val (.int p1), .val (.int p2), .val (.int p3), .val (.int p4), .val (.int p5), .val (.int p6), .val (.int (p1 &&& (268435455 : Int32))), .val (.int (p2 &&& (268435455 : Int32))), .val (.int (p3 &&& (268435455 : Int32))), .val (.int (p4 &&& (268435455 : Int32))), .val (.int (p5 &&& (268435455 : Int32))), .val (.int v101), .val (.int v102), .val (.int v103), .val (.ref b104), .val (.int ((0 : Int32) + (p1 &&& (268435455 : Int32)))), .val (.int (1 : Int32)), .val (.int ((((0 : Int32) + (p1 &&& (268435455 : Int32))) + (1 : Int32)) + (p2 &&& (268435455 : Int32)))), .unset] [(.int (p1 &&& (268435455 : Int32))), (.int ((((0 : Int32) + (p1 &&& (268435455 : Int32))) + (1 : Int32)) + (p2 &&& (268435455 : Int32))))]))
    refine OwnEnd.go (fun _ k => XS.iconst X184.here hx rfl (hb hby at_207) k) ?_
    show OwnEnd p e below s _ _ _ (T184.setTop (mkF m 208 #[.val (.int p1), .val (.int p2), .val (.int p3), .val (.int p4), .val (.int p5), .val (.int p6), .val (.int (p1 &&& (268435455 : Int32))), .val (.int (p2 &&& (268435455 : Int32))), .val (.int (p3 &&& (268435455 : Int32))), .val (.int (p4 &&& (268435455 : Int32))), .val (.int (p5 &&& (268435455 : Int32))), .val (.int v101), .val (.int v102), .val (.int v103), .val (.ref b104), .val (.int ((0 : Int32) + (p1 &&& (268435455 : Int32)))), .val (.int (1 : Int32)), .val (.int ((((0 : Int32) + (p1 &&& (268435455 : Int32))) + (1 : Int32)) + (p2 &&& (268435455 : Int32)))), .unset] [(.int (1 : Int32)), (.int (p1 &&& (268435455 : Int32))), (.int ((((0 : Int32) + (p1 &&& (268435455 : Int32))) + (1 : Int32)) + (p2 &&& (268435455 : Int32))))]))
    refine OwnEnd.go (fun _ k => XS.iadd X184.here hx rfl (hb hby at_208) rfl k) ?_
    show OwnEnd p e below s _ _ _ (T184.setTop (mkF m 209 #[.val (.int p1), .val (.int p2), .val (.int p3), .val (.int p4), .val (.int p5), .val (.int p6), .val (.int (p1 &&& (268435455 : Int32))), .val (.int (p2 &&& (268435455 : Int32))), .val (.int (p3 &&& (268435455 : Int32))), .val (.int (p4 &&& (268435455 : Int32))), .val (.int (p5 &&& (268435455 : Int32))), .val (.int v101), .val (.int v102), .val (.int v103), .val (.ref b104), .val (.int ((0 : Int32) + (p1 &&& (268435455 : Int32)))), .val (.int (1 : Int32)), .val (.int ((((0 : Int32) + (p1 &&& (268435455 : Int32))) + (1 : Int32)) + (p2 &&& (268435455 : Int32)))), .unset] [(.int ((p1 &&& (268435455 : Int32)) + (1 : Int32))), (.int ((((0 : Int32) + (p1 &&& (268435455 : Int32))) + (1 : Int32)) + (p2 &&& (268435455 : Int32))))]))
    refine OwnEnd.go (fun _ k => XS.iload X184.here hx rfl (hb hby at_209) rfl  k) ?_
    show OwnEnd p e below s _ _ _ (T184.setTop (mkF m 211 #[.val (.int p1), .val (.int p2), .val (.int p3), .val (.int p4), .val (.int p5), .val (.int p6), .val (.int (p1 &&& (268435455 : Int32))), .val (.int (p2 &&& (268435455 : Int32))), .val (.int (p3 &&& (268435455 : Int32))), .val (.int (p4 &&& (268435455 : Int32))), .val (.int (p5 &&& (268435455 : Int32))), .val (.int v101), .val (.int v102), .val (.int v103), .val (.ref b104), .val (.int ((0 : Int32) + (p1 &&& (268435455 : Int32)))), .val (.int (1 : Int32)), .val (.int ((((0 : Int32) + (p1 &&& (268435455 : Int32))) + (1 : Int32)) + (p2 &&& (268435455 : Int32)))), .unset] [(.int (p2 &&& (268435455 : Int32))), (.int ((p1 &&& (268435455 : Int32)) + (1 : Int32))), (.int ((((0 : Int32) + (p1 &&& (268435455 : Int32))) + (1 : Int32)) + (p2 &&& (268435455 : Int32))))]))
    refine OwnEnd.go (fun _ k => XS.iadd X184.here hx rfl (hb hby at_211) rfl k) ?_
    show OwnEnd p e below s _ _ _ (T184.setTop (mkF m 212 #[.val (.int p1), .val (.int p2), .val (.int p3), .val (.int p4), .val (.int p5), .val (.int p6), .val (.int (p1 &&& (268435455 : Int32))), .val (.int (p2 &&& (268435455 : Int32))), .val (.int (p3 &&& (268435455 : Int32))), .val (.int (p4 &&& (268435455 : Int32))), .val (.int (p5 &&& (268435455 : Int32))), .val (.int v101), .val (.int v102), .val (.int v103), .val (.ref b104), .val (.int ((0 : Int32) + (p1 &&& (268435455 : Int32)))), .val (.int (1 : Int32)), .val (.int ((((0 : Int32) + (p1 &&& (268435455 : Int32))) + (1 : Int32)) + (p2 &&& (268435455 : Int32)))), .unset] [(.int (((p1 &&& (268435455 : Int32)) + (1 : Int32)) + (p2 &&& (268435455 : Int32)))), (.int ((((0 : Int32) + (p1 &&& (268435455 : Int32))) + (1 : Int32)) + (p2 &&& (268435455 : Int32))))]))
    refine OwnEnd.go (fun _ k => XS.icmpNo X184.here hx rfl (hb hby at_212) rfl (teq (own_s5 p1 p2 p3 p4 p5 p6)).2 k) ?_
    show OwnEnd p e below s _ _ _ (T184.setTop (mkF m 215 #[.val (.int p1), .val (.int p2), .val (.int p3), .val (.int p4), .val (.int p5), .val (.int p6), .val (.int (p1 &&& (268435455 : Int32))), .val (.int (p2 &&& (268435455 : Int32))), .val (.int (p3 &&& (268435455 : Int32))), .val (.int (p4 &&& (268435455 : Int32))), .val (.int (p5 &&& (268435455 : Int32))), .val (.int v101), .val (.int v102), .val (.int v103), .val (.ref b104), .val (.int ((0 : Int32) + (p1 &&& (268435455 : Int32)))), .val (.int (1 : Int32)), .val (.int ((((0 : Int32) + (p1 &&& (268435455 : Int32))) + (1 : Int32)) + (p2 &&& (268435455 : Int32)))), .unset] []))
    refine OwnEnd.go (fun _ k => XS.aload X184.here hx rfl (hb hby at_215) rfl rfl k) ?_
    show OwnEnd p e below s _ _ _ (T184.setTop (mkF m 217 #[.val (.int p1), .val (.int p2), .val (.int p3), .val (.int p4), .val (.int p5), .val (.int p6), .val (.int (p1 &&& (268435455 : Int32))), .val (.int (p2 &&& (268435455 : Int32))), .val (.int (p3 &&& (268435455 : Int32))), .val (.int (p4 &&& (268435455 : Int32))), .val (.int (p5 &&& (268435455 : Int32))), .val (.int v101), .val (.int v102), .val (.int v103), .val (.ref b104), .val (.int ((0 : Int32) + (p1 &&& (268435455 : Int32)))), .val (.int (1 : Int32)), .val (.int ((((0 : Int32) + (p1 &&& (268435455 : Int32))) + (1 : Int32)) + (p2 &&& (268435455 : Int32)))), .unset] [(.ref b104)]))
    obtain ⟨_, T185, L185, X185, hQ185, st185⟩ := ownCallV X184 hx hZ hown ww66 ww67 ww69 ww68 ww3 ww70 (by decide) (rm9 l Z a0 hw [] b104 y119 y120 ((((((0 : Int32) + (p1 &&& (268435455 : Int32))) + (1 : Int32)) + (p2 &&& (268435455 : Int32))) + (1 : Int32)) + (p3 &&& (268435455 : Int32))) ((0 : Int32) + (p1 &&& (268435455 : Int32))) ((((0 : Int32) + (p1 &&& (268435455 : Int32))) + (1 : Int32)) + (p2 &&& (268435455 : Int32))) ((0 : Int32) + (p4 &&& (268435455 : Int32))) ((0 : Int32) + (p5 &&& (268435455 : Int32))) ((((0 : Int32) + (p1 &&& (268435455 : Int32))) + (1 : Int32)) + (p2 &&& (268435455 : Int32))) (((((((0 : Int32) + (p1 &&& (268435455 : Int32))) + (1 : Int32)) + (p2 &&& (268435455 : Int32))) + (1 : Int32)) + (p3 &&& (268435455 : Int32))) - ((((0 : Int32) + (p1 &&& (268435455 : Int32))) + (1 : Int32)) + (p2 &&& (268435455 : Int32)))) ((0 : Int32) + (p5 &&& (268435455 : Int32))) (1 : Int32) T180.heap n0 Y180  P181) e184 F182 0 (by decide) (by decide) (by decide) (by decide) (g := (mkF m 217 #[.val (.int p1), .val (.int p2), .val (.int p3), .val (.int p4), .val (.int p5), .val (.int p6), .val (.int (p1 &&& (268435455 : Int32))), .val (.int (p2 &&& (268435455 : Int32))), .val (.int (p3 &&& (268435455 : Int32))), .val (.int (p4 &&& (268435455 : Int32))), .val (.int (p5 &&& (268435455 : Int32))), .val (.int v101), .val (.int v102), .val (.int v103), .val (.ref b104), .val (.int ((0 : Int32) + (p1 &&& (268435455 : Int32)))), .val (.int (1 : Int32)), .val (.int ((((0 : Int32) + (p1 &&& (268435455 : Int32))) + (1 : Int32)) + (p2 &&& (268435455 : Int32)))), .unset] [(.ref b104)])) rfl (by rw [hml]; rfl) (argsL := []) (rest := []) (lenOf pd0_3 rfl) rfl rfl (by show 2 * 0 + _ ≤ _; exact Nat.le_of_eq rfl) (hb hby at_217)
    obtain ⟨rfl, N185q, e185⟩ := hQ185
    have N185 := Fr.app N184 N185q
    refine OwnEnd.go (fun _ k => st185 _ k) ?_
    show OwnEnd p e below s _ _ _ (T185.setTop (mkF m 220 #[.val (.int p1), .val (.int p2), .val (.int p3), .val (.int p4), .val (.int p5), .val (.int p6), .val (.int (p1 &&& (268435455 : Int32))), .val (.int (p2 &&& (268435455 : Int32))), .val (.int (p3 &&& (268435455 : Int32))), .val (.int (p4 &&& (268435455 : Int32))), .val (.int (p5 &&& (268435455 : Int32))), .val (.int v101), .val (.int v102), .val (.int v103), .val (.ref b104), .val (.int ((0 : Int32) + (p1 &&& (268435455 : Int32)))), .val (.int (1 : Int32)), .val (.int ((((0 : Int32) + (p1 &&& (268435455 : Int32))) + (1 : Int32)) + (p2 &&& (268435455 : Int32)))), .unset] [(.int (((((((0 : Int32) + (p1 &&& (268435455 : Int32))) + (1 : Int32)) + (p2 &&& (268435455 : Int32))) + (1 : Int32)) + (p3 &&& (268435455 : Int32))) - ((((0 : Int32) + (p1 &&& (268435455 : Int32))) + (1 : Int32)) + (p2 &&& (268435455 : Int32)))))]))
    refine OwnEnd.go (fun _ k => XS.iconst X185.here hx rfl (hb hby at_220) k) ?_
    show OwnEnd p e below s _ _ _ (T185.setTop (mkF m 221 #[.val (.int p1), .val (.int p2), .val (.int p3), .val (.int p4), .val (.int p5), .val (.int p6), .val (.int (p1 &&& (268435455 : Int32))), .val (.int (p2 &&& (268435455 : Int32))), .val (.int (p3 &&& (268435455 : Int32))), .val (.int (p4 &&& (268435455 : Int32))), .val (.int (p5 &&& (268435455 : Int32))), .val (.int v101), .val (.int v102), .val (.int v103), .val (.ref b104), .val (.int ((0 : Int32) + (p1 &&& (268435455 : Int32)))), .val (.int (1 : Int32)), .val (.int ((((0 : Int32) + (p1 &&& (268435455 : Int32))) + (1 : Int32)) + (p2 &&& (268435455 : Int32)))), .unset] [(.int (1 : Int32)), (.int (((((((0 : Int32) + (p1 &&& (268435455 : Int32))) + (1 : Int32)) + (p2 &&& (268435455 : Int32))) + (1 : Int32)) + (p3 &&& (268435455 : Int32))) - ((((0 : Int32) + (p1 &&& (268435455 : Int32))) + (1 : Int32)) + (p2 &&& (268435455 : Int32)))))]))
    refine OwnEnd.go (fun _ k => XS.iload X185.here hx rfl (hb hby at_221) rfl  k) ?_
    show OwnEnd p e below s _ _ _ (T185.setTop (mkF m 223 #[.val (.int p1), .val (.int p2), .val (.int p3), .val (.int p4), .val (.int p5), .val (.int p6), .val (.int (p1 &&& (268435455 : Int32))), .val (.int (p2 &&& (268435455 : Int32))), .val (.int (p3 &&& (268435455 : Int32))), .val (.int (p4 &&& (268435455 : Int32))), .val (.int (p5 &&& (268435455 : Int32))), .val (.int v101), .val (.int v102), .val (.int v103), .val (.ref b104), .val (.int ((0 : Int32) + (p1 &&& (268435455 : Int32)))), .val (.int (1 : Int32)), .val (.int ((((0 : Int32) + (p1 &&& (268435455 : Int32))) + (1 : Int32)) + (p2 &&& (268435455 : Int32)))), .unset] [(.int (p3 &&& (268435455 : Int32))), (.int (1 : Int32)), (.int (((((((0 : Int32) + (p1 &&& (268435455 : Int32))) + (1 : Int32)) + (p2 &&& (268435455 : Int32))) + (1 : Int32)) + (p3 &&& (268435455 : Int32))) - ((((0 : Int32) + (p1 &&& (268435455 : Int32))) + (1 : Int32)) + (p2 &&& (268435455 : Int32)))))]))
    refine OwnEnd.go (fun _ k => XS.iadd X185.here hx rfl (hb hby at_223) rfl k) ?_
    show OwnEnd p e below s _ _ _ (T185.setTop (mkF m 224 #[.val (.int p1), .val (.int p2), .val (.int p3), .val (.int p4), .val (.int p5), .val (.int p6), .val (.int (p1 &&& (268435455 : Int32))), .val (.int (p2 &&& (268435455 : Int32))), .val (.int (p3 &&& (268435455 : Int32))), .val (.int (p4 &&& (268435455 : Int32))), .val (.int (p5 &&& (268435455 : Int32))), .val (.int v101), .val (.int v102), .val (.int v103), .val (.ref b104), .val (.int ((0 : Int32) + (p1 &&& (268435455 : Int32)))), .val (.int (1 : Int32)), .val (.int ((((0 : Int32) + (p1 &&& (268435455 : Int32))) + (1 : Int32)) + (p2 &&& (268435455 : Int32)))), .unset] [(.int ((1 : Int32) + (p3 &&& (268435455 : Int32)))), (.int (((((((0 : Int32) + (p1 &&& (268435455 : Int32))) + (1 : Int32)) + (p2 &&& (268435455 : Int32))) + (1 : Int32)) + (p3 &&& (268435455 : Int32))) - ((((0 : Int32) + (p1 &&& (268435455 : Int32))) + (1 : Int32)) + (p2 &&& (268435455 : Int32)))))]))
    refine OwnEnd.go (fun _ k => XS.icmpNo X185.here hx rfl (hb hby at_224) rfl (teq (own_s6 p1 p2 p3 p4 p5 p6)).2 k) ?_
    show OwnEnd p e below s _ _ _ (T185.setTop (mkF m 227 #[.val (.int p1), .val (.int p2), .val (.int p3), .val (.int p4), .val (.int p5), .val (.int p6), .val (.int (p1 &&& (268435455 : Int32))), .val (.int (p2 &&& (268435455 : Int32))), .val (.int (p3 &&& (268435455 : Int32))), .val (.int (p4 &&& (268435455 : Int32))), .val (.int (p5 &&& (268435455 : Int32))), .val (.int v101), .val (.int v102), .val (.int v103), .val (.ref b104), .val (.int ((0 : Int32) + (p1 &&& (268435455 : Int32)))), .val (.int (1 : Int32)), .val (.int ((((0 : Int32) + (p1 &&& (268435455 : Int32))) + (1 : Int32)) + (p2 &&& (268435455 : Int32)))), .unset] []))
    refine OwnEnd.go (fun _ k => XS.aload X185.here hx rfl (hb hby at_227) rfl rfl k) ?_
    show OwnEnd p e below s _ _ _ (T185.setTop (mkF m 229 #[.val (.int p1), .val (.int p2), .val (.int p3), .val (.int p4), .val (.int p5), .val (.int p6), .val (.int (p1 &&& (268435455 : Int32))), .val (.int (p2 &&& (268435455 : Int32))), .val (.int (p3 &&& (268435455 : Int32))), .val (.int (p4 &&& (268435455 : Int32))), .val (.int (p5 &&& (268435455 : Int32))), .val (.int v101), .val (.int v102), .val (.int v103), .val (.ref b104), .val (.int ((0 : Int32) + (p1 &&& (268435455 : Int32)))), .val (.int (1 : Int32)), .val (.int ((((0 : Int32) + (p1 &&& (268435455 : Int32))) + (1 : Int32)) + (p2 &&& (268435455 : Int32)))), .unset] [(.ref b104)]))
    obtain ⟨_, T186, L186, X186, hQ186, st186⟩ := ownCallV X185 hx hZ hown ww71 ww72 ww74 ww73 ww3 ww75 (by decide) (rm10 l Z a0 hw [] b104 y119 y120 ((((((0 : Int32) + (p1 &&& (268435455 : Int32))) + (1 : Int32)) + (p2 &&& (268435455 : Int32))) + (1 : Int32)) + (p3 &&& (268435455 : Int32))) ((0 : Int32) + (p1 &&& (268435455 : Int32))) ((((0 : Int32) + (p1 &&& (268435455 : Int32))) + (1 : Int32)) + (p2 &&& (268435455 : Int32))) ((0 : Int32) + (p4 &&& (268435455 : Int32))) ((0 : Int32) + (p5 &&& (268435455 : Int32))) ((((0 : Int32) + (p1 &&& (268435455 : Int32))) + (1 : Int32)) + (p2 &&& (268435455 : Int32))) (((((((0 : Int32) + (p1 &&& (268435455 : Int32))) + (1 : Int32)) + (p2 &&& (268435455 : Int32))) + (1 : Int32)) + (p3 &&& (268435455 : Int32))) - ((((0 : Int32) + (p1 &&& (268435455 : Int32))) + (1 : Int32)) + (p2 &&& (268435455 : Int32)))) ((0 : Int32) + (p5 &&& (268435455 : Int32))) (1 : Int32) T180.heap n0 Y180  P181) e185 F182 0 (by decide) (by decide) (by decide) (by decide) (g := (mkF m 229 #[.val (.int p1), .val (.int p2), .val (.int p3), .val (.int p4), .val (.int p5), .val (.int p6), .val (.int (p1 &&& (268435455 : Int32))), .val (.int (p2 &&& (268435455 : Int32))), .val (.int (p3 &&& (268435455 : Int32))), .val (.int (p4 &&& (268435455 : Int32))), .val (.int (p5 &&& (268435455 : Int32))), .val (.int v101), .val (.int v102), .val (.int v103), .val (.ref b104), .val (.int ((0 : Int32) + (p1 &&& (268435455 : Int32)))), .val (.int (1 : Int32)), .val (.int ((((0 : Int32) + (p1 &&& (268435455 : Int32))) + (1 : Int32)) + (p2 &&& (268435455 : Int32)))), .unset] [(.ref b104)])) rfl (by rw [hml]; rfl) (argsL := []) (rest := []) (lenOf pd0_3 rfl) rfl rfl (by show 2 * 0 + _ ≤ _; exact Nat.le_of_eq rfl) (hb hby at_229)
    obtain ⟨rfl, N186q, e186⟩ := hQ186
    have N186 := Fr.app N185 N186q
    refine OwnEnd.go (fun _ k => st186 _ k) ?_
    show OwnEnd p e below s _ _ _ (T186.setTop (mkF m 232 #[.val (.int p1), .val (.int p2), .val (.int p3), .val (.int p4), .val (.int p5), .val (.int p6), .val (.int (p1 &&& (268435455 : Int32))), .val (.int (p2 &&& (268435455 : Int32))), .val (.int (p3 &&& (268435455 : Int32))), .val (.int (p4 &&& (268435455 : Int32))), .val (.int (p5 &&& (268435455 : Int32))), .val (.int v101), .val (.int v102), .val (.int v103), .val (.ref b104), .val (.int ((0 : Int32) + (p1 &&& (268435455 : Int32)))), .val (.int (1 : Int32)), .val (.int ((((0 : Int32) + (p1 &&& (268435455 : Int32))) + (1 : Int32)) + (p2 &&& (268435455 : Int32)))), .unset] [(.int ((0 : Int32) + (p5 &&& (268435455 : Int32))))]))
    refine OwnEnd.go (fun _ k => XS.iload X186.here hx rfl (hb hby at_232) rfl  k) ?_
    show OwnEnd p e below s _ _ _ (T186.setTop (mkF m 234 #[.val (.int p1), .val (.int p2), .val (.int p3), .val (.int p4), .val (.int p5), .val (.int p6), .val (.int (p1 &&& (268435455 : Int32))), .val (.int (p2 &&& (268435455 : Int32))), .val (.int (p3 &&& (268435455 : Int32))), .val (.int (p4 &&& (268435455 : Int32))), .val (.int (p5 &&& (268435455 : Int32))), .val (.int v101), .val (.int v102), .val (.int v103), .val (.ref b104), .val (.int ((0 : Int32) + (p1 &&& (268435455 : Int32)))), .val (.int (1 : Int32)), .val (.int ((((0 : Int32) + (p1 &&& (268435455 : Int32))) + (1 : Int32)) + (p2 &&& (268435455 : Int32)))), .unset] [(.int (p5 &&& (268435455 : Int32))), (.int ((0 : Int32) + (p5 &&& (268435455 : Int32))))]))
    refine OwnEnd.go (fun _ k => XS.icmpNo X186.here hx rfl (hb hby at_234) rfl (teq (own_s7 p1 p2 p3 p4 p5 p6)).2 k) ?_
    show OwnEnd p e below s _ _ _ (T186.setTop (mkF m 237 #[.val (.int p1), .val (.int p2), .val (.int p3), .val (.int p4), .val (.int p5), .val (.int p6), .val (.int (p1 &&& (268435455 : Int32))), .val (.int (p2 &&& (268435455 : Int32))), .val (.int (p3 &&& (268435455 : Int32))), .val (.int (p4 &&& (268435455 : Int32))), .val (.int (p5 &&& (268435455 : Int32))), .val (.int v101), .val (.int v102), .val (.int v103), .val (.ref b104), .val (.int ((0 : Int32) + (p1 &&& (268435455 : Int32)))), .val (.int (1 : Int32)), .val (.int ((((0 : Int32) + (p1 &&& (268435455 : Int32))) + (1 : Int32)) + (p2 &&& (268435455 : Int32)))), .unset] []))
    refine OwnEnd.go (fun _ k => XS.iconst X186.here hx rfl (hb hby at_237) k) ?_
    show OwnEnd p e below s _ _ _ (T186.setTop (mkF m 238 #[.val (.int p1), .val (.int p2), .val (.int p3), .val (.int p4), .val (.int p5), .val (.int p6), .val (.int (p1 &&& (268435455 : Int32))), .val (.int (p2 &&& (268435455 : Int32))), .val (.int (p3 &&& (268435455 : Int32))), .val (.int (p4 &&& (268435455 : Int32))), .val (.int (p5 &&& (268435455 : Int32))), .val (.int v101), .val (.int v102), .val (.int v103), .val (.ref b104), .val (.int ((0 : Int32) + (p1 &&& (268435455 : Int32)))), .val (.int (1 : Int32)), .val (.int ((((0 : Int32) + (p1 &&& (268435455 : Int32))) + (1 : Int32)) + (p2 &&& (268435455 : Int32)))), .unset] [(.int (1 : Int32))]))
    refine OwnEnd.go (fun _ k => XS.goto X186.here hx rfl (pc0 := 238) (pc' := 242) rfl (hb hby at_238) (by decide) (by decide) k) ?_
    show OwnEnd p e below s _ _ _ (T186.setTop (mkF m 242 #[.val (.int p1), .val (.int p2), .val (.int p3), .val (.int p4), .val (.int p5), .val (.int p6), .val (.int (p1 &&& (268435455 : Int32))), .val (.int (p2 &&& (268435455 : Int32))), .val (.int (p3 &&& (268435455 : Int32))), .val (.int (p4 &&& (268435455 : Int32))), .val (.int (p5 &&& (268435455 : Int32))), .val (.int v101), .val (.int v102), .val (.int v103), .val (.ref b104), .val (.int ((0 : Int32) + (p1 &&& (268435455 : Int32)))), .val (.int (1 : Int32)), .val (.int ((((0 : Int32) + (p1 &&& (268435455 : Int32))) + (1 : Int32)) + (p2 &&& (268435455 : Int32)))), .unset] [(.int (1 : Int32))]))
    refine OwnEnd.go (fun _ k => XS.istore X186.here hx rfl (hb hby at_242) rfl  (l' := #[.val (.int p1), .val (.int p2), .val (.int p3), .val (.int p4), .val (.int p5), .val (.int p6), .val (.int (p1 &&& (268435455 : Int32))), .val (.int (p2 &&& (268435455 : Int32))), .val (.int (p3 &&& (268435455 : Int32))), .val (.int (p4 &&& (268435455 : Int32))), .val (.int (p5 &&& (268435455 : Int32))), .val (.int v101), .val (.int v102), .val (.int v103), .val (.ref b104), .val (.int ((0 : Int32) + (p1 &&& (268435455 : Int32)))), .val (.int (1 : Int32)), .val (.int ((((0 : Int32) + (p1 &&& (268435455 : Int32))) + (1 : Int32)) + (p2 &&& (268435455 : Int32)))), .unset]) rfl k) ?_
    show OwnEnd p e below s _ _ _ (T186.setTop (mkF m 244 #[.val (.int p1), .val (.int p2), .val (.int p3), .val (.int p4), .val (.int p5), .val (.int p6), .val (.int (p1 &&& (268435455 : Int32))), .val (.int (p2 &&& (268435455 : Int32))), .val (.int (p3 &&& (268435455 : Int32))), .val (.int (p4 &&& (268435455 : Int32))), .val (.int (p5 &&& (268435455 : Int32))), .val (.int v101), .val (.int v102), .val (.int v103), .val (.ref b104), .val (.int ((0 : Int32) + (p1 &&& (268435455 : Int32)))), .val (.int (1 : Int32)), .val (.int ((((0 : Int32) + (p1 &&& (268435455 : Int32))) + (1 : Int32)) + (p2 &&& (268435455 : Int32)))), .unset] []))
    refine OwnEnd.go (fun _ k => XS.goto X186.here hx rfl (pc0 := 244) (pc' := 261) rfl (hb hby at_244) (by decide) (by decide) k) ?_
    show OwnEnd p e below s _ _ _ (T186.setTop (mkF m 261 #[.val (.int p1), .val (.int p2), .val (.int p3), .val (.int p4), .val (.int p5), .val (.int p6), .val (.int (p1 &&& (268435455 : Int32))), .val (.int (p2 &&& (268435455 : Int32))), .val (.int (p3 &&& (268435455 : Int32))), .val (.int (p4 &&& (268435455 : Int32))), .val (.int (p5 &&& (268435455 : Int32))), .val (.int v101), .val (.int v102), .val (.int v103), .val (.ref b104), .val (.int ((0 : Int32) + (p1 &&& (268435455 : Int32)))), .val (.int (1 : Int32)), .val (.int ((((0 : Int32) + (p1 &&& (268435455 : Int32))) + (1 : Int32)) + (p2 &&& (268435455 : Int32)))), .unset] []))
    refine OwnEnd.go (fun _ k => XS.aload X186.here hx rfl (hb hby at_261) rfl rfl k) ?_
    show OwnEnd p e below s _ _ _ (T186.setTop (mkF m 263 #[.val (.int p1), .val (.int p2), .val (.int p3), .val (.int p4), .val (.int p5), .val (.int p6), .val (.int (p1 &&& (268435455 : Int32))), .val (.int (p2 &&& (268435455 : Int32))), .val (.int (p3 &&& (268435455 : Int32))), .val (.int (p4 &&& (268435455 : Int32))), .val (.int (p5 &&& (268435455 : Int32))), .val (.int v101), .val (.int v102), .val (.int v103), .val (.ref b104), .val (.int ((0 : Int32) + (p1 &&& (268435455 : Int32)))), .val (.int (1 : Int32)), .val (.int ((((0 : Int32) + (p1 &&& (268435455 : Int32))) + (1 : Int32)) + (p2 &&& (268435455 : Int32)))), .unset] [(.ref b104)]))
    obtain ⟨_, T187, L187, X187, hQ187, st187⟩ := ownCallV X186 hx hZ hown ww50 ww51 ww53 ww52 ww3 ww54 (by decide) (rm7d1 l Z a0 hw [] b104 y119 y120 ((((((0 : Int32) + (p1 &&& (268435455 : Int32))) + (1 : Int32)) + (p2 &&& (268435455 : Int32))) + (1 : Int32)) + (p3 &&& (268435455 : Int32))) ((0 : Int32) + (p1 &&& (268435455 : Int32))) ((((0 : Int32) + (p1 &&& (268435455 : Int32))) + (1 : Int32)) + (p2 &&& (268435455 : Int32))) ((0 : Int32) + (p4 &&& (268435455 : Int32))) ((0 : Int32) + (p5 &&& (268435455 : Int32))) ((((0 : Int32) + (p1 &&& (268435455 : Int32))) + (1 : Int32)) + (p2 &&& (268435455 : Int32))) (((((((0 : Int32) + (p1 &&& (268435455 : Int32))) + (1 : Int32)) + (p2 &&& (268435455 : Int32))) + (1 : Int32)) + (p3 &&& (268435455 : Int32))) - ((((0 : Int32) + (p1 &&& (268435455 : Int32))) + (1 : Int32)) + (p2 &&& (268435455 : Int32)))) ((0 : Int32) + (p5 &&& (268435455 : Int32))) T180.heap n0 Y180  P181) e186 F182 0 (by decide) (by decide) (by decide) (by decide) (g := (mkF m 263 #[.val (.int p1), .val (.int p2), .val (.int p3), .val (.int p4), .val (.int p5), .val (.int p6), .val (.int (p1 &&& (268435455 : Int32))), .val (.int (p2 &&& (268435455 : Int32))), .val (.int (p3 &&& (268435455 : Int32))), .val (.int (p4 &&& (268435455 : Int32))), .val (.int (p5 &&& (268435455 : Int32))), .val (.int v101), .val (.int v102), .val (.int v103), .val (.ref b104), .val (.int ((0 : Int32) + (p1 &&& (268435455 : Int32)))), .val (.int (1 : Int32)), .val (.int ((((0 : Int32) + (p1 &&& (268435455 : Int32))) + (1 : Int32)) + (p2 &&& (268435455 : Int32)))), .unset] [(.ref b104)])) rfl (by rw [hml]; rfl) (argsL := []) (rest := []) (lenOf pd0_0 rfl) rfl rfl (by show 2 * 0 + _ ≤ _; exact Nat.le_of_eq rfl) (hb hby at_263)
    obtain ⟨rfl, N187q, K187q, P188⟩ := hQ187
    have N187 := Fr.app N186 N187q
    have F189 := F182.keep K187q
    have K187 := K180.trans K187q (allS (Or.inr v104) (allS (Or.inr (Nat.le_trans K104.1 P116)) (allS (Or.inr (Nat.le_trans K104.1 P117)) all0)))
    have Y187 := Nat.le_trans Y180 K187q.1
    have O187 := O180.keep K187q (allS u104 (allS P114 (allS P115 all0)))
    refine OwnEnd.go (fun _ k => st187 _ k) ?_
    show OwnEnd p e below s _ _ _ (T187.setTop (mkF m 266 #[.val (.int p1), .val (.int p2), .val (.int p3), .val (.int p4), .val (.int p5), .val (.int p6), .val (.int (p1 &&& (268435455 : Int32))), .val (.int (p2 &&& (268435455 : Int32))), .val (.int (p3 &&& (268435455 : Int32))), .val (.int (p4 &&& (268435455 : Int32))), .val (.int (p5 &&& (268435455 : Int32))), .val (.int v101), .val (.int v102), .val (.int v103), .val (.ref b104), .val (.int ((0 : Int32) + (p1 &&& (268435455 : Int32)))), .val (.int (1 : Int32)), .val (.int ((((0 : Int32) + (p1 &&& (268435455 : Int32))) + (1 : Int32)) + (p2 &&& (268435455 : Int32)))), .unset] []))
    refine OwnEnd.go (fun _ k => XS.iload X187.here hx rfl (hb hby at_266) rfl  k) ?_
    show OwnEnd p e below s _ _ _ (T187.setTop (mkF m 268 #[.val (.int p1), .val (.int p2), .val (.int p3), .val (.int p4), .val (.int p5), .val (.int p6), .val (.int (p1 &&& (268435455 : Int32))), .val (.int (p2 &&& (268435455 : Int32))), .val (.int (p3 &&& (268435455 : Int32))), .val (.int (p4 &&& (268435455 : Int32))), .val (.int (p5 &&& (268435455 : Int32))), .val (.int v101), .val (.int v102), .val (.int v103), .val (.ref b104), .val (.int ((0 : Int32) + (p1 &&& (268435455 : Int32)))), .val (.int (1 : Int32)), .val (.int ((((0 : Int32) + (p1 &&& (268435455 : Int32))) + (1 : Int32)) + (p2 &&& (268435455 : Int32)))), .unset] [(.int v102)]))
    refine OwnEnd.go (fun _ k => XS.ifNo X187.here hx rfl (hb hby at_268) rfl ((if0 _ _).trans (feq hc149).1) k) ?_
    show OwnEnd p e below s _ _ _ (T187.setTop (mkF m 271 #[.val (.int p1), .val (.int p2), .val (.int p3), .val (.int p4), .val (.int p5), .val (.int p6), .val (.int (p1 &&& (268435455 : Int32))), .val (.int (p2 &&& (268435455 : Int32))), .val (.int (p3 &&& (268435455 : Int32))), .val (.int (p4 &&& (268435455 : Int32))), .val (.int (p5 &&& (268435455 : Int32))), .val (.int v101), .val (.int v102), .val (.int v103), .val (.ref b104), .val (.int ((0 : Int32) + (p1 &&& (268435455 : Int32)))), .val (.int (1 : Int32)), .val (.int ((((0 : Int32) + (p1 &&& (268435455 : Int32))) + (1 : Int32)) + (p2 &&& (268435455 : Int32)))), .unset] []))
    refine OwnEnd.go (fun _ k => XS.iconst X187.here hx rfl (hb hby at_271) k) ?_
    show OwnEnd p e below s _ _ _ (T187.setTop (mkF m 272 #[.val (.int p1), .val (.int p2), .val (.int p3), .val (.int p4), .val (.int p5), .val (.int p6), .val (.int (p1 &&& (268435455 : Int32))), .val (.int (p2 &&& (268435455 : Int32))), .val (.int (p3 &&& (268435455 : Int32))), .val (.int (p4 &&& (268435455 : Int32))), .val (.int (p5 &&& (268435455 : Int32))), .val (.int v101), .val (.int v102), .val (.int v103), .val (.ref b104), .val (.int ((0 : Int32) + (p1 &&& (268435455 : Int32)))), .val (.int (1 : Int32)), .val (.int ((((0 : Int32) + (p1 &&& (268435455 : Int32))) + (1 : Int32)) + (p2 &&& (268435455 : Int32)))), .unset] [(.int (2 : Int32))]))
    refine OwnEnd.go (fun _ k => XS.iload X187.here hx rfl (hb hby at_272) rfl  k) ?_
    show OwnEnd p e below s _ _ _ (T187.setTop (mkF m 274 #[.val (.int p1), .val (.int p2), .val (.int p3), .val (.int p4), .val (.int p5), .val (.int p6), .val (.int (p1 &&& (268435455 : Int32))), .val (.int (p2 &&& (268435455 : Int32))), .val (.int (p3 &&& (268435455 : Int32))), .val (.int (p4 &&& (268435455 : Int32))), .val (.int (p5 &&& (268435455 : Int32))), .val (.int v101), .val (.int v102), .val (.int v103), .val (.ref b104), .val (.int ((0 : Int32) + (p1 &&& (268435455 : Int32)))), .val (.int (1 : Int32)), .val (.int ((((0 : Int32) + (p1 &&& (268435455 : Int32))) + (1 : Int32)) + (p2 &&& (268435455 : Int32)))), .unset] [(.int (p2 &&& (268435455 : Int32))), (.int (2 : Int32))]))
    refine OwnEnd.go (fun _ k => XS.iadd X187.here hx rfl (hb hby at_274) rfl k) ?_
    show OwnEnd p e below s _ _ _ (T187.setTop (mkF m 275 #[.val (.int p1), .val (.int p2), .val (.int p3), .val (.int p4), .val (.int p5), .val (.int p6), .val (.int (p1 &&& (268435455 : Int32))), .val (.int (p2 &&& (268435455 : Int32))), .val (.int (p3 &&& (268435455 : Int32))), .val (.int (p4 &&& (268435455 : Int32))), .val (.int (p5 &&& (268435455 : Int32))), .val (.int v101), .val (.int v102), .val (.int v103), .val (.ref b104), .val (.int ((0 : Int32) + (p1 &&& (268435455 : Int32)))), .val (.int (1 : Int32)), .val (.int ((((0 : Int32) + (p1 &&& (268435455 : Int32))) + (1 : Int32)) + (p2 &&& (268435455 : Int32)))), .unset] [(.int ((2 : Int32) + (p2 &&& (268435455 : Int32))))]))
    refine OwnEnd.go (fun _ k => XS.iload X187.here hx rfl (hb hby at_275) rfl  k) ?_
    show OwnEnd p e below s _ _ _ (T187.setTop (mkF m 277 #[.val (.int p1), .val (.int p2), .val (.int p3), .val (.int p4), .val (.int p5), .val (.int p6), .val (.int (p1 &&& (268435455 : Int32))), .val (.int (p2 &&& (268435455 : Int32))), .val (.int (p3 &&& (268435455 : Int32))), .val (.int (p4 &&& (268435455 : Int32))), .val (.int (p5 &&& (268435455 : Int32))), .val (.int v101), .val (.int v102), .val (.int v103), .val (.ref b104), .val (.int ((0 : Int32) + (p1 &&& (268435455 : Int32)))), .val (.int (1 : Int32)), .val (.int ((((0 : Int32) + (p1 &&& (268435455 : Int32))) + (1 : Int32)) + (p2 &&& (268435455 : Int32)))), .unset] [(.int (p3 &&& (268435455 : Int32))), (.int ((2 : Int32) + (p2 &&& (268435455 : Int32))))]))
    refine OwnEnd.go (fun _ k => XS.iadd X187.here hx rfl (hb hby at_277) rfl k) ?_
    show OwnEnd p e below s _ _ _ (T187.setTop (mkF m 278 #[.val (.int p1), .val (.int p2), .val (.int p3), .val (.int p4), .val (.int p5), .val (.int p6), .val (.int (p1 &&& (268435455 : Int32))), .val (.int (p2 &&& (268435455 : Int32))), .val (.int (p3 &&& (268435455 : Int32))), .val (.int (p4 &&& (268435455 : Int32))), .val (.int (p5 &&& (268435455 : Int32))), .val (.int v101), .val (.int v102), .val (.int v103), .val (.ref b104), .val (.int ((0 : Int32) + (p1 &&& (268435455 : Int32)))), .val (.int (1 : Int32)), .val (.int ((((0 : Int32) + (p1 &&& (268435455 : Int32))) + (1 : Int32)) + (p2 &&& (268435455 : Int32)))), .unset] [(.int (((2 : Int32) + (p2 &&& (268435455 : Int32))) + (p3 &&& (268435455 : Int32))))]))
    refine OwnEnd.go (fun _ k => XS.goto X187.here hx rfl (pc0 := 278) (pc' := 288) rfl (hb hby at_278) (by decide) (by decide) k) ?_
    show OwnEnd p e below s _ _ _ (T187.setTop (mkF m 288 #[.val (.int p1), .val (.int p2), .val (.int p3), .val (.int p4), .val (.int p5), .val (.int p6), .val (.int (p1 &&& (268435455 : Int32))), .val (.int (p2 &&& (268435455 : Int32))), .val (.int (p3 &&& (268435455 : Int32))), .val (.int (p4 &&& (268435455 : Int32))), .val (.int (p5 &&& (268435455 : Int32))), .val (.int v101), .val (.int v102), .val (.int v103), .val (.ref b104), .val (.int ((0 : Int32) + (p1 &&& (268435455 : Int32)))), .val (.int (1 : Int32)), .val (.int ((((0 : Int32) + (p1 &&& (268435455 : Int32))) + (1 : Int32)) + (p2 &&& (268435455 : Int32)))), .unset] [(.int (((2 : Int32) + (p2 &&& (268435455 : Int32))) + (p3 &&& (268435455 : Int32))))]))
    refine OwnEnd.go (fun _ k => XS.istore X187.here hx rfl (hb hby at_288) rfl  (l' := #[.val (.int p1), .val (.int p2), .val (.int p3), .val (.int p4), .val (.int p5), .val (.int p6), .val (.int (p1 &&& (268435455 : Int32))), .val (.int (p2 &&& (268435455 : Int32))), .val (.int (p3 &&& (268435455 : Int32))), .val (.int (p4 &&& (268435455 : Int32))), .val (.int (p5 &&& (268435455 : Int32))), .val (.int v101), .val (.int v102), .val (.int v103), .val (.ref b104), .val (.int ((0 : Int32) + (p1 &&& (268435455 : Int32)))), .val (.int (1 : Int32)), .val (.int (((2 : Int32) + (p2 &&& (268435455 : Int32))) + (p3 &&& (268435455 : Int32)))), .unset]) rfl k) ?_
    show OwnEnd p e below s _ _ _ (T187.setTop (mkF m 290 #[.val (.int p1), .val (.int p2), .val (.int p3), .val (.int p4), .val (.int p5), .val (.int p6), .val (.int (p1 &&& (268435455 : Int32))), .val (.int (p2 &&& (268435455 : Int32))), .val (.int (p3 &&& (268435455 : Int32))), .val (.int (p4 &&& (268435455 : Int32))), .val (.int (p5 &&& (268435455 : Int32))), .val (.int v101), .val (.int v102), .val (.int v103), .val (.ref b104), .val (.int ((0 : Int32) + (p1 &&& (268435455 : Int32)))), .val (.int (1 : Int32)), .val (.int (((2 : Int32) + (p2 &&& (268435455 : Int32))) + (p3 &&& (268435455 : Int32)))), .unset] []))
    refine OwnEnd.go (fun _ k => XS.iload X187.here hx rfl (hb hby at_290) rfl  k) ?_
    show OwnEnd p e below s _ _ _ (T187.setTop (mkF m 292 #[.val (.int p1), .val (.int p2), .val (.int p3), .val (.int p4), .val (.int p5), .val (.int p6), .val (.int (p1 &&& (268435455 : Int32))), .val (.int (p2 &&& (268435455 : Int32))), .val (.int (p3 &&& (268435455 : Int32))), .val (.int (p4 &&& (268435455 : Int32))), .val (.int (p5 &&& (268435455 : Int32))), .val (.int v101), .val (.int v102), .val (.int v103), .val (.ref b104), .val (.int ((0 : Int32) + (p1 &&& (268435455 : Int32)))), .val (.int (1 : Int32)), .val (.int (((2 : Int32) + (p2 &&& (268435455 : Int32))) + (p3 &&& (268435455 : Int32)))), .unset] [(.int v102)]))
    refine OwnEnd.go (fun _ k => XS.ifNo X187.here hx rfl (hb hby at_292) rfl ((if0 _ _).trans (feq hc149).1) k) ?_
    show OwnEnd p e below s _ _ _ (T187.setTop (mkF m 295 #[.val (.int p1), .val (.int p2), .val (.int p3), .val (.int p4), .val (.int p5), .val (.int p6), .val (.int (p1 &&& (268435455 : Int32))), .val (.int (p2 &&& (268435455 : Int32))), .val (.int (p3 &&& (268435455 : Int32))), .val (.int (p4 &&& (268435455 : Int32))), .val (.int (p5 &&& (268435455 : Int32))), .val (.int v101), .val (.int v102), .val (.int v103), .val (.ref b104), .val (.int ((0 : Int32) + (p1 &&& (268435455 : Int32)))), .val (.int (1 : Int32)), .val (.int (((2 : Int32) + (p2 &&& (268435455 : Int32))) + (p3 &&& (268435455 : Int32)))), .unset] []))
    refine OwnEnd.go (fun _ k => XS.iload X187.here hx rfl (hb hby at_295) rfl  k) ?_
    show OwnEnd p e below s _ _ _ (T187.setTop (mkF m 297 #[.val (.int p1), .val (.int p2), .val (.int p3), .val (.int p4), .val (.int p5), .val (.int p6), .val (.int (p1 &&& (268435455 : Int32))), .val (.int (p2 &&& (268435455 : Int32))), .val (.int (p3 &&& (268435455 : Int32))), .val (.int (p4 &&& (268435455 : Int32))), .val (.int (p5 &&& (268435455 : Int32))), .val (.int v101), .val (.int v102), .val (.int v103), .val (.ref b104), .val (.int ((0 : Int32) + (p1 &&& (268435455 : Int32)))), .val (.int (1 : Int32)), .val (.int (((2 : Int32) + (p2 &&& (268435455 : Int32))) + (p3 &&& (268435455 : Int32)))), .unset] [(.int (p4 &&& (268435455 : Int32)))]))
    refine OwnEnd.go (fun _ k => XS.goto X187.here hx rfl (pc0 := 297) (pc' := 305) rfl (hb hby at_297) (by decide) (by decide) k) ?_
    show OwnEnd p e below s _ _ _ (T187.setTop (mkF m 305 #[.val (.int p1), .val (.int p2), .val (.int p3), .val (.int p4), .val (.int p5), .val (.int p6), .val (.int (p1 &&& (268435455 : Int32))), .val (.int (p2 &&& (268435455 : Int32))), .val (.int (p3 &&& (268435455 : Int32))), .val (.int (p4 &&& (268435455 : Int32))), .val (.int (p5 &&& (268435455 : Int32))), .val (.int v101), .val (.int v102), .val (.int v103), .val (.ref b104), .val (.int ((0 : Int32) + (p1 &&& (268435455 : Int32)))), .val (.int (1 : Int32)), .val (.int (((2 : Int32) + (p2 &&& (268435455 : Int32))) + (p3 &&& (268435455 : Int32)))), .unset] [(.int (p4 &&& (268435455 : Int32)))]))
    refine OwnEnd.go (fun _ k => XS.istore X187.here hx rfl (hb hby at_305) rfl  (l' := #[.val (.int p1), .val (.int p2), .val (.int p3), .val (.int p4), .val (.int p5), .val (.int p6), .val (.int (p1 &&& (268435455 : Int32))), .val (.int (p2 &&& (268435455 : Int32))), .val (.int (p3 &&& (268435455 : Int32))), .val (.int (p4 &&& (268435455 : Int32))), .val (.int (p5 &&& (268435455 : Int32))), .val (.int v101), .val (.int v102), .val (.int v103), .val (.ref b104), .val (.int ((0 : Int32) + (p1 &&& (268435455 : Int32)))), .val (.int (1 : Int32)), .val (.int (((2 : Int32) + (p2 &&& (268435455 : Int32))) + (p3 &&& (268435455 : Int32)))), .val (.int (p4 &&& (268435455 : Int32)))]) rfl k) ?_
    show OwnEnd p e below s _ _ _ (T187.setTop (mkF m 307 #[.val (.int p1), .val (.int p2), .val (.int p3), .val (.int p4), .val (.int p5), .val (.int p6), .val (.int (p1 &&& (268435455 : Int32))), .val (.int (p2 &&& (268435455 : Int32))), .val (.int (p3 &&& (268435455 : Int32))), .val (.int (p4 &&& (268435455 : Int32))), .val (.int (p5 &&& (268435455 : Int32))), .val (.int v101), .val (.int v102), .val (.int v103), .val (.ref b104), .val (.int ((0 : Int32) + (p1 &&& (268435455 : Int32)))), .val (.int (1 : Int32)), .val (.int (((2 : Int32) + (p2 &&& (268435455 : Int32))) + (p3 &&& (268435455 : Int32)))), .val (.int (p4 &&& (268435455 : Int32)))] []))
    refine OwnEnd.go (fun _ k => XS.iload X187.here hx rfl (hb hby at_307) rfl  k) ?_
    show OwnEnd p e below s _ _ _ (T187.setTop (mkF m 309 #[.val (.int p1), .val (.int p2), .val (.int p3), .val (.int p4), .val (.int p5), .val (.int p6), .val (.int (p1 &&& (268435455 : Int32))), .val (.int (p2 &&& (268435455 : Int32))), .val (.int (p3 &&& (268435455 : Int32))), .val (.int (p4 &&& (268435455 : Int32))), .val (.int (p5 &&& (268435455 : Int32))), .val (.int v101), .val (.int v102), .val (.int v103), .val (.ref b104), .val (.int ((0 : Int32) + (p1 &&& (268435455 : Int32)))), .val (.int (1 : Int32)), .val (.int (((2 : Int32) + (p2 &&& (268435455 : Int32))) + (p3 &&& (268435455 : Int32)))), .val (.int (p4 &&& (268435455 : Int32)))] [(.int (1 : Int32))]))
    refine OwnEnd.go (fun _ k => XS.ifNo X187.here hx rfl (hb hby at_309) rfl ((if0 _ _).trans (feq (by decide : ¬ (1 : Int32) = (0 : Int32))).1) k) ?_
    show OwnEnd p e below s _ _ _ (T187.setTop (mkF m 312 #[.val (.int p1), .val (.int p2), .val (.int p3), .val (.int p4), .val (.int p5), .val (.int p6), .val (.int (p1 &&& (268435455 : Int32))), .val (.int (p2 &&& (268435455 : Int32))), .val (.int (p3 &&& (268435455 : Int32))), .val (.int (p4 &&& (268435455 : Int32))), .val (.int (p5 &&& (268435455 : Int32))), .val (.int v101), .val (.int v102), .val (.int v103), .val (.ref b104), .val (.int ((0 : Int32) + (p1 &&& (268435455 : Int32)))), .val (.int (1 : Int32)), .val (.int (((2 : Int32) + (p2 &&& (268435455 : Int32))) + (p3 &&& (268435455 : Int32)))), .val (.int (p4 &&& (268435455 : Int32)))] []))
    refine OwnEnd.go (fun _ k => XS.aload X187.here hx rfl (hb hby at_312) rfl rfl k) ?_
    show OwnEnd p e below s _ _ _ (T187.setTop (mkF m 314 #[.val (.int p1), .val (.int p2), .val (.int p3), .val (.int p4), .val (.int p5), .val (.int p6), .val (.int (p1 &&& (268435455 : Int32))), .val (.int (p2 &&& (268435455 : Int32))), .val (.int (p3 &&& (268435455 : Int32))), .val (.int (p4 &&& (268435455 : Int32))), .val (.int (p5 &&& (268435455 : Int32))), .val (.int v101), .val (.int v102), .val (.int v103), .val (.ref b104), .val (.int ((0 : Int32) + (p1 &&& (268435455 : Int32)))), .val (.int (1 : Int32)), .val (.int (((2 : Int32) + (p2 &&& (268435455 : Int32))) + (p3 &&& (268435455 : Int32)))), .val (.int (p4 &&& (268435455 : Int32)))] [(.ref b104)]))
    obtain ⟨_, T191, L191, X191, hQ191, st191⟩ := ownCallV X187 hx hZ hown ww61 ww62 ww64 ww63 ww3 ww65 (by decide) (rm8 l Z a0 hw [] b104 y119 y120 ((((((0 : Int32) + (p1 &&& (268435455 : Int32))) + (1 : Int32)) + (p2 &&& (268435455 : Int32))) + (1 : Int32)) + (p3 &&& (268435455 : Int32))) ((0 : Int32) + (p1 &&& (268435455 : Int32))) ((((0 : Int32) + (p1 &&& (268435455 : Int32))) + (1 : Int32)) + (p2 &&& (268435455 : Int32))) ((0 : Int32) + (p4 &&& (268435455 : Int32))) ((0 : Int32) + (p5 &&& (268435455 : Int32))) ((0 : Int32) + (p1 &&& (268435455 : Int32))) (((((((0 : Int32) + (p1 &&& (268435455 : Int32))) + (1 : Int32)) + (p2 &&& (268435455 : Int32))) + (1 : Int32)) + (p3 &&& (268435455 : Int32))) - ((0 : Int32) + (p1 &&& (268435455 : Int32)))) ((0 : Int32) + (p4 &&& (268435455 : Int32))) (0 : Int32) T187.heap n0 Y187  P188) (rfl : T187.heap = T187.heap) F189 0 (by decide) (by decide) (by decide) (by decide) (g := (mkF m 314 #[.val (.int p1), .val (.int p2), .val (.int p3), .val (.int p4), .val (.int p5), .val (.int p6), .val (.int (p1 &&& (268435455 : Int32))), .val (.int (p2 &&& (268435455 : Int32))), .val (.int (p3 &&& (268435455 : Int32))), .val (.int (p4 &&& (268435455 : Int32))), .val (.int (p5 &&& (268435455 : Int32))), .val (.int v101), .val (.int v102), .val (.int v103), .val (.ref b104), .val (.int ((0 : Int32) + (p1 &&& (268435455 : Int32)))), .val (.int (1 : Int32)), .val (.int (((2 : Int32) + (p2 &&& (268435455 : Int32))) + (p3 &&& (268435455 : Int32)))), .val (.int (p4 &&& (268435455 : Int32)))] [(.ref b104)])) rfl (by rw [hml]; rfl) (argsL := []) (rest := []) (lenOf pd0_3 rfl) rfl rfl (by show 2 * 0 + _ ≤ _; exact Nat.le_of_eq rfl) (hb hby at_314)
    obtain ⟨rfl, N191q, e191⟩ := hQ191
    have N191 := Fr.app N187 N191q
    refine OwnEnd.go (fun _ k => st191 _ k) ?_
    show OwnEnd p e below s _ _ _ (T191.setTop (mkF m 317 #[.val (.int p1), .val (.int p2), .val (.int p3), .val (.int p4), .val (.int p5), .val (.int p6), .val (.int (p1 &&& (268435455 : Int32))), .val (.int (p2 &&& (268435455 : Int32))), .val (.int (p3 &&& (268435455 : Int32))), .val (.int (p4 &&& (268435455 : Int32))), .val (.int (p5 &&& (268435455 : Int32))), .val (.int v101), .val (.int v102), .val (.int v103), .val (.ref b104), .val (.int ((0 : Int32) + (p1 &&& (268435455 : Int32)))), .val (.int (1 : Int32)), .val (.int (((2 : Int32) + (p2 &&& (268435455 : Int32))) + (p3 &&& (268435455 : Int32)))), .val (.int (p4 &&& (268435455 : Int32)))] [(.int ((0 : Int32) + (p1 &&& (268435455 : Int32))))]))
    refine OwnEnd.go (fun _ k => XS.iload X191.here hx rfl (hb hby at_317) rfl  k) ?_
    show OwnEnd p e below s _ _ _ (T191.setTop (mkF m 319 #[.val (.int p1), .val (.int p2), .val (.int p3), .val (.int p4), .val (.int p5), .val (.int p6), .val (.int (p1 &&& (268435455 : Int32))), .val (.int (p2 &&& (268435455 : Int32))), .val (.int (p3 &&& (268435455 : Int32))), .val (.int (p4 &&& (268435455 : Int32))), .val (.int (p5 &&& (268435455 : Int32))), .val (.int v101), .val (.int v102), .val (.int v103), .val (.ref b104), .val (.int ((0 : Int32) + (p1 &&& (268435455 : Int32)))), .val (.int (1 : Int32)), .val (.int (((2 : Int32) + (p2 &&& (268435455 : Int32))) + (p3 &&& (268435455 : Int32)))), .val (.int (p4 &&& (268435455 : Int32)))] [(.int (p1 &&& (268435455 : Int32))), (.int ((0 : Int32) + (p1 &&& (268435455 : Int32))))]))
    refine OwnEnd.go (fun _ k => XS.icmpNo X191.here hx rfl (hb hby at_319) rfl (teq (own_s8 p1 p2 p3 p4 p5 p6)).2 k) ?_
    show OwnEnd p e below s _ _ _ (T191.setTop (mkF m 322 #[.val (.int p1), .val (.int p2), .val (.int p3), .val (.int p4), .val (.int p5), .val (.int p6), .val (.int (p1 &&& (268435455 : Int32))), .val (.int (p2 &&& (268435455 : Int32))), .val (.int (p3 &&& (268435455 : Int32))), .val (.int (p4 &&& (268435455 : Int32))), .val (.int (p5 &&& (268435455 : Int32))), .val (.int v101), .val (.int v102), .val (.int v103), .val (.ref b104), .val (.int ((0 : Int32) + (p1 &&& (268435455 : Int32)))), .val (.int (1 : Int32)), .val (.int (((2 : Int32) + (p2 &&& (268435455 : Int32))) + (p3 &&& (268435455 : Int32)))), .val (.int (p4 &&& (268435455 : Int32)))] []))
    refine OwnEnd.go (fun _ k => XS.aload X191.here hx rfl (hb hby at_322) rfl rfl k) ?_
    show OwnEnd p e below s _ _ _ (T191.setTop (mkF m 324 #[.val (.int p1), .val (.int p2), .val (.int p3), .val (.int p4), .val (.int p5), .val (.int p6), .val (.int (p1 &&& (268435455 : Int32))), .val (.int (p2 &&& (268435455 : Int32))), .val (.int (p3 &&& (268435455 : Int32))), .val (.int (p4 &&& (268435455 : Int32))), .val (.int (p5 &&& (268435455 : Int32))), .val (.int v101), .val (.int v102), .val (.int v103), .val (.ref b104), .val (.int ((0 : Int32) + (p1 &&& (268435455 : Int32)))), .val (.int (1 : Int32)), .val (.int (((2 : Int32) + (p2 &&& (268435455 : Int32))) + (p3 &&& (268435455 : Int32)))), .val (.int (p4 &&& (268435455 : Int32)))] [(.ref b104)]))
    obtain ⟨_, T192, L192, X192, hQ192, st192⟩ := ownCallV X191 hx hZ hown ww66 ww67 ww69 ww68 ww3 ww70 (by decide) (rm9 l Z a0 hw [] b104 y119 y120 ((((((0 : Int32) + (p1 &&& (268435455 : Int32))) + (1 : Int32)) + (p2 &&& (268435455 : Int32))) + (1 : Int32)) + (p3 &&& (268435455 : Int32))) ((0 : Int32) + (p1 &&& (268435455 : Int32))) ((((0 : Int32) + (p1 &&& (268435455 : Int32))) + (1 : Int32)) + (p2 &&& (268435455 : Int32))) ((0 : Int32) + (p4 &&& (268435455 : Int32))) ((0 : Int32) + (p5 &&& (268435455 : Int32))) ((0 : Int32) + (p1 &&& (268435455 : Int32))) (((((((0 : Int32) + (p1 &&& (268435455 : Int32))) + (1 : Int32)) + (p2 &&& (268435455 : Int32))) + (1 : Int32)) + (p3 &&& (268435455 : Int32))) - ((0 : Int32) + (p1 &&& (268435455 : Int32)))) ((0 : Int32) + (p4 &&& (268435455 : Int32))) (0 : Int32) T187.heap n0 Y187  P188) e191 F189 0 (by decide) (by decide) (by decide) (by decide) (g := (mkF m 324 #[.val (.int p1), .val (.int p2), .val (.int p3), .val (.int p4), .val (.int p5), .val (.int p6), .val (.int (p1 &&& (268435455 : Int32))), .val (.int (p2 &&& (268435455 : Int32))), .val (.int (p3 &&& (268435455 : Int32))), .val (.int (p4 &&& (268435455 : Int32))), .val (.int (p5 &&& (268435455 : Int32))), .val (.int v101), .val (.int v102), .val (.int v103), .val (.ref b104), .val (.int ((0 : Int32) + (p1 &&& (268435455 : Int32)))), .val (.int (1 : Int32)), .val (.int (((2 : Int32) + (p2 &&& (268435455 : Int32))) + (p3 &&& (268435455 : Int32)))), .val (.int (p4 &&& (268435455 : Int32)))] [(.ref b104)])) rfl (by rw [hml]; rfl) (argsL := []) (rest := []) (lenOf pd0_3 rfl) rfl rfl (by show 2 * 0 + _ ≤ _; exact Nat.le_of_eq rfl) (hb hby at_324)
    obtain ⟨rfl, N192q, e192⟩ := hQ192
    have N192 := Fr.app N191 N192q
    refine OwnEnd.go (fun _ k => st192 _ k) ?_
    show OwnEnd p e below s _ _ _ (T192.setTop (mkF m 327 #[.val (.int p1), .val (.int p2), .val (.int p3), .val (.int p4), .val (.int p5), .val (.int p6), .val (.int (p1 &&& (268435455 : Int32))), .val (.int (p2 &&& (268435455 : Int32))), .val (.int (p3 &&& (268435455 : Int32))), .val (.int (p4 &&& (268435455 : Int32))), .val (.int (p5 &&& (268435455 : Int32))), .val (.int v101), .val (.int v102), .val (.int v103), .val (.ref b104), .val (.int ((0 : Int32) + (p1 &&& (268435455 : Int32)))), .val (.int (1 : Int32)), .val (.int (((2 : Int32) + (p2 &&& (268435455 : Int32))) + (p3 &&& (268435455 : Int32)))), .val (.int (p4 &&& (268435455 : Int32)))] [(.int (((((((0 : Int32) + (p1 &&& (268435455 : Int32))) + (1 : Int32)) + (p2 &&& (268435455 : Int32))) + (1 : Int32)) + (p3 &&& (268435455 : Int32))) - ((0 : Int32) + (p1 &&& (268435455 : Int32)))))]))
    refine OwnEnd.go (fun _ k => XS.iload X192.here hx rfl (hb hby at_327) rfl  k) ?_
    show OwnEnd p e below s _ _ _ (T192.setTop (mkF m 329 #[.val (.int p1), .val (.int p2), .val (.int p3), .val (.int p4), .val (.int p5), .val (.int p6), .val (.int (p1 &&& (268435455 : Int32))), .val (.int (p2 &&& (268435455 : Int32))), .val (.int (p3 &&& (268435455 : Int32))), .val (.int (p4 &&& (268435455 : Int32))), .val (.int (p5 &&& (268435455 : Int32))), .val (.int v101), .val (.int v102), .val (.int v103), .val (.ref b104), .val (.int ((0 : Int32) + (p1 &&& (268435455 : Int32)))), .val (.int (1 : Int32)), .val (.int (((2 : Int32) + (p2 &&& (268435455 : Int32))) + (p3 &&& (268435455 : Int32)))), .val (.int (p4 &&& (268435455 : Int32)))] [(.int (((2 : Int32) + (p2 &&& (268435455 : Int32))) + (p3 &&& (268435455 : Int32)))), (.int (((((((0 : Int32) + (p1 &&& (268435455 : Int32))) + (1 : Int32)) + (p2 &&& (268435455 : Int32))) + (1 : Int32)) + (p3 &&& (268435455 : Int32))) - ((0 : Int32) + (p1 &&& (268435455 : Int32)))))]))
    refine OwnEnd.go (fun _ k => XS.icmpNo X192.here hx rfl (hb hby at_329) rfl (teq (own_s9 p1 p2 p3 p4 p5 p6)).2 k) ?_
    show OwnEnd p e below s _ _ _ (T192.setTop (mkF m 332 #[.val (.int p1), .val (.int p2), .val (.int p3), .val (.int p4), .val (.int p5), .val (.int p6), .val (.int (p1 &&& (268435455 : Int32))), .val (.int (p2 &&& (268435455 : Int32))), .val (.int (p3 &&& (268435455 : Int32))), .val (.int (p4 &&& (268435455 : Int32))), .val (.int (p5 &&& (268435455 : Int32))), .val (.int v101), .val (.int v102), .val (.int v103), .val (.ref b104), .val (.int ((0 : Int32) + (p1 &&& (268435455 : Int32)))), .val (.int (1 : Int32)), .val (.int (((2 : Int32) + (p2 &&& (268435455 : Int32))) + (p3 &&& (268435455 : Int32)))), .val (.int (p4 &&& (268435455 : Int32)))] []))
    refine OwnEnd.go (fun _ k => XS.aload X192.here hx rfl (hb hby at_332) rfl rfl k) ?_
    show OwnEnd p e below s _ _ _ (T192.setTop (mkF m 334 #[.val (.int p1), .val (.int p2), .val (.int p3), .val (.int p4), .val (.int p5), .val (.int p6), .val (.int (p1 &&& (268435455 : Int32))), .val (.int (p2 &&& (268435455 : Int32))), .val (.int (p3 &&& (268435455 : Int32))), .val (.int (p4 &&& (268435455 : Int32))), .val (.int (p5 &&& (268435455 : Int32))), .val (.int v101), .val (.int v102), .val (.int v103), .val (.ref b104), .val (.int ((0 : Int32) + (p1 &&& (268435455 : Int32)))), .val (.int (1 : Int32)), .val (.int (((2 : Int32) + (p2 &&& (268435455 : Int32))) + (p3 &&& (268435455 : Int32)))), .val (.int (p4 &&& (268435455 : Int32)))] [(.ref b104)]))
    obtain ⟨_, T193, L193, X193, hQ193, st193⟩ := ownCallV X192 hx hZ hown ww71 ww72 ww74 ww73 ww3 ww75 (by decide) (rm10 l Z a0 hw [] b104 y119 y120 ((((((0 : Int32) + (p1 &&& (268435455 : Int32))) + (1 : Int32)) + (p2 &&& (268435455 : Int32))) + (1 : Int32)) + (p3 &&& (268435455 : Int32))) ((0 : Int32) + (p1 &&& (268435455 : Int32))) ((((0 : Int32) + (p1 &&& (268435455 : Int32))) + (1 : Int32)) + (p2 &&& (268435455 : Int32))) ((0 : Int32) + (p4 &&& (268435455 : Int32))) ((0 : Int32) + (p5 &&& (268435455 : Int32))) ((0 : Int32) + (p1 &&& (268435455 : Int32))) (((((((0 : Int32) + (p1 &&& (268435455 : Int32))) + (1 : Int32)) + (p2 &&& (268435455 : Int32))) + (1 : Int32)) + (p3 &&& (268435455 : Int32))) - ((0 : Int32) + (p1 &&& (268435455 : Int32)))) ((0 : Int32) + (p4 &&& (268435455 : Int32))) (0 : Int32) T187.heap n0 Y187  P188) e192 F189 0 (by decide) (by decide) (by decide) (by decide) (g := (mkF m 334 #[.val (.int p1), .val (.int p2), .val (.int p3), .val (.int p4), .val (.int p5), .val (.int p6), .val (.int (p1 &&& (268435455 : Int32))), .val (.int (p2 &&& (268435455 : Int32))), .val (.int (p3 &&& (268435455 : Int32))), .val (.int (p4 &&& (268435455 : Int32))), .val (.int (p5 &&& (268435455 : Int32))), .val (.int v101), .val (.int v102), .val (.int v103), .val (.ref b104), .val (.int ((0 : Int32) + (p1 &&& (268435455 : Int32)))), .val (.int (1 : Int32)), .val (.int (((2 : Int32) + (p2 &&& (268435455 : Int32))) + (p3 &&& (268435455 : Int32)))), .val (.int (p4 &&& (268435455 : Int32)))] [(.ref b104)])) rfl (by rw [hml]; rfl) (argsL := []) (rest := []) (lenOf pd0_3 rfl) rfl rfl (by show 2 * 0 + _ ≤ _; exact Nat.le_of_eq rfl) (hb hby at_334)
    obtain ⟨rfl, N193q, e193⟩ := hQ193
    have N193 := Fr.app N192 N193q
    refine OwnEnd.go (fun _ k => st193 _ k) ?_
    show OwnEnd p e below s _ _ _ (T193.setTop (mkF m 337 #[.val (.int p1), .val (.int p2), .val (.int p3), .val (.int p4), .val (.int p5), .val (.int p6), .val (.int (p1 &&& (268435455 : Int32))), .val (.int (p2 &&& (268435455 : Int32))), .val (.int (p3 &&& (268435455 : Int32))), .val (.int (p4 &&& (268435455 : Int32))), .val (.int (p5 &&& (268435455 : Int32))), .val (.int v101), .val (.int v102), .val (.int v103), .val (.ref b104), .val (.int ((0 : Int32) + (p1 &&& (268435455 : Int32)))), .val (.int (1 : Int32)), .val (.int (((2 : Int32) + (p2 &&& (268435455 : Int32))) + (p3 &&& (268435455 : Int32)))), .val (.int (p4 &&& (268435455 : Int32)))] [(.int ((0 : Int32) + (p4 &&& (268435455 : Int32))))]))
    refine OwnEnd.go (fun _ k => XS.iload X193.here hx rfl (hb hby at_337) rfl  k) ?_
    show OwnEnd p e below s _ _ _ (T193.setTop (mkF m 339 #[.val (.int p1), .val (.int p2), .val (.int p3), .val (.int p4), .val (.int p5), .val (.int p6), .val (.int (p1 &&& (268435455 : Int32))), .val (.int (p2 &&& (268435455 : Int32))), .val (.int (p3 &&& (268435455 : Int32))), .val (.int (p4 &&& (268435455 : Int32))), .val (.int (p5 &&& (268435455 : Int32))), .val (.int v101), .val (.int v102), .val (.int v103), .val (.ref b104), .val (.int ((0 : Int32) + (p1 &&& (268435455 : Int32)))), .val (.int (1 : Int32)), .val (.int (((2 : Int32) + (p2 &&& (268435455 : Int32))) + (p3 &&& (268435455 : Int32)))), .val (.int (p4 &&& (268435455 : Int32)))] [(.int (p4 &&& (268435455 : Int32))), (.int ((0 : Int32) + (p4 &&& (268435455 : Int32))))]))
    refine OwnEnd.go (fun _ k => XS.icmpNo X193.here hx rfl (hb hby at_339) rfl (teq (own_s10 p1 p2 p3 p4 p5 p6)).2 k) ?_
    show OwnEnd p e below s _ _ _ (T193.setTop (mkF m 342 #[.val (.int p1), .val (.int p2), .val (.int p3), .val (.int p4), .val (.int p5), .val (.int p6), .val (.int (p1 &&& (268435455 : Int32))), .val (.int (p2 &&& (268435455 : Int32))), .val (.int (p3 &&& (268435455 : Int32))), .val (.int (p4 &&& (268435455 : Int32))), .val (.int (p5 &&& (268435455 : Int32))), .val (.int v101), .val (.int v102), .val (.int v103), .val (.ref b104), .val (.int ((0 : Int32) + (p1 &&& (268435455 : Int32)))), .val (.int (1 : Int32)), .val (.int (((2 : Int32) + (p2 &&& (268435455 : Int32))) + (p3 &&& (268435455 : Int32)))), .val (.int (p4 &&& (268435455 : Int32)))] []))
    refine OwnEnd.go (fun _ k => XS.iconst X193.here hx rfl (hb hby at_342) k) ?_
    show OwnEnd p e below s _ _ _ (T193.setTop (mkF m 343 #[.val (.int p1), .val (.int p2), .val (.int p3), .val (.int p4), .val (.int p5), .val (.int p6), .val (.int (p1 &&& (268435455 : Int32))), .val (.int (p2 &&& (268435455 : Int32))), .val (.int (p3 &&& (268435455 : Int32))), .val (.int (p4 &&& (268435455 : Int32))), .val (.int (p5 &&& (268435455 : Int32))), .val (.int v101), .val (.int v102), .val (.int v103), .val (.ref b104), .val (.int ((0 : Int32) + (p1 &&& (268435455 : Int32)))), .val (.int (1 : Int32)), .val (.int (((2 : Int32) + (p2 &&& (268435455 : Int32))) + (p3 &&& (268435455 : Int32)))), .val (.int (p4 &&& (268435455 : Int32)))] [(.int (1 : Int32))]))
    refine OwnEnd.go (fun _ k => XS.goto X193.here hx rfl (pc0 := 343) (pc' := 347) rfl (hb hby at_343) (by decide) (by decide) k) ?_
    show OwnEnd p e below s _ _ _ (T193.setTop (mkF m 347 #[.val (.int p1), .val (.int p2), .val (.int p3), .val (.int p4), .val (.int p5), .val (.int p6), .val (.int (p1 &&& (268435455 : Int32))), .val (.int (p2 &&& (268435455 : Int32))), .val (.int (p3 &&& (268435455 : Int32))), .val (.int (p4 &&& (268435455 : Int32))), .val (.int (p5 &&& (268435455 : Int32))), .val (.int v101), .val (.int v102), .val (.int v103), .val (.ref b104), .val (.int ((0 : Int32) + (p1 &&& (268435455 : Int32)))), .val (.int (1 : Int32)), .val (.int (((2 : Int32) + (p2 &&& (268435455 : Int32))) + (p3 &&& (268435455 : Int32)))), .val (.int (p4 &&& (268435455 : Int32)))] [(.int (1 : Int32))]))
    refine ownRetZ X193 hx hlk hret (hb hby at_347) (by decide) (by decide) (1 : Int32) (by decide) ?_
    show Q0 Z p1 p2 p3 p4 p5 p6 a_DOCUMENT a_ELEMENT a_ATTRIBUTE h0 n0 _ T193.heap _
    rw [e193]
    exact ⟨rfl, N193⟩
set_option maxRecDepth 65536 in
set_option maxHeartbeats 40000000 in
theorem comes_1 {Post : Tables → Env → Array Value → State → Outcome → State → Prop} (hpost : ∀ tb e args s v u, (limb_1_1.after args s (.returned v) u = true ∧ limb_1_2.after args s (.returned v) u = true ∧ True) → FrameEnd s (.returned v) u (Jvm.fieldLocs frame_1_writes args s ++ Jvm.arrayLocs frame_1_arrays args s ++ Jvm.staticLocs frame_1_statics s) 16 128 → Post tb e args s (.returned v) u) :
    ArmFor flags0 classFile x code maxLocals ret World_1 tables_1 room_1 Calls_1 rest_1 Pre_1 Post := by
  intro l hfl _ _ p e ha hc hk s m args below hf hA hF happ hP
  obtain ⟨hcalls, hrest, hpre⟩ := hP
  obtain ⟨-, -, -, hnamed, -, -, -, hat⟩ := (Spec.applies_iff hf).mp happ
  obtain ⟨hg, hn⟩ := and_e (Cond.before_iff.mp (show (Jvm.Cond.and given_1 narrow_1).before args s = true from hpre))
  obtain ⟨hcount, hg⟩ := and_e hg
  obtain ⟨hv0, hg⟩ := and_e hg
  obtain ⟨hv1, hg⟩ := and_e hg
  obtain ⟨hv2, hg⟩ := and_e hg
  obtain ⟨hv3, hg⟩ := and_e hg
  obtain ⟨hv4, hg⟩ := and_e hg
  have hv5 := hg
  obtain ⟨w0, w1, w2, w3, w4, w5, rfl⟩ : ∃ w0 w1 w2 w3 w4 w5 : Value, args = #[w0, w1, w2, w3, w4, w5] := by
    have hs : args.size = 6 := by simpa [Cond.value, given_1] using hcount
    obtain ⟨L⟩ := args
    match L, hs with
    | [w0, w1, w2, w3, w4, w5], _ => exact ⟨w0, w1, w2, w3, w4, w5, rfl⟩
  have hw := fun d (hd : d ∈ tables_1) => atoms_spec (ws := Jvm.Cond.code x code maxLocals ret :: tables_1) hat d (List.mem_cons_of_mem _ hd)
  have hfit : Fit s := fun {y c} hc i hi => by
    obtain ⟨ha, rfl⟩ := Array.getElem?_eq_some_iff.mp hc
    have q := List.all_eq_true.mp ((Array.all_eq_true_iff_forall_mem.mp hF) _ (Array.getElem_mem ha)) i (List.mem_range.mpr hi)
    simpa [Array.getElem?_eq_getElem hi] using q
  obtain ⟨i0, ei0⟩ := is_v hv0
  obtain rfl : w0 = (.int i0) := Option.some.inj ei0
  obtain ⟨i1, ei1⟩ := is_v hv1
  obtain rfl : w1 = (.int i1) := Option.some.inj ei1
  obtain ⟨i2, ei2⟩ := is_v hv2
  obtain rfl : w2 = (.int i2) := Option.some.inj ei2
  obtain ⟨i3, ei3⟩ := is_v hv3
  obtain rfl : w3 = (.int i3) := Option.some.inj ei3
  obtain ⟨i4, ei4⟩ := is_v hv4
  obtain rfl : w4 = (.int i4) := Option.some.inj ei4
  obtain ⟨i5, ei5⟩ := is_v hv5
  obtain rfl : w5 = (.int i5) := Option.some.inj ei5
  have ww23 := hw _ (List.mem_of_getElem? (i := 23) rfl)
  have ww24 := hw _ (List.mem_of_getElem? (i := 24) rfl)
  have ww40 := hw _ (List.mem_of_getElem? (i := 40) rfl)
  have ww42 := hw _ (List.mem_of_getElem? (i := 42) rfl)
  obtain ⟨na1, nb1⟩ := and_e hn
  obtain ⟨na2, nb2⟩ := and_e nb1
  obtain ⟨na3, nb3⟩ := and_e nb2
  obtain ⟨na4, nb4⟩ := and_e nb3
  obtain ⟨na5, nb5⟩ := and_e nb4
  obtain ⟨a_DOCUMENT, ev_DOCUMENT⟩ := exa_v na1
  have E_DOCUMENT := Exa.start ev_DOCUMENT na1
  have S_DOCUMENT := Sta.start ev_DOCUMENT (Or.inr ⟨ww23, ww24⟩)
  obtain ⟨a_ATTRIBUTE, ev_ATTRIBUTE⟩ := exa_v na2
  have E_ATTRIBUTE := Exa.start ev_ATTRIBUTE na2
  have S_ATTRIBUTE := Sta.start ev_ATTRIBUTE (Or.inr ⟨ww23, ww40⟩)
  obtain ⟨a_ELEMENT, ev_ELEMENT⟩ := exa_v na5
  have E_ELEMENT := Exa.start ev_ELEMENT na5
  have S_ELEMENT := Sta.start ev_ELEMENT (Or.inr ⟨ww23, ww42⟩)
  have D_DOCUMENT : Fld s s.heap a_DOCUMENT "java/lang/Enum" "ordinal" "I" (.int (0 : Int32)) := ownOrd ev_DOCUMENT na3
  have D_ATTRIBUTE : Fld s s.heap a_ATTRIBUTE "java/lang/Enum" "ordinal" "I" (.int (2 : Int32)) := ownOrd ev_ATTRIBUTE na4
  have D_ELEMENT : Fld s s.heap a_ELEMENT "java/lang/Enum" "ordinal" "I" (.int (1 : Int32)) := ownOrd ev_ELEMENT nb5
  have nAD : a_ATTRIBUTE ≠ a_DOCUMENT := Fld.ne D_ATTRIBUTE D_DOCUMENT (by decide)
  have nAE : a_ATTRIBUTE ≠ a_ELEMENT := Fld.ne D_ATTRIBUTE D_ELEMENT (by decide)
  obtain ⟨n, o, h1, h2, h3, _, L, rfl, ⟨rfl, N⟩, hq⟩ := rm0 l s _ hw tables_1 i0 i1 i2 i3 i4 i5 a_DOCUMENT a_ELEMENT a_ATTRIBUTE s.heap s.heap.size (Nat.le_refl _) (Old.start s) S_DOCUMENT S_ELEMENT S_ATTRIBUTE nAD nAE p e ha hc hk s m _ below hf ((Spec.applies_iff_loose hf).mp happ).1 ⟨rfl, State.Warmed39.refl s, rfl⟩ trivial
  refine ⟨n, _, h1, h2, h3, hpost _ _ _ _ _ _ ⟨Cond.after_iff.mpr rfl, Cond.after_iff.mpr (eq_i res_at (Term.int_eval (1)) rfl), trivial⟩ ⟨hq.1, hq.2.1, (hq.2.2.sift fun y hy => Or.inr (N y hy)).mono (by decide) (by decide)⟩⟩
theorem main_1_1 : Claimed_1_1 := comes_1 fun _ _ _ _ _ _ h hF => ⟨h.1, hF⟩
theorem main_1_2 : Claimed_1_2 := comes_1 fun _ _ _ _ _ _ h hF => ⟨h.2.1, hF⟩
end Jvm.Pilot.@@N@@
namespace Jvm.Pilot.@@N@@
open Jvm Jvm.ClassFile Sem Op Lib Jvm.Free Jvm.Stand Jvm.Pilot.@@N@@.Jvm.D
/-! MADE BY PROGRAM (witnessworld.py) out of the Statement's table words and the real class files: 13 classes; the members and pool entries that the words name. The judged class is class 1, her method 1. -/
namespace start1
open Jvm.ClassFile
def u (s : String) : CpInfo := .utf8 (stringToUtf16 s)
/-- a pool by its gaps: so many unusable entries, then the entry; so many at the end -/
def gap : Nat → List CpInfo → List CpInfo
  | 0, r => r
  | n + 1, r => .unusable :: gap n r
def poolList (es : List (Nat × CpInfo)) (last : Nat) : List CpInfo := es.foldr (fun e r => gap e.1 (e.2 :: r)) (gap last [])
def pool (es : List (Nat × CpInfo)) (last : Nat) : Array CpInfo := ⟨poolList es last⟩
def fileOf (pool : Array CpInfo) (this : Nat) (attrs : Array Attribute := #[]) (ms : Array MethodInfo := #[]) (fl : Nat := 33) (sup : Nat := 0) (ifs : Array Nat := #[]) (fds : Array FieldInfo := #[]) : ClassFile where
  minorVersion := 0
  majorVersion := 65
  constantPool := pool
  accessFlags := fl
  thisClass := this
  superClass := sup
  interfaces := ifs
  fields := fds
  methods := ms
  attributes := attrs
def plain (name : String) (sup : Option ClassId) : Class where
  name := name
  kind := .ordinary
  loader := none
  accessFlags := 33
  super := sup
  interfaces := #[]
  cf := none
  fields := #[]
  methods := #[]
  instanceTypes := #[]
  staticTypes := #[]
  resolved := #[]
  callSites := []
  init := .initialized
  statics := none
  mirror := none

def pool0 : Array CpInfo := pool [(5, u "<init>"), (0, u "()V"), (1, .class_ 10), (1, u "java/lang/Object")] 113

def k0c0 : Code := { maxStack := 0, maxLocals := 1, code := object_method_1_code, exceptionTable := #[], attributes := #[] }
def k0m0 : Method := { name := "<init>", desc := "()V", sig := { parameters := [], returnType := none }, accessFlags := 1, code := some k0c0 }
/-- java/lang/Object -/
def k0 : Class := { plain "java/lang/Object" none with
  accessFlags := 33
  interfaces := #[]
  cf := some (fileOf pool0 8 #[] #[{ accessFlags := 1, nameIndex := 5, descriptorIndex := 6, attributes := #[] }] 33 0 #[] #[])
  fields := #[]
  methods := #[k0m0]
  instanceTypes := #[]
  staticTypes := #[]
  resolved := Array.replicate 124 none
  statics := none }

def pool1 : Array CpInfo := pool [(2, .class_ 4), (0, .nameAndType 5 6), (0, u "java/lang/Object"), (0, u "<init>"), (0, u "()V"), (0, .integer 268435455), (0, .class_ 9), (0, u "com/example/rewoven_tree/rewoventree/storage/TableShape"), (0, .methodref 8 3), (0, .methodref 8 12), (0, .nameAndType 13 14), (0, u "pass"), (0, u "(I)V"), (0, .fieldref 16 17), (0, .class_ 18), (0, .nameAndType 19 20), (0, u "com/example/rewoven_tree/rewoventree/storage/NodeKind"), (0, u "DOCUMENT"), (0, u "Lcom/example/rewoven_tree/rewoventree/storage/NodeKind;"), (0, .fieldref 16 22), (0, .nameAndType 23 20), (0, u "ELEMENT"), (0, .methodref 8 25), (0, .nameAndType 26 27), (0, u "place"), (0, u "(Lcom/example/rewoven_tree/rewoventree/storage/NodeKind;)I"), (0, .methodref 8 29), (0, .nameAndType 30 14), (0, u "addAttributes"), (0, .methodref 8 32), (0, .nameAndType 33 6), (0, u "end"), (0, .methodref 8 35), (0, .nameAndType 36 37), (0, u "endedRow"), (0, u "()I"), (0, .methodref 8 39), (0, .nameAndType 40 37), (0, u "endedSize"), (0, .methodref 8 42), (0, .nameAndType 43 37), (0, u "endedAttributeCount"), (0, .class_ 45), (0, u "com/example/rewoven_tree/rewoventree/storage/TableShapeEndPinLaw"), (2, u "law"), (0, u "(IIIIII)Z")] 3

def k1m0 : Method := { name := "<init>", desc := "()V", sig := { parameters := [], returnType := none }, accessFlags := 1, code := none }
def k1c1 : Code := { maxStack := 3, maxLocals := 19, code := code, exceptionTable := #[], attributes := #[] }
def k1m1 : Method := { name := "law", desc := "(IIIIII)Z", sig := { parameters := [.int, .int, .int, .int, .int, .int], returnType := some .boolean }, accessFlags := 9, code := some k1c1 }
/-- com/example/rewoven_tree/rewoventree/storage/TableShapeEndPinLaw -/
def k1 : Class := { plain "com/example/rewoven_tree/rewoventree/storage/TableShapeEndPinLaw" (some 0) with
  accessFlags := 49
  interfaces := #[]
  cf := some (fileOf pool1 44 #[] #[{ accessFlags := 1, nameIndex := 5, descriptorIndex := 6, attributes := #[] }, { accessFlags := 9, nameIndex := 48, descriptorIndex := 49, attributes := #[] }] 49 2 #[] #[])
  fields := #[]
  methods := #[k1m0, k1m1]
  instanceTypes := #[]
  staticTypes := #[]
  resolved := Array.replicate 53 none
  statics := none }

def pool2 : Array CpInfo := pool [(1, .methodref 2 3), (0, .class_ 4), (0, .nameAndType 5 6), (0, u "java/lang/Object"), (0, u "<init>"), (0, u "()V"), (0, .fieldref 8 9), (0, .class_ 10), (0, .nameAndType 11 12), (0, u "com/example/rewoven_tree/rewoventree/storage/TableShape"), (0, u "open"), (0, u "[I"), (0, .fieldref 8 14), (0, .nameAndType 15 12), (0, u "attributes"), (0, .methodref 8 17), (0, .nameAndType 18 19), (0, u "placeSubtree"), (0, u "(I)I"), (0, .fieldref 21 22), (0, .class_ 23), (0, .nameAndType 24 25), (0, u "com/example/rewoven_tree/rewoventree/storage/NodeKind"), (0, u "ATTRIBUTE"), (0, u "Lcom/example/rewoven_tree/rewoventree/storage/NodeKind;"), (0, .fieldref 8 27), (0, .nameAndType 28 29), (0, u "depth"), (0, u "I"), (0, .fieldref 21 31), (0, .nameAndType 32 25), (0, u "ELEMENT"), (0, .fieldref 21 34), (0, .nameAndType 35 25), (0, u "DOCUMENT"), (6, .fieldref 8 43), (0, .nameAndType 44 29), (0, u "rowCount"), (0, .fieldref 8 46), (0, .nameAndType 47 29), (0, u "distance"), (0, .fieldref 8 49), (0, .nameAndType 50 29), (0, u "endedRow"), (0, .fieldref 8 52), (0, .nameAndType 53 29), (0, u "endedSize"), (0, .fieldref 8 55), (0, .nameAndType 56 29), (0, u "endedAttributes"), (2, u "place"), (0, u "(Lcom/example/rewoven_tree/rewoventree/storage/NodeKind;)I"), (1, u "pass"), (0, u "(I)V"), (0, u "addAttributes"), (0, u "end"), (0, u "()I"), (0, u "endedAttributeCount")] 4

def k2c0 : Code := { maxStack := 2, maxLocals := 1, code := prog_249_method_1_code, exceptionTable := #[], attributes := #[] }
def k2m0 : Method := { name := "<init>", desc := "()V", sig := { parameters := [], returnType := none }, accessFlags := 0, code := some k2c0 }
def k2c1 : Code := { maxStack := 4, maxLocals := 3, code := prog_249_method_2_code, exceptionTable := #[], attributes := #[] }
def k2m1 : Method := { name := "place", desc := "(Lcom/example/rewoven_tree/rewoventree/storage/NodeKind;)I", sig := { parameters := [(.object "com/example/rewoven_tree/rewoventree/storage/NodeKind")], returnType := some .int }, accessFlags := 0, code := some k2c1 }
def k2c2 : Code := { maxStack := 5, maxLocals := 3, code := prog_249_method_3_code, exceptionTable := #[], attributes := #[] }
def k2m2 : Method := { name := "placeSubtree", desc := "(I)I", sig := { parameters := [.int], returnType := some .int }, accessFlags := 0, code := some k2c2 }
def k2c3 : Code := { maxStack := 3, maxLocals := 2, code := prog_249_method_4_code, exceptionTable := #[], attributes := #[] }
def k2m3 : Method := { name := "pass", desc := "(I)V", sig := { parameters := [.int], returnType := none }, accessFlags := 0, code := some k2c3 }
def k2c4 : Code := { maxStack := 4, maxLocals := 2, code := prog_249_method_5_code, exceptionTable := #[], attributes := #[] }
def k2m4 : Method := { name := "addAttributes", desc := "(I)V", sig := { parameters := [.int], returnType := none }, accessFlags := 0, code := some k2c4 }
def k2c5 : Code := { maxStack := 4, maxLocals := 1, code := prog_249_method_6_code, exceptionTable := #[], attributes := #[] }
def k2m5 : Method := { name := "end", desc := "()V", sig := { parameters := [], returnType := none }, accessFlags := 0, code := some k2c5 }
def k2c6 : Code := { maxStack := 1, maxLocals := 1, code := prog_249_method_7_code, exceptionTable := #[], attributes := #[] }
def k2m6 : Method := { name := "endedRow", desc := "()I", sig := { parameters := [], returnType := some .int }, accessFlags := 0, code := some k2c6 }
def k2c7 : Code := { maxStack := 1, maxLocals := 1, code := prog_249_method_8_code, exceptionTable := #[], attributes := #[] }
def k2m7 : Method := { name := "endedSize", desc := "()I", sig := { parameters := [], returnType := some .int }, accessFlags := 0, code := some k2c7 }
def k2c8 : Code := { maxStack := 1, maxLocals := 1, code := prog_249_method_9_code, exceptionTable := #[], attributes := #[] }
def k2m8 : Method := { name := "endedAttributeCount", desc := "()I", sig := { parameters := [], returnType := some .int }, accessFlags := 0, code := some k2c8 }
/-- com/example/rewoven_tree/rewoventree/storage/TableShape -/
def k2 : Class := { plain "com/example/rewoven_tree/rewoventree/storage/TableShape" (some 0) with
  accessFlags := 32
  interfaces := #[]
  cf := some (fileOf pool2 8 #[] #[{ accessFlags := 0, nameIndex := 5, descriptorIndex := 6, attributes := #[] }, { accessFlags := 0, nameIndex := 59, descriptorIndex := 60, attributes := #[] }, { accessFlags := 0, nameIndex := 18, descriptorIndex := 19, attributes := #[] }, { accessFlags := 0, nameIndex := 62, descriptorIndex := 63, attributes := #[] }, { accessFlags := 0, nameIndex := 64, descriptorIndex := 63, attributes := #[] }, { accessFlags := 0, nameIndex := 65, descriptorIndex := 6, attributes := #[] }, { accessFlags := 0, nameIndex := 50, descriptorIndex := 66, attributes := #[] }, { accessFlags := 0, nameIndex := 53, descriptorIndex := 66, attributes := #[] }, { accessFlags := 0, nameIndex := 67, descriptorIndex := 66, attributes := #[] }] 32 2 #[] #[{ accessFlags := 2, nameIndex := 44, descriptorIndex := 29, attributes := #[] }, { accessFlags := 2, nameIndex := 11, descriptorIndex := 12, attributes := #[] }, { accessFlags := 2, nameIndex := 15, descriptorIndex := 12, attributes := #[] }, { accessFlags := 2, nameIndex := 28, descriptorIndex := 29, attributes := #[] }, { accessFlags := 2, nameIndex := 47, descriptorIndex := 29, attributes := #[] }, { accessFlags := 2, nameIndex := 50, descriptorIndex := 29, attributes := #[] }, { accessFlags := 2, nameIndex := 53, descriptorIndex := 29, attributes := #[] }, { accessFlags := 2, nameIndex := 56, descriptorIndex := 29, attributes := #[] }])
  fields := #[{ name := "rowCount", type := .int, accessFlags := 2, slot := 0, constantValue := 0 }, { name := "open", type := (.array .int), accessFlags := 2, slot := 1, constantValue := 0 }, { name := "attributes", type := (.array .int), accessFlags := 2, slot := 2, constantValue := 0 }, { name := "depth", type := .int, accessFlags := 2, slot := 3, constantValue := 0 }, { name := "distance", type := .int, accessFlags := 2, slot := 4, constantValue := 0 }, { name := "endedRow", type := .int, accessFlags := 2, slot := 5, constantValue := 0 }, { name := "endedSize", type := .int, accessFlags := 2, slot := 6, constantValue := 0 }, { name := "endedAttributes", type := .int, accessFlags := 2, slot := 7, constantValue := 0 }]
  methods := #[k2m0, k2m1, k2m2, k2m3, k2m4, k2m5, k2m6, k2m7, k2m8]
  instanceTypes := #[.int, (.array .int), (.array .int), .int, .int, .int, .int, .int]
  staticTypes := #[]
  resolved := Array.replicate 72 none
  statics := none }

def pool3 : Array CpInfo := pool [(1, .class_ 2), (0, u "java/lang/constant/Constable"), (0, .class_ 4), (0, u "java/lang/Object")] 6

/-- java/lang/constant/Constable -/
def k3 : Class := { plain "java/lang/constant/Constable" (some 0) with
  accessFlags := 1537
  interfaces := #[]
  cf := some (fileOf pool3 1 #[] #[] 1537 3 #[] #[])
  fields := #[]
  methods := #[]
  instanceTypes := #[]
  staticTypes := #[]
  resolved := Array.replicate 11 none
  statics := none }

def pool4 : Array CpInfo := pool [(1, .class_ 2), (0, u "java/lang/Comparable"), (0, .class_ 4), (0, u "java/lang/Object")] 7

/-- java/lang/Comparable -/
def k4 : Class := { plain "java/lang/Comparable" (some 0) with
  accessFlags := 1537
  interfaces := #[]
  cf := some (fileOf pool4 1 #[] #[] 1537 3 #[] #[])
  fields := #[]
  methods := #[]
  instanceTypes := #[]
  staticTypes := #[]
  resolved := Array.replicate 12 none
  statics := none }

def pool5 : Array CpInfo := pool [(1, .class_ 2), (0, u "java/io/Serializable"), (0, .class_ 4), (0, u "java/lang/Object")] 2

/-- java/io/Serializable -/
def k5 : Class := { plain "java/io/Serializable" (some 0) with
  accessFlags := 1537
  interfaces := #[]
  cf := some (fileOf pool5 1 #[] #[] 1537 3 #[] #[])
  fields := #[]
  methods := #[]
  instanceTypes := #[]
  staticTypes := #[]
  resolved := Array.replicate 7 none
  statics := none }

def pool6 : Array CpInfo := pool [(2, .class_ 4), (1, u "java/lang/Enum"), (0, u "name"), (0, u "Ljava/lang/String;"), (2, u "ordinal"), (0, u "I"), (1, .class_ 14), (1, u "java/lang/Object"), (4, u "hash"), (86, .class_ 108), (1, u "java/lang/Enum$EnumDesc"), (2, .class_ 112), (0, u "java/lang/constant/Constable"), (0, .class_ 114), (0, u "java/lang/Comparable"), (0, .class_ 116), (0, u "java/io/Serializable")] 87

/-- java/lang/Enum -/
def k6 : Class := { plain "java/lang/Enum" (some 0) with
  accessFlags := 1057
  interfaces := #[3, 4, 5]
  cf := some (fileOf pool6 2 #[.nestMembers #[106]] #[] 1057 12 #[111, 113, 115] #[{ accessFlags := 18, nameIndex := 5, descriptorIndex := 6, attributes := #[] }, { accessFlags := 18, nameIndex := 9, descriptorIndex := 10, attributes := #[] }, { accessFlags := 2, nameIndex := 19, descriptorIndex := 10, attributes := #[] }])
  fields := #[{ name := "name", type := (.object "java/lang/String"), accessFlags := 18, slot := 0, constantValue := 0 }, { name := "ordinal", type := .int, accessFlags := 18, slot := 1, constantValue := 0 }, { name := "hash", type := .int, accessFlags := 2, slot := 2, constantValue := 0 }]
  methods := #[]
  instanceTypes := #[(.object "java/lang/String"), .int, .int]
  staticTypes := #[]
  resolved := Array.replicate 204 none
  statics := none }

def pool7 : Array CpInfo := pool [(1, .class_ 2), (0, u "com/example/rewoven_tree/rewoventree/storage/NodeKind"), (2, u "DOCUMENT"), (0, u "Lcom/example/rewoven_tree/rewoventree/storage/NodeKind;"), (2, u "ELEMENT"), (2, u "ATTRIBUTE"), (2, u "TEXT"), (2, u "COMMENT"), (2, u "PROCESSING_INSTRUCTION"), (2, u "NAMESPACE"), (2, u "$VALUES"), (0, u "[Lcom/example/rewoven_tree/rewoventree/storage/NodeKind;"), (6, .class_ 37), (1, u "java/lang/Enum"), (8, u "code"), (0, u "I"), (2, u "BY_CODE")] 68

/-- com/example/rewoven_tree/rewoventree/storage/NodeKind -/
def k7 : Class := { plain "com/example/rewoven_tree/rewoventree/storage/NodeKind" (some 6) with
  accessFlags := 16433
  interfaces := #[]
  cf := some (fileOf pool7 1 #[] #[] 16433 35 #[] #[{ accessFlags := 16409, nameIndex := 5, descriptorIndex := 6, attributes := #[] }, { accessFlags := 16409, nameIndex := 9, descriptorIndex := 6, attributes := #[] }, { accessFlags := 16409, nameIndex := 12, descriptorIndex := 6, attributes := #[] }, { accessFlags := 16409, nameIndex := 15, descriptorIndex := 6, attributes := #[] }, { accessFlags := 16409, nameIndex := 18, descriptorIndex := 6, attributes := #[] }, { accessFlags := 16409, nameIndex := 21, descriptorIndex := 6, attributes := #[] }, { accessFlags := 16409, nameIndex := 24, descriptorIndex := 6, attributes := #[] }, { accessFlags := 26, nameIndex := 50, descriptorIndex := 28, attributes := #[] }, { accessFlags := 18, nameIndex := 46, descriptorIndex := 47, attributes := #[] }, { accessFlags := 4122, nameIndex := 27, descriptorIndex := 28, attributes := #[] }])
  fields := #[{ name := "DOCUMENT", type := (.object "com/example/rewoven_tree/rewoventree/storage/NodeKind"), accessFlags := 16409, slot := 0, constantValue := 0 }, { name := "ELEMENT", type := (.object "com/example/rewoven_tree/rewoventree/storage/NodeKind"), accessFlags := 16409, slot := 1, constantValue := 0 }, { name := "ATTRIBUTE", type := (.object "com/example/rewoven_tree/rewoventree/storage/NodeKind"), accessFlags := 16409, slot := 2, constantValue := 0 }, { name := "TEXT", type := (.object "com/example/rewoven_tree/rewoventree/storage/NodeKind"), accessFlags := 16409, slot := 3, constantValue := 0 }, { name := "COMMENT", type := (.object "com/example/rewoven_tree/rewoventree/storage/NodeKind"), accessFlags := 16409, slot := 4, constantValue := 0 }, { name := "PROCESSING_INSTRUCTION", type := (.object "com/example/rewoven_tree/rewoventree/storage/NodeKind"), accessFlags := 16409, slot := 5, constantValue := 0 }, { name := "NAMESPACE", type := (.object "com/example/rewoven_tree/rewoventree/storage/NodeKind"), accessFlags := 16409, slot := 6, constantValue := 0 }, { name := "BY_CODE", type := (.array (.object "com/example/rewoven_tree/rewoventree/storage/NodeKind")), accessFlags := 26, slot := 7, constantValue := 0 }, { name := "code", type := .int, accessFlags := 18, slot := 3, constantValue := 0 }, { name := "$VALUES", type := (.array (.object "com/example/rewoven_tree/rewoventree/storage/NodeKind")), accessFlags := 4122, slot := 8, constantValue := 0 }]
  methods := #[]
  instanceTypes := #[(.object "java/lang/String"), .int, .int, .int]
  staticTypes := #[(.object "com/example/rewoven_tree/rewoventree/storage/NodeKind"), (.object "com/example/rewoven_tree/rewoventree/storage/NodeKind"), (.object "com/example/rewoven_tree/rewoventree/storage/NodeKind"), (.object "com/example/rewoven_tree/rewoventree/storage/NodeKind"), (.object "com/example/rewoven_tree/rewoventree/storage/NodeKind"), (.object "com/example/rewoven_tree/rewoventree/storage/NodeKind"), (.object "com/example/rewoven_tree/rewoventree/storage/NodeKind"), (.array (.object "com/example/rewoven_tree/rewoventree/storage/NodeKind")), (.array (.object "com/example/rewoven_tree/rewoventree/storage/NodeKind"))]
  resolved := Array.replicate 119 none
  statics := some 0 }

def pool8 : Array CpInfo := pool [(1, u "java/lang/Cloneable"), (0, .class_ 1), (0, u "java/lang/Object"), (0, .class_ 3)] 3

/-- java/lang/Cloneable -/
def k8 : Class := { plain "java/lang/Cloneable" (some 0) with
  accessFlags := 1537
  interfaces := #[]
  cf := some (fileOf pool8 2 #[] #[] 1537 4 #[] #[])
  fields := #[]
  methods := #[]
  instanceTypes := #[]
  staticTypes := #[]
  resolved := Array.replicate 8 none
  statics := none }

/-- the primitive byte -/
def k9 : Class := { plain "byte" none with kind := .primitive 'B', accessFlags := 0x411 }
/-- [B -/
def k10 : Class := { plain "[B" (some 0) with kind := .array 9 .byte, interfaces := #[8, 5], accessFlags := 1041 }

/-- the primitive int -/
def k11 : Class := { plain "int" none with kind := .primitive 'I', accessFlags := 0x411 }
/-- [I -/
def k12 : Class := { plain "[I" (some 0) with kind := .array 11 .int, interfaces := #[8, 5], accessFlags := 1041 }

def heap : Heap := #[{ cls := 7, slots := #[.ref 1, .ref 3, .ref 2, .null, .null, .null, .null, .null, .null], vm := .statics 7 },
  { cls := 7, slots := #[.null, .int 0, .int 0, .int 0], vm := .none },
  { cls := 7, slots := #[.null, .int 2, .int 0, .int 0], vm := .none },
  { cls := 7, slots := #[.null, .int 1, .int 0, .int 0], vm := .none }]
def classes : Array Class := #[k0, k1, k2, k3, k4, k5, k6, k7, k8, k9, k10, k11, k12]
def interned : List (Array UInt16 × Addr) := []
def slotsUsed : Nat := 21
def theMethod : MethodId := ⟨1, 1⟩
def args0 : Array Value := #[.int 5, .int 7, .int 2, .int 3, .int 77, .int 7]
def aboutOver (below : List Frame) : State where
  vm := { classes := classes, interned := interned.toArray }
  heap := heap
  slotsUsed := slotsUsed
  threads := #[{ frames := .invoking theMethod args0 :: below }]
def below0 : List Frame := [.native { method := ⟨0, 0⟩, args := #[] }]
def about1 : State := aboutOver below0
def p0 : Program := .bare "" "" ""
def e0 : Env := launch0.env 0 0 0
theorem w_frames : about1.frames = Frame.invoking theMethod args0 :: below0 := rfl
set_option maxRecDepth 65536 in
theorem w_args : argsFit about1.vm theMethod args0 = true := by decide +kernel
set_option maxRecDepth 65536 in
theorem w_heap : heapFits about1 = true := by decide +kernel
set_option maxRecDepth 65536 in
theorem w_runnable : about1.curStatus? = some .runnable := by decide +kernel
set_option maxRecDepth 65536 in
theorem w_alone : about1.alone = true := by decide +kernel
set_option maxRecDepth 65536 in
theorem w_named : about1.methodNamed? x = some theMethod := by decide +kernel
set_option maxRecDepth 65536 in
theorem w_hears : about1.hears theMethod below0 = true := by decide +kernel
set_option maxRecDepth 65536 in
theorem w_ripe : about1.ripe theMethod args0 below0 = true := by decide +kernel
theorem w_running : about1.status = .running := rfl
set_option maxRecDepth 65536 in
theorem w_room : about1.hasRoom e0.platform room_1 = true :=
  launch0.hasRoom_least _ room_1 (by decide +kernel) (by decide +kernel) (by decide +kernel) (by decide +kernel) (by decide +kernel) (by decide +kernel)
theorem allAtoms_all (ts : List Jvm.Cond) (a : Array Jvm.Value) (st : Jvm.State) : (allAtoms ts).before a st = ts.all (fun c => c.before a st) := by
  induction ts with
  | nil => rfl
  | cons c t ih =>
    show (Jvm.Cond.and c (allAtoms t)).before a st = _
    rw [Jvm.Cond.before_and, ih, List.all_cons]
def words1 : List Jvm.Cond := Jvm.Cond.code x code maxLocals ret :: tables_1
/-- a 'code' word, met by the world's own term for the bytes: nothing is compared byte by byte -/
theorem code_word {y : MethodName} {bytes : ByteArray} {mx : Nat} {rt : Option FieldType} {a : Array Value} {s : State} {m : MethodId} {meth : Method} {c : Code} (h1 : s.methodNamed? y = some m) (h2 : s.vm.method? m = some meth) (h3 : meth.code = some c) (h4 : c.code = bytes)
    (h5 : (c.maxLocals == mx && c.exceptionTable.isEmpty && decide (c.maxStack ≤ mostOperands) && decide (meth.sig.returnType = rt) && !meth.locks && decide (parseMethodDescriptor y.desc = some meth.sig)) = true) : (Jvm.Cond.code y bytes mx rt).before a s = true := by
  simp only [Bool.and_eq_true, beq_iff_eq, Bool.not_eq_true', decide_eq_true_eq] at h5
  obtain ⟨⟨⟨⟨⟨g1, g2⟩, g3⟩, g4⟩, g5⟩, g6⟩ := h5
  simp [Cond.before, Cond.holds, Cond.value, h1, h2, h3, h4, g1, g2, g3, g4, g5, g6]
def isCode : Jvm.Cond → Bool
  | .code _ _ _ _ => true
  | _ => false
theorem all_split {L : List Jvm.Cond} {P : Jvm.Cond → Bool} (h1 : L.all (fun c => isCode c || P c) = true) (h2 : ∀ c ∈ L.filter isCode, P c = true) : L.all P = true := by
  refine List.all_eq_true.mpr fun c hc => ?_
  have h := List.all_eq_true.mp h1 c hc
  rcases Bool.eq_false_or_eq_true (isCode c) with hi | hi
  · exact h2 c (List.mem_filter.mpr ⟨hc, hi⟩)
  · simpa [hi] using h
set_option maxRecDepth 65536 in
theorem w_c0 : (Jvm.Cond.code x code maxLocals ret).before args0 about1 = true := code_word (m := ⟨1, 1⟩) (meth := k1m1) (c := k1c1) (by decide +kernel) rfl rfl rfl (by decide +kernel)
set_option maxRecDepth 65536 in
theorem w_c1 : (Jvm.Cond.code ({ cls := "com/example/rewoven_tree/rewoventree/storage/TableShape", name := "<init>", desc := "()V" } : Jvm.MethodName) prog_249_method_1_code (1 : Nat) (Option.none : Option Jvm.ClassFile.FieldType)).before args0 about1 = true := code_word (m := ⟨2, 0⟩) (meth := k2m0) (c := k2c0) (by decide +kernel) rfl rfl rfl (by decide +kernel)
set_option maxRecDepth 65536 in
theorem w_c2 : (Jvm.Cond.code ({ cls := "java/lang/Object", name := "<init>", desc := "()V" } : Jvm.MethodName) object_method_1_code (1 : Nat) (Option.none : Option Jvm.ClassFile.FieldType)).before args0 about1 = true := code_word (m := ⟨0, 0⟩) (meth := k0m0) (c := k0c0) (by decide +kernel) rfl rfl rfl (by decide +kernel)
set_option maxRecDepth 65536 in
theorem w_c3 : (Jvm.Cond.code ({ cls := "com/example/rewoven_tree/rewoventree/storage/TableShape", name := "pass", desc := "(I)V" } : Jvm.MethodName) prog_249_method_4_code (2 : Nat) (Option.none : Option Jvm.ClassFile.FieldType)).before args0 about1 = true := code_word (m := ⟨2, 3⟩) (meth := k2m3) (c := k2c3) (by decide +kernel) rfl rfl rfl (by decide +kernel)
set_option maxRecDepth 65536 in
theorem w_c4 : (Jvm.Cond.code ({ cls := "com/example/rewoven_tree/rewoventree/storage/TableShape", name := "place", desc := "(Lcom/example/rewoven_tree/rewoventree/storage/NodeKind;)I" } : Jvm.MethodName) prog_249_method_2_code (3 : Nat) (Option.some Jvm.ClassFile.FieldType.int)).before args0 about1 = true := code_word (m := ⟨2, 1⟩) (meth := k2m1) (c := k2c1) (by decide +kernel) rfl rfl rfl (by decide +kernel)
set_option maxRecDepth 65536 in
theorem w_c5 : (Jvm.Cond.code ({ cls := "com/example/rewoven_tree/rewoventree/storage/TableShape", name := "placeSubtree", desc := "(I)I" } : Jvm.MethodName) prog_249_method_3_code (3 : Nat) (Option.some Jvm.ClassFile.FieldType.int)).before args0 about1 = true := code_word (m := ⟨2, 2⟩) (meth := k2m2) (c := k2c2) (by decide +kernel) rfl rfl rfl (by decide +kernel)
set_option maxRecDepth 65536 in
theorem w_c6 : (Jvm.Cond.code ({ cls := "com/example/rewoven_tree/rewoventree/storage/TableShape", name := "addAttributes", desc := "(I)V" } : Jvm.MethodName) prog_249_method_5_code (2 : Nat) (Option.none : Option Jvm.ClassFile.FieldType)).before args0 about1 = true := code_word (m := ⟨2, 4⟩) (meth := k2m4) (c := k2c4) (by decide +kernel) rfl rfl rfl (by decide +kernel)
set_option maxRecDepth 65536 in
theorem w_c7 : (Jvm.Cond.code ({ cls := "com/example/rewoven_tree/rewoventree/storage/TableShape", name := "end", desc := "()V" } : Jvm.MethodName) prog_249_method_6_code (1 : Nat) (Option.none : Option Jvm.ClassFile.FieldType)).before args0 about1 = true := code_word (m := ⟨2, 5⟩) (meth := k2m5) (c := k2c5) (by decide +kernel) rfl rfl rfl (by decide +kernel)
set_option maxRecDepth 65536 in
theorem w_c8 : (Jvm.Cond.code ({ cls := "com/example/rewoven_tree/rewoventree/storage/TableShape", name := "endedRow", desc := "()I" } : Jvm.MethodName) prog_249_method_7_code (1 : Nat) (Option.some Jvm.ClassFile.FieldType.int)).before args0 about1 = true := code_word (m := ⟨2, 6⟩) (meth := k2m6) (c := k2c6) (by decide +kernel) rfl rfl rfl (by decide +kernel)
set_option maxRecDepth 65536 in
theorem w_c9 : (Jvm.Cond.code ({ cls := "com/example/rewoven_tree/rewoventree/storage/TableShape", name := "endedSize", desc := "()I" } : Jvm.MethodName) prog_249_method_8_code (1 : Nat) (Option.some Jvm.ClassFile.FieldType.int)).before args0 about1 = true := code_word (m := ⟨2, 7⟩) (meth := k2m7) (c := k2c7) (by decide +kernel) rfl rfl rfl (by decide +kernel)
set_option maxRecDepth 65536 in
theorem w_c10 : (Jvm.Cond.code ({ cls := "com/example/rewoven_tree/rewoventree/storage/TableShape", name := "endedAttributeCount", desc := "()I" } : Jvm.MethodName) prog_249_method_9_code (1 : Nat) (Option.some Jvm.ClassFile.FieldType.int)).before args0 about1 = true := code_word (m := ⟨2, 8⟩) (meth := k2m8) (c := k2c8) (by decide +kernel) rfl rfl rfl (by decide +kernel)
def codes1 : List Jvm.Cond := [Jvm.Cond.code x code maxLocals ret, Jvm.Cond.code ({ cls := "com/example/rewoven_tree/rewoventree/storage/TableShape", name := "<init>", desc := "()V" } : Jvm.MethodName) prog_249_method_1_code (1 : Nat) (Option.none : Option Jvm.ClassFile.FieldType), Jvm.Cond.code ({ cls := "java/lang/Object", name := "<init>", desc := "()V" } : Jvm.MethodName) object_method_1_code (1 : Nat) (Option.none : Option Jvm.ClassFile.FieldType), Jvm.Cond.code ({ cls := "com/example/rewoven_tree/rewoventree/storage/TableShape", name := "pass", desc := "(I)V" } : Jvm.MethodName) prog_249_method_4_code (2 : Nat) (Option.none : Option Jvm.ClassFile.FieldType), Jvm.Cond.code ({ cls := "com/example/rewoven_tree/rewoventree/storage/TableShape", name := "place", desc := "(Lcom/example/rewoven_tree/rewoventree/storage/NodeKind;)I" } : Jvm.MethodName) prog_249_method_2_code (3 : Nat) (Option.some Jvm.ClassFile.FieldType.int), Jvm.Cond.code ({ cls := "com/example/rewoven_tree/rewoventree/storage/TableShape", name := "placeSubtree", desc := "(I)I" } : Jvm.MethodName) prog_249_method_3_code (3 : Nat) (Option.some Jvm.ClassFile.FieldType.int), Jvm.Cond.code ({ cls := "com/example/rewoven_tree/rewoventree/storage/TableShape", name := "addAttributes", desc := "(I)V" } : Jvm.MethodName) prog_249_method_5_code (2 : Nat) (Option.none : Option Jvm.ClassFile.FieldType), Jvm.Cond.code ({ cls := "com/example/rewoven_tree/rewoventree/storage/TableShape", name := "end", desc := "()V" } : Jvm.MethodName) prog_249_method_6_code (1 : Nat) (Option.none : Option Jvm.ClassFile.FieldType), Jvm.Cond.code ({ cls := "com/example/rewoven_tree/rewoventree/storage/TableShape", name := "endedRow", desc := "()I" } : Jvm.MethodName) prog_249_method_7_code (1 : Nat) (Option.some Jvm.ClassFile.FieldType.int), Jvm.Cond.code ({ cls := "com/example/rewoven_tree/rewoventree/storage/TableShape", name := "endedSize", desc := "()I" } : Jvm.MethodName) prog_249_method_8_code (1 : Nat) (Option.some Jvm.ClassFile.FieldType.int), Jvm.Cond.code ({ cls := "com/example/rewoven_tree/rewoventree/storage/TableShape", name := "endedAttributeCount", desc := "()I" } : Jvm.MethodName) prog_249_method_9_code (1 : Nat) (Option.some Jvm.ClassFile.FieldType.int)]
set_option maxRecDepth 65536 in
theorem codes_eq : words1.filter isCode = codes1 := rfl
theorem w_codes : ∀ c ∈ words1.filter isCode, c.before args0 about1 = true := by
  rw [codes_eq]
  intro c hc
  simp only [codes1, List.mem_cons, List.not_mem_nil, or_false] at hc
  rcases hc with rfl | rfl | rfl | rfl | rfl | rfl | rfl | rfl | rfl | rfl | rfl
  · exact w_c0
  · exact w_c1
  · exact w_c2
  · exact w_c3
  · exact w_c4
  · exact w_c5
  · exact w_c6
  · exact w_c7
  · exact w_c8
  · exact w_c9
  · exact w_c10
set_option maxRecDepth 65536 in
theorem w_t1 : (words1.take 24).all (fun c => isCode c || c.before args0 about1) = true := by decide +kernel
set_option maxRecDepth 65536 in
theorem w_t2 : ((words1.drop 24).take 24).all (fun c => isCode c || c.before args0 about1) = true := by decide +kernel
set_option maxRecDepth 65536 in
theorem w_t3 : (((words1.drop 24).drop 24).take 24).all (fun c => isCode c || c.before args0 about1) = true := by decide +kernel
set_option maxRecDepth 65536 in
theorem w_t4 : (((words1.drop 24).drop 24).drop 24).all (fun c => isCode c || c.before args0 about1) = true := by decide +kernel
theorem w_tables : (allAtoms (Jvm.Cond.code x code maxLocals ret :: tables_1)).before args0 about1 = true := by
  rw [allAtoms_all]
  show words1.all (fun c => c.before args0 about1) = true
  refine all_split ?_ w_codes
  rw [← List.take_append_drop 24 words1, List.all_append, w_t1, ← List.take_append_drop 24 (words1.drop 24), List.all_append, w_t2, ← List.take_append_drop 24 ((words1.drop 24).drop 24), List.all_append, w_t3, w_t4]
  rfl
set_option maxRecDepth 65536 in
theorem w_case : (Jvm.Cond.and given_1 narrow_1).before args0 about1 = true := by decide +kernel
theorem w_applies : (headSpec (Jvm.Cond.code x code maxLocals ret :: tables_1) room_1).applies x e0.platform about1 = true :=
  (Spec.applies_iff w_frames).mpr ⟨w_running, w_runnable, w_alone, w_named, w_hears, w_ripe, w_room, w_tables⟩
theorem atStart : AtStart classFile x code maxLocals ret World_1 tables_1 room_1 Calls_1 rest_1 Pre_1 launch0 p0 e0 about1 theMethod args0 below0 :=
  ⟨lists_1, trivial, launch0.admits_env _ _ _, launch0.least_env, fairChoices_fair.cas, fairChoices_fair.clock, w_frames, w_args, w_heap, w_applies, trivial, trivial, w_case⟩
end start1
theorem witness_1 : WitnessClaimed_1 := ⟨start1.p0, start1.e0, start1.about1, start1.theMethod, start1.args0, start1.below0, start1.atStart⟩
end Jvm.Pilot.@@N@@
