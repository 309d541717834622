import JvmDerived
import JvmDerived.Pilot.@@N@@Statement
import JvmDerived.Pilot.@@N@@Code
set_option linter.unusedVariables false
set_option linter.unusedSimpArgs false
namespace Jvm.Pilot.@@N@@
open Jvm Jvm.ClassFile Sem Op Lib Jvm.Free Jvm.Stand Jvm.LawKit Jvm.RoadKit Bundle Jvm.Pilot.@@N@@.Jvm.D
section Own
variable {p : Program} {l : Launch} {e : Env} {R : Room} {s : State} {m : MethodId} {args : Array Value} {below : List Frame} {meth : Method} {c : Code} {T : State} {locs : List Loc} {cells slots : Nat} {Z : State} {a0 : Array Value} {h : Heap}
/-- the run from A ends by returning, Q holds of what it returned and of the heap, and no more than k cells and n slots are new -/
def OwnEnd (p : Program) (e : Env) (below : List Frame) (s : State) (Q : Option Value → Heap → List Loc → Prop) (k n : Nat) (A : State) : Prop :=
  ∃ t o, Steps p.tables e below A t ∧ t.status = .running ∧ Ended t below o ∧ ∃ v L, o = .returned v ∧ Q v t.heap L ∧ FrameEnd s o t L k n
theorem OwnEnd.go {Q : Option Value → Heap → List Loc → Prop} {k n : Nat} {A B : State} (st : ∀ t, Steps p.tables e below B t → Steps p.tables e below A t) (K : OwnEnd p e below s Q k n B) : OwnEnd p e below s Q k n A := by
  obtain ⟨t, o, h1, h2⟩ := K
  exact ⟨t, o, st t h1, h2⟩
theorem OwnEnd.stop {Q : Option Value → Heap → List Loc → Prop} {k n : Nat} {A : State} (X : Stand p l e R s m args below meth c T locs cells slots) (hlk : meth.locks = false) {v : Option Value} (hv : meth.sig.returnType = none → v = none)
    (st : ∀ fs, (∀ (f : JFrame) (acts : List Action), f.method = m → f.locked = none → f.entered = [] → (doReturn e (T.setTop f) acts v).1 = T.setFrames fs) → Steps p.tables e below A (T.setFrames fs))
    (hk : cells ≤ k) (hn : slots ≤ n) (hQ : Q v T.heap locs) : OwnEnd p e below s Q k n A := by
  obtain ⟨fs, hr, hrun, hended, hW, hsame⟩ := X.leave hv hlk
  exact ⟨_, _, st fs hr, hrun, hended, _, _, rfl, hQ, ⟨_, rfl⟩, hW, hsame.mono hk hn⟩
theorem OwnEnd.weak {Q Q' : Option Value → Heap → List Loc → Prop} {k n : Nat} {A : State} (K : OwnEnd p e below s Q k n A) (q : ∀ v h L, Q v h L → Q' v h L) : OwnEnd p e below s Q' k n A := by
  obtain ⟨t, o, h1, h2, h3, v, L, h4, h5, h6⟩ := K
  exact ⟨t, o, h1, h2, h3, v, L, h4, q _ _ _ h5, h6⟩
/-- the returns -/
theorem ownRetI {Q : Option Value → Heap → List Loc → Prop} {k n : Nat} (X : Stand p l e R s m args below meth c T locs cells slots) (hx : p.tables.exec = Jvm.exec) (hlk : meth.locks = false) {pc : Nat} {Ls : Array Slot} {z : Int32} {rest : List Value} (hret : meth.sig.returnType = some .int) (hd : decode c.code pc = .ok (.ireturn, 1))
    (hk : cells ≤ k) (hn : slots ≤ n) (hQ : Q (some (.int z)) T.heap locs) : OwnEnd p e below s Q k n (T.setTop (mkF m pc Ls (.int z :: rest))) :=
  OwnEnd.stop X hlk (fun q => by rw [hret] at q; cases q) (fun fs hr => retOut X hx hret rfl (Or.inl ⟨rfl, Or.inl rfl, z, rfl⟩) hd hr) hk hn hQ
theorem ownRetZ {Q : Option Value → Heap → List Loc → Prop} {k n : Nat} (X : Stand p l e R s m args below meth c T locs cells slots) (hx : p.tables.exec = Jvm.exec) (hlk : meth.locks = false) {pc : Nat} {Ls : Array Slot} {z : Int32} {rest : List Value} (hret : meth.sig.returnType = some .boolean) (hd : decode c.code pc = .ok (.ireturn, 1))
    (hk : cells ≤ k) (hn : slots ≤ n) (w : Int32) (hw : nar .boolean z = w) (hQ : Q (some (.int w)) T.heap locs) : OwnEnd p e below s Q k n (T.setTop (mkF m pc Ls (.int z :: rest))) :=
  OwnEnd.stop X hlk (fun q => by rw [hret] at q; cases q) (fun fs hr => retN X hx (t := .boolean) hret (by simp) hd (by rw [hw]; exact hr)) hk hn hQ
theorem ownRetJ {Q : Option Value → Heap → List Loc → Prop} {k n : Nat} (X : Stand p l e R s m args below meth c T locs cells slots) (hx : p.tables.exec = Jvm.exec) (hlk : meth.locks = false) {pc : Nat} {Ls : Array Slot} {z : Int64} {rest : List Value} (hret : meth.sig.returnType = some .long) (hd : decode c.code pc = .ok (.lreturn, 1))
    (hk : cells ≤ k) (hn : slots ≤ n) (hQ : Q (some (.long z)) T.heap locs) : OwnEnd p e below s Q k n (T.setTop (mkF m pc Ls (.long z :: rest))) :=
  OwnEnd.stop X hlk (fun q => by rw [hret] at q; cases q) (fun fs hr => retOut X hx hret rfl (Or.inr (Or.inl ⟨rfl, rfl, z, rfl⟩)) hd hr) hk hn hQ
theorem ownRetA {Q : Option Value → Heap → List Loc → Prop} {k n : Nat} (X : Stand p l e R s m args below meth c T locs cells slots) (hx : p.tables.exec = Jvm.exec) (hlk : meth.locks = false) {pc : Nat} {Ls : Array Slot} {w : Value} {rest : List Value} {t : FieldType} (hret : meth.sig.returnType = some t) (ht : t.isReference = true) (hw : w.isRef = true) (hn' : narrow t w = w) (hd : decode c.code pc = .ok (.areturn, 1))
    (hk : cells ≤ k) (hn : slots ≤ n) (hQ : Q (some w) T.heap locs) : OwnEnd p e below s Q k n (T.setTop (mkF m pc Ls (w :: rest))) :=
  OwnEnd.stop X hlk (fun q => by rw [hret] at q; cases q) (fun fs hr => retOut X hx hret hn' (Or.inr (Or.inr (Or.inr (Or.inr ⟨rfl, ht, hw⟩)))) hd hr) hk hn hQ
theorem ownRetV {Q : Option Value → Heap → List Loc → Prop} {k n : Nat} (X : Stand p l e R s m args below meth c T locs cells slots) (hx : p.tables.exec = Jvm.exec) (hlk : meth.locks = false) {pc : Nat} {Ls : Array Slot} (hret : meth.sig.returnType = none) (hd : decode c.code pc = .ok (.return_, 1))
    (hk : cells ≤ k) (hn : slots ≤ n) (hQ : Q none T.heap locs) : OwnEnd p e below s Q k n (T.setTop (mkF m pc Ls [])) :=
  OwnEnd.stop X hlk (fun _ => rfl) (fun fs hr => X.returnOut hx hret hd hr) hk hn hQ
/-- the calls, each by the callee's own theorem -/
theorem ownCallS (X : Stand p l e R s m args below meth c T locs cells slots) (hx : p.tables.exec = Jvm.exec) (hZ : Z.Warmed39 s.vm) {own : String} {index : Nat} {y : MethodName} {bytes : ByteArray} {maxL : Nat} {ret : Option FieldType} {rm : Room} {as' : Array Value} {Q : Option Value → Heap → List Loc → Prop} (hown : s.vm.findClass own = some m.cls)
    (w1 : (Cond.methodLink own index y).before a0 Z = true) (w2 : (Cond.static y).before a0 Z = true) (w3 : (Cond.initialized y.cls).before a0 Z = true) (w4 : (Cond.code y bytes maxL ret).before a0 Z = true) (hy : y.cls ≠ "java/lang/invoke/MethodHandle" ∧ y.cls ≠ "java/lang/invoke/VarHandle")
    (hM : MetFree l y (head1 [Cond.code y bytes maxL ret] rm) (fun a U => a = as' ∧ Z.Warmed39 U.vm ∧ U.heap = h) (fun _ _ _ _ _ => True) (fun _ U o U' => ∃ v L, o = .returned v ∧ Q v U'.heap L ∧ FrameEnd U o U' L rm.cells rm.slots)) (eT : T.heap = h)
    (W : Nat) (hf : rm.frames + 1 ≤ R.frames) (hl : W + (maxL + 11) + rm.locals ≤ R.locals) (hc : cells + rm.cells ≤ R.cells) (hs : slots + rm.slots ≤ R.slots) {g : JFrame} (hg : g.method = m) (hsize : g.locals.size = c.maxLocals) {argsL rest : List Value} (hlen : ∀ sig, parseMethodDescriptor y.desc = some sig → argsL.length = sig.parameters.length)
    (hstack : g.stack = argsL.reverse ++ rest) (has : argsL.toArray = as') (hW : 2 * g.monitorRoom + (rest.map fun v => v.category).sum ≤ W) (hdg : decode c.code g.pc = .ok (.invokestatic index, 3)) :
    ∃ (v : Option Value) (T' : State) (L : List Loc), Stand p l e R s m args below meth c T' (locs ++ L) (cells + rm.cells) (slots + rm.slots) ∧ Q v T'.heap L ∧ ∀ target, Steps p.tables e below (T'.setTop { g with pc := g.pc + 3, stack := v.toList ++ rest }) target → Steps p.tables e below (T.setTop g) target := by
  obtain ⟨v, vm₁, ⟨T', L', k', n'⟩, -, X', ⟨L, hQ, l', y', z'⟩, st⟩ := Jvm.LawKit.callS X hx hown (mvT hZ w1) (mvT hZ w2) (mvT hZ w3) (mvT hZ w4) hy (backOf (W := W) hM hZ w4 w3 hf hl) hg hsize hlen hstack hW hdg (fun _ _ => ⟨has, eT, hc, hs⟩)
  dsimp only [Pt.U, Pt.locs, Pt.cells, Pt.slots] at X' l' y' z' st hQ
  subst l' y' z'
  exact ⟨v, T', L, X', hQ, st⟩
theorem ownCallV (X : Stand p l e R s m args below meth c T locs cells slots) (hx : p.tables.exec = Jvm.exec) (hZ : Z.Warmed39 s.vm) {own C : String} {index : Nat} {y : MethodName} {bytes : ByteArray} {maxL : Nat} {ret : Option FieldType} {rm : Room} {as' : Array Value} {Q : Option Value → Heap → List Loc → Prop} (hown : s.vm.findClass own = some m.cls)
    (w1 : (Cond.methodLink own index y).before a0 Z = true) (w2 : (Cond.declares y).before a0 Z = true) (w5 : (Cond.selects C y y).before a0 Z = true) (w6 : (Cond.instanceMethod y).before a0 Z = true) (w3 : (Cond.initialized y.cls).before a0 Z = true) (w4 : (Cond.code y bytes maxL ret).before a0 Z = true) (hy : y.cls ≠ "java/lang/invoke/MethodHandle" ∧ y.cls ≠ "java/lang/invoke/VarHandle")
    (hM : MetFree l y (head1 [Cond.code y bytes maxL ret] rm) (fun a U => a = as' ∧ Z.Warmed39 U.vm ∧ U.heap = h) (fun _ _ _ _ _ => True) (fun _ U o U' => ∃ v L, o = .returned v ∧ Q v U'.heap L ∧ FrameEnd U o U' L rm.cells rm.slots)) (eT : T.heap = h) {b : Addr} (E : Exa Z h b C)
    (W : Nat) (hf : rm.frames + 1 ≤ R.frames) (hl : W + (maxL + 11) + rm.locals ≤ R.locals) (hc : cells + rm.cells ≤ R.cells) (hs : slots + rm.slots ≤ R.slots) {g : JFrame} (hg : g.method = m) (hsize : g.locals.size = c.maxLocals) {argsL rest : List Value} (hlen : ∀ sig, parseMethodDescriptor y.desc = some sig → argsL.length = sig.parameters.length)
    (hstack : g.stack = argsL.reverse ++ .ref b :: rest) (has : (.ref b :: argsL).toArray = as') (hW : 2 * g.monitorRoom + (rest.map fun v => v.category).sum ≤ W) (hdg : decode c.code g.pc = .ok (.invokevirtual index, 3)) :
    ∃ (v : Option Value) (T' : State) (L : List Loc), Stand p l e R s m args below meth c T' (locs ++ L) (cells + rm.cells) (slots + rm.slots) ∧ Q v T'.heap L ∧ ∀ target, Steps p.tables e below (T'.setTop { g with pc := g.pc + 3, stack := v.toList ++ rest }) target → Steps p.tables e below (T.setTop g) target := by
  obtain ⟨cq, kq, qa, qb, qc⟩ := isOf hZ eT E
  obtain ⟨v, vm₁, ⟨T', L', k', n'⟩, -, X', ⟨L, hQ, l', y', z'⟩, st⟩ := X.virtualBack hx hown (mvT hZ w1) (mvT hZ w2) (notFace_of_selects (args := #[]) (mvT hZ w5)) (mvT hZ w5) (mvT hZ w6) hy (backOf (W := W) hM hZ w4 w3 hf hl) qa qc hg hsize (Steps.refl _) hlen hstack hW hdg (fun _ _ => ⟨has, eT, hc, hs⟩)
  dsimp only [Pt.U, Pt.locs, Pt.cells, Pt.slots] at X' l' y' z' st hQ
  subst l' y' z'
  exact ⟨v, T', L, X', hQ, fun _ k => st.trans k⟩
theorem ownCallI (X : Stand p l e R s m args below meth c T locs cells slots) (hx : p.tables.exec = Jvm.exec) (hZ : Z.Warmed39 s.vm) {own : String} {index : Nat} {y : MethodName} {bytes : ByteArray} {maxL : Nat} {rm : Room} {as' : Array Value} {Q : Option Value → Heap → List Loc → Prop} (hown : s.vm.findClass own = some m.cls) (hy1 : y.name = "<init>")
    (w1 : (Cond.methodLink own index y).before a0 Z = true) (w6 : (Cond.instanceMethod y).before a0 Z = true) (w3 : (Cond.initialized y.cls).before a0 Z = true) (w4 : (Cond.code y bytes maxL none).before a0 Z = true) (hy : y.cls ≠ "java/lang/invoke/MethodHandle" ∧ y.cls ≠ "java/lang/invoke/VarHandle")
    (hM : MetFree l y (head1 [Cond.code y bytes maxL none] rm) (fun a U => a = as' ∧ Z.Warmed39 U.vm ∧ U.heap = h) (fun _ _ _ _ _ => True) (fun _ U o U' => ∃ v L, o = .returned v ∧ Q v U'.heap L ∧ FrameEnd U o U' L rm.cells rm.slots)) (eT : T.heap = h) {b : Addr}
    (W : Nat) (hf : rm.frames + 1 ≤ R.frames) (hl : W + (maxL + 11) + rm.locals ≤ R.locals) (hc : cells + rm.cells ≤ R.cells) (hs : slots + rm.slots ≤ R.slots) {g : JFrame} (hg : g.method = m) (hsize : g.locals.size = c.maxLocals) {argsL rest : List Value} (hlen : ∀ sig, parseMethodDescriptor y.desc = some sig → argsL.length = sig.parameters.length)
    (hstack : g.stack = argsL.reverse ++ .ref b :: rest) (has : (.ref b :: argsL).toArray = as') (hW : 2 * g.monitorRoom + (rest.map fun v => v.category).sum ≤ W) (hdg : decode c.code g.pc = .ok (.invokespecial index, 3)) :
    ∃ (v : Option Value) (T' : State) (L : List Loc), Stand p l e R s m args below meth c T' (locs ++ L) (cells + rm.cells) (slots + rm.slots) ∧ Q v T'.heap L ∧ ∀ target, Steps p.tables e below (T'.setTop { g with pc := g.pc + 3, stack := v.toList ++ rest }) target → Steps p.tables e below (T.setTop g) target := by
  obtain ⟨v, vm₁, ⟨T', L', k', n'⟩, -, X', ⟨L, hQ, l', y', z'⟩, st⟩ := X.specialBack hx hy1 hown (mvT hZ w1) (mvT hZ w6) (mvT hZ w4) hy (backOf (W := W) hM hZ w4 w3 hf hl) hg hsize (Steps.refl _) hlen hstack hW hdg (fun _ _ => ⟨has, eT, hc, hs⟩)
  dsimp only [Pt.U, Pt.locs, Pt.cells, Pt.slots] at X' l' y' z' st hQ
  subst l' y' z'
  exact ⟨v, T', L, X', hQ, fun _ k => st.trans k⟩
end Own
section Own2
variable {p : Program} {l : Launch} {e : Env} {R : Room} {s : State} {m : MethodId} {args : Array Value} {below : List Frame} {meth : Method} {c : Code} {T : State} {locs : List Loc} {cells slots : Nat} {Z : State} {a0 : Array Value} {h : Heap}
/-- branches behind lcmp -/
theorem ownLt {x y : Int64} (q : x < y) : ifCond.holds .lt (lcmpW x y) = true ∧ ifCond.holds .ge (lcmpW x y) = false ∧ ifCond.holds .gt (lcmpW y x) = true ∧ ifCond.holds .le (lcmpW y x) = false := by
  simp only [if0]
  have h1 : lcmpW x y < 0 := by rw [lcW]; exact (lc_lt x y).2 q
  have h2 : 0 < lcmpW y x := by rw [lcW]; exact (lc_gt y x).2 q
  exact ⟨(tlt h1).1, (tlt h1).2.1, (tlt h2).2.2.1, (tlt h2).2.2.2⟩
theorem ownNlt {x y : Int64} (q : ¬ x < y) : ifCond.holds .lt (lcmpW x y) = false ∧ ifCond.holds .ge (lcmpW x y) = true ∧ ifCond.holds .gt (lcmpW y x) = false ∧ ifCond.holds .le (lcmpW y x) = true := by
  simp only [if0]
  have h1 : ¬ lcmpW x y < 0 := by rw [lcW]; exact fun z => q ((lc_lt x y).1 z)
  have h2 : ¬ 0 < lcmpW y x := by rw [lcW]; exact fun z => q ((lc_gt y x).1 z)
  exact ⟨(flt h1).1, (flt h1).2.1, (flt h2).2.2.1, (flt h2).2.2.2⟩
theorem ownEq {x y : Int64} (q : x = y) : ifCond.holds .eq (lcmpW x y) = true ∧ ifCond.holds .ne (lcmpW x y) = false := by
  simp only [if0]
  have h1 : lcmpW x y = 0 := by rw [lcW]; exact (lc_eq x y).2 q
  exact teq h1
theorem ownNeq {x y : Int64} (q : ¬ x = y) : ifCond.holds .eq (lcmpW x y) = false ∧ ifCond.holds .ne (lcmpW x y) = true := by
  simp only [if0]
  have h1 : ¬ lcmpW x y = 0 := by rw [lcW]; exact fun z => q ((lc_eq x y).1 z)
  exact feq h1
theorem ownLrem {tb : Tables} [Ours tb] {e : Env} {below : List Frame} {T target : State} {m : MethodId} {c : Code} {g : JFrame} (h : At T m c below) (hx : tb.exec = Jvm.exec) (hg : g.method = m) {x y : Int64} {rest : List Value} (hd : decode c.code g.pc = .ok (.lrem, 1)) (hs : g.stack = .long y :: .long x :: rest) (hy : y ≠ 0)
    (hr : Steps tb e below (T.setTop { g with pc := g.pc + 1, stack := .long (x % y) :: rest }) target) : Steps tb e below (T.setTop g) target :=
  XS.lrem h hx hg hd hs hy (by rw [lrem_mod]; exact hr)
theorem ownLen (X : Stand p l e R s m args below meth c T locs cells slots) (hx : p.tables.exec = Jvm.exec) (hZ : Z.Warmed39 s.vm) (eT : T.heap = h) {a : Addr} {cl : Cell} {ty : FieldType} {z : Int32} (A : Arr Z h a cl ty) (S : cl.slots.size = z.toNatClampNeg) (q : ¬ z < 0) {g : JFrame} (hg : g.method = m) {rest : List Value} (hs : g.stack = .ref a :: rest) (hd : decode c.code g.pc = .ok (.arraylength, 1)) :
    ∀ target, Steps p.tables e below (T.setTop { g with pc := g.pc + 1, stack := .int z :: rest }) target → Steps p.tables e below (T.setTop g) target := fun target k =>
  X.arraylength hx (by rw [eT]; exact A.1) (State.isArrayOf_alike hZ.alike A.2.1) hg hs hd target (by rw [len_of S q]; exact k)
theorem ownOrd {C f d : String} {a : Addr} {v : Int32} {args : Array Value} (ev : (Term.static C f d).eval args Z none [] Z = some (.ref a)) (hq : (Jvm.Cond.eq (Term.field (Term.static C f d) "java/lang/Enum" "ordinal" "I") (Term.int v)).value args Z none Z [] = some true) : Fld Z Z.heap a "java/lang/Enum" "ordinal" "I" (.int v) := by
  obtain ⟨x, y, h1, h2, h3, h4⟩ := cmp_v (Or.inl hq)
  rw [fld_at ev] at h1
  cases h2
  obtain ⟨z, rfl⟩ := h4
  have h5 : (Term.field (Term.static C f d) "java/lang/Enum" "ordinal" "I").eval args Z none [] Z = some (.int z) := by rw [fld_at ev]; exact h1
  have : z = v := gotT (Cond.eq_ints h5 (Term.int_eval v)) hq
  subst this
  exact Fld.start h1
end Own2
section Own3
variable {p : Program} {l : Launch} {e : Env} {R : Room} {s : State} {m : MethodId} {args : Array Value} {below : List Frame} {meth : Method} {c : Code} {T : State} {locs : List Loc} {cells slots : Nat} {Z : State} {a0 : Array Value} {h : Heap}
/-- two ways that come to one place, the heap as it was -/
def ownDia {α : Type} (X : Stand p l e R s m args below meth c T locs cells slots) (h : Heap) (P : α → Prop) (f : α → JFrame) (g : JFrame) : Prop :=
  ∃ (T' : State) (v : α), Stand p l e R s m args below meth c T' locs cells slots ∧ T'.heap = h ∧ P v ∧ ∀ t, Steps p.tables e below (T'.setTop (f v)) t → Steps p.tables e below (T.setTop g) t
end Own3

def own_xml (c : Int32) : Int32 := if c = 9 ∨ c = 10 ∨ c = 13 ∨ (¬ c < 32 ∧ ¬ 55295 < c) ∨ (¬ c < 57344 ∧ ¬ 65533 < c) ∨ (¬ c < 65536 ∧ ¬ 1114111 < c) then 1 else 0
def own_ref (c : Int32) : Int32 := if c < 0 then 0 else if 1114111 < c then 0 else if c < 32 then (if c = 9 ∨ c = 10 ∨ c = 13 then 1 else 0) else if ¬ c < 55296 ∧ ¬ 57343 < c then 0 else if c = 65534 ∨ c = 65535 then 0 else 1
theorem own_plain (c : Int32) : own_xml c = own_ref c := by
  have e0 : (0 : Int32).toInt = 0 := by decide
  have e9 : (9 : Int32).toInt = 9 := by decide
  have e10 : (10 : Int32).toInt = 10 := by decide
  have e13 : (13 : Int32).toInt = 13 := by decide
  have e32 : (32 : Int32).toInt = 32 := by decide
  have e55295 : (55295 : Int32).toInt = 55295 := by decide
  have e55296 : (55296 : Int32).toInt = 55296 := by decide
  have e57343 : (57343 : Int32).toInt = 57343 := by decide
  have e57344 : (57344 : Int32).toInt = 57344 := by decide
  have e65533 : (65533 : Int32).toInt = 65533 := by decide
  have e65534 : (65534 : Int32).toInt = 65534 := by decide
  have e65535 : (65535 : Int32).toInt = 65535 := by decide
  have e65536 : (65536 : Int32).toInt = 65536 := by decide
  have e1114111 : (1114111 : Int32).toInt = 1114111 := by decide
  simp only [own_xml, own_ref, Int32.lt_iff_toInt_lt, ← Int32.toInt_inj, e0, e9, e10, e13, e32, e55295, e55296, e57343, e57344, e65533, e65534, e65535, e65536, e1114111]
  generalize c.toInt = t
  by_cases a1 : t < 0
  · rw [if_pos a1, if_neg (by omega)]
  rw [if_neg a1]
  by_cases a2 : 1114111 < t
  · rw [if_pos a2, if_neg (by omega)]
  rw [if_neg a2]
  by_cases a3 : t < 32
  · rw [if_pos a3]
    by_cases a4 : t = 9 ∨ t = 10 ∨ t = 13
    · rw [if_pos a4, if_pos (by omega)]
    · rw [if_neg a4, if_neg (by omega)]
  rw [if_neg a3]
  by_cases a4 : ¬ t < 55296 ∧ ¬ 57343 < t
  · rw [if_pos a4, if_neg (by omega)]
  rw [if_neg a4]
  by_cases a5 : t = 65534 ∨ t = 65535
  · rw [if_pos a5, if_neg (by omega)]
  · rw [if_neg a5, if_pos (by omega)]
theorem own_allint : ∀ (vs : List Value), (∀ v ∈ vs, ∃ z, v = .int z) → ∀ n, ∃ z : Int32, vs.getD n (.int (0 : Int32)) = .int z
  | [], _, n => ⟨0, by simp⟩
  | v :: r, h, 0 => by obtain ⟨z, rfl⟩ := h v (List.mem_cons_self ..); exact ⟨z, rfl⟩
  | v :: r, h, n + 1 => by obtain ⟨z, q⟩ := own_allint r (fun u hu => h u (List.mem_cons_of_mem _ hu)) n; exact ⟨z, q⟩
theorem own_idx (x : Int32) : ¬ (((x.toUInt32 >>> ((1 : Int32) &&& 31).toUInt32).toInt32) % (23 : Int32)) < 0 ∧ (((x.toUInt32 >>> ((1 : Int32) &&& 31).toUInt32).toInt32) % (23 : Int32)) < (23 : Int32) := by
  have h := c_iushr x 1 1 (by decide) (by decide)
  have h0 : 0 ≤ ((x.toUInt32 >>> ((1 : Int32) &&& 31).toUInt32).toInt32).toInt := by rw [h]; omega
  have h1 := (c_iremV ((x.toUInt32 >>> ((1 : Int32) &&& 31).toUInt32).toInt32) 23).1 h0 (by decide)
  have e0 : (0 : Int32).toInt = 0 := by decide
  rw [Int32.lt_iff_toInt_lt, Int32.lt_iff_toInt_lt]
  omega

theorem d1_0 : decode prog_256_method_8_code 0 = .ok (.iload_n 0, 1) := by decide +kernel
theorem d1_1 : decode prog_256_method_8_code 1 = .ok (.bipush 9, 2) := by decide +kernel
theorem d1_3 : decode prog_256_method_8_code 3 = .ok (.if_icmp .eq 51, 3) := by decide +kernel
theorem d1_6 : decode prog_256_method_8_code 6 = .ok (.iload_n 0, 1) := by decide +kernel
theorem d1_7 : decode prog_256_method_8_code 7 = .ok (.bipush 10, 2) := by decide +kernel
theorem d1_9 : decode prog_256_method_8_code 9 = .ok (.if_icmp .eq 45, 3) := by decide +kernel
theorem d1_12 : decode prog_256_method_8_code 12 = .ok (.iload_n 0, 1) := by decide +kernel
theorem d1_13 : decode prog_256_method_8_code 13 = .ok (.bipush 13, 2) := by decide +kernel
theorem d1_15 : decode prog_256_method_8_code 15 = .ok (.if_icmp .eq 39, 3) := by decide +kernel
theorem d1_18 : decode prog_256_method_8_code 18 = .ok (.iload_n 0, 1) := by decide +kernel
theorem d1_19 : decode prog_256_method_8_code 19 = .ok (.bipush 32, 2) := by decide +kernel
theorem d1_21 : decode prog_256_method_8_code 21 = .ok (.if_icmp .lt 9, 3) := by decide +kernel
theorem d1_24 : decode prog_256_method_8_code 24 = .ok (.iload_n 0, 1) := by decide +kernel
theorem d1_25 : decode prog_256_method_8_code 25 = .ok (.ldc 62, 2) := by decide +kernel
theorem d1_27 : decode prog_256_method_8_code 27 = .ok (.if_icmp .le 27, 3) := by decide +kernel
theorem d1_30 : decode prog_256_method_8_code 30 = .ok (.iload_n 0, 1) := by decide +kernel
theorem d1_31 : decode prog_256_method_8_code 31 = .ok (.ldc 63, 2) := by decide +kernel
theorem d1_33 : decode prog_256_method_8_code 33 = .ok (.if_icmp .lt 9, 3) := by decide +kernel
theorem d1_36 : decode prog_256_method_8_code 36 = .ok (.iload_n 0, 1) := by decide +kernel
theorem d1_37 : decode prog_256_method_8_code 37 = .ok (.ldc 64, 2) := by decide +kernel
theorem d1_39 : decode prog_256_method_8_code 39 = .ok (.if_icmp .le 15, 3) := by decide +kernel
theorem d1_42 : decode prog_256_method_8_code 42 = .ok (.iload_n 0, 1) := by decide +kernel
theorem d1_43 : decode prog_256_method_8_code 43 = .ok (.ldc 65, 2) := by decide +kernel
theorem d1_45 : decode prog_256_method_8_code 45 = .ok (.if_icmp .lt 13, 3) := by decide +kernel
theorem d1_48 : decode prog_256_method_8_code 48 = .ok (.iload_n 0, 1) := by decide +kernel
theorem d1_49 : decode prog_256_method_8_code 49 = .ok (.ldc 66, 2) := by decide +kernel
theorem d1_51 : decode prog_256_method_8_code 51 = .ok (.if_icmp .gt 7, 3) := by decide +kernel
theorem d1_54 : decode prog_256_method_8_code 54 = .ok (.iconst 1, 1) := by decide +kernel
theorem d1_55 : decode prog_256_method_8_code 55 = .ok (.goto 4, 3) := by decide +kernel
theorem d1_58 : decode prog_256_method_8_code 58 = .ok (.iconst 0, 1) := by decide +kernel
theorem d1_59 : decode prog_256_method_8_code 59 = .ok (.ireturn, 1) := by decide +kernel
theorem pn_1 : plainName "com/example/rewoven_tree/rewoventree/storage/XmlChars" = true := by first | (simp [plainName, overriddenIn]; done) | decide +kernel
theorem ef_1 (m : MethodId) (x0 : Int32) : entryFrame m #[(.int x0)] 1 = mkF m 0 #[.val (.int x0)] [] := by first | (simp [entryFrame, mkF, argsToLocals, Value.category]; done) | rfl
def Q1 (Z : State) (p1 : Int32) (h0 : Heap) (n0 : Nat) (v : Option Value) (h : Heap) (L : List Loc) : Prop := v = some (.int (own_xml p1)) ∧ Fr n0 L ∧ h = h0
set_option maxRecDepth 65536 in
set_option maxHeartbeats 40000000 in
theorem rm1 (l : Launch) (Z : State) (a0 : Array Value) (hw : ∀ d ∈ tables_1, d.before a0 Z = true) (ws : List Jvm.Cond) (p1 : Int32) (h0 : Heap) (n0 : Nat) (Z0 : n0 ≤ h0.size) :
    MetFree l (⟨"com/example/rewoven_tree/rewoventree/storage/XmlChars", "isXmlChar", "(I)Z"⟩ : MethodName) (head1 (Jvm.Cond.code (⟨"com/example/rewoven_tree/rewoventree/storage/XmlChars", "isXmlChar", "(I)Z"⟩ : MethodName) prog_256_method_8_code 1 (some .boolean) :: ws) ({ frames := 0, cells := 0, slots := 0, locals := 0 } : Room)) (fun a U => a = #[(.int p1)] ∧ Z.Warmed39 U.vm ∧ U.heap = h0) (fun _ _ _ _ _ => True) (fun _ U o U' => ∃ v L, o = .returned v ∧ Q1 Z p1 h0 n0 v U'.heap L ∧ FrameEnd U o U' L ({ frames := 0, cells := 0, slots := 0, locals := 0 } : Room).cells ({ frames := 0, cells := 0, slots := 0, locals := 0 } : Room).slots) := by
  have ww17 := hw _ (List.mem_of_getElem? (i := 17) rfl)
  have ww18 := hw _ (List.mem_of_getElem? (i := 18) rfl)
  have ww23 := hw _ (List.mem_of_getElem? (i := 23) rfl)
  have ww24 := hw _ (List.mem_of_getElem? (i := 24) rfl)
  have ww25 := hw _ (List.mem_of_getElem? (i := 25) rfl)
  refine MetFree.of_bodySF (plainFor_of_name pn_1) hisR ?_
  intro p e s m args below meth c s₁ Bd hml0 hP hK
  obtain ⟨rfl, hZ, hh⟩ := hP
  have hx := Bd.exec
  have hby := Bd.bytes
  have hlk : meth.locks = false := Bd.notSynchronized
  have hret := Bd.returns
  have hml : c.maxLocals = 1 := hml0
  have hown : s.vm.findClass "com/example/rewoven_tree/rewoventree/storage/XmlChars" = some m.cls := findClass_of_methodNamed Bd.named
  have hnm := (name_of_methodNamed Bd.named Bd.method).1
  have X0 : Stand p l e ({ frames := 0, cells := 0, slots := 0, locals := 0 } : Room) s m #[(.int p1)] below meth c s₁ [] 0 0 := Stand.of_body Bd
  have e0 : s₁.heap = h0 := by rw [← hh, Bd.state]; rfl
  have N0 := Fr.nil n0
  have K0 := Keep.refl h0 []
  show OwnEnd p e below s (Q1 Z p1 h0 n0) ({ frames := 0, cells := 0, slots := 0, locals := 0 } : Room).cells ({ frames := 0, cells := 0, slots := 0, locals := 0 } : Room).slots _
  refine OwnEnd.go (fun _ k => castTop (ef_1 m p1) k) ?_
  show OwnEnd p e below s _ _ _ (s₁.setTop (mkF m 0 #[.val (.int p1)] []))
  refine OwnEnd.go (fun _ k => XS.iloadN X0.here hx rfl (hb hby d1_0) rfl  k) ?_
  show OwnEnd p e below s _ _ _ (s₁.setTop (mkF m 1 #[.val (.int p1)] [(.int p1)]))
  refine OwnEnd.go (fun _ k => XS.bipush X0.here hx rfl (hb hby d1_1) k) ?_
  show OwnEnd p e below s _ _ _ (s₁.setTop (mkF m 3 #[.val (.int p1)] [(.int (9 : Int32)), (.int p1)]))
  by_cases hc1 : p1 = (9 : Int32)
  · refine OwnEnd.go (fun _ k => XS.icmpYes X0.here hx rfl (pc0 := 3) (pc' := 54) rfl (hb hby d1_3) rfl (teq hc1).1 (by decide) (by decide) k) ?_
    show OwnEnd p e below s _ _ _ (s₁.setTop (mkF m 54 #[.val (.int p1)] []))
    refine OwnEnd.go (fun _ k => XS.iconst X0.here hx rfl (hb hby d1_54) k) ?_
    show OwnEnd p e below s _ _ _ (s₁.setTop (mkF m 55 #[.val (.int p1)] [(.int (1 : Int32))]))
    refine OwnEnd.go (fun _ k => XS.goto X0.here hx rfl (pc0 := 55) (pc' := 59) rfl (hb hby d1_55) (by decide) (by decide) k) ?_
    show OwnEnd p e below s _ _ _ (s₁.setTop (mkF m 59 #[.val (.int p1)] [(.int (1 : Int32))]))
    refine ownRetZ X0 hx hlk hret (hb hby d1_59) (by decide) (by decide) (1 : Int32) (by decide) ?_
    show Q1 Z p1 h0 n0 _ s₁.heap _
    rw [e0]
    refine ⟨?_, N0, rfl⟩
    simp [own_xml, hc1]
  · refine OwnEnd.go (fun _ k => XS.icmpNo X0.here hx rfl (hb hby d1_3) rfl (feq hc1).1 k) ?_
    show OwnEnd p e below s _ _ _ (s₁.setTop (mkF m 6 #[.val (.int p1)] []))
    refine OwnEnd.go (fun _ k => XS.iloadN X0.here hx rfl (hb hby d1_6) rfl  k) ?_
    show OwnEnd p e below s _ _ _ (s₁.setTop (mkF m 7 #[.val (.int p1)] [(.int p1)]))
    refine OwnEnd.go (fun _ k => XS.bipush X0.here hx rfl (hb hby d1_7) k) ?_
    show OwnEnd p e below s _ _ _ (s₁.setTop (mkF m 9 #[.val (.int p1)] [(.int (10 : Int32)), (.int p1)]))
    by_cases hc2 : p1 = (10 : Int32)
    · refine OwnEnd.go (fun _ k => XS.icmpYes X0.here hx rfl (pc0 := 9) (pc' := 54) rfl (hb hby d1_9) rfl (teq hc2).1 (by decide) (by decide) k) ?_
      show OwnEnd p e below s _ _ _ (s₁.setTop (mkF m 54 #[.val (.int p1)] []))
      refine OwnEnd.go (fun _ k => XS.iconst X0.here hx rfl (hb hby d1_54) k) ?_
      show OwnEnd p e below s _ _ _ (s₁.setTop (mkF m 55 #[.val (.int p1)] [(.int (1 : Int32))]))
      refine OwnEnd.go (fun _ k => XS.goto X0.here hx rfl (pc0 := 55) (pc' := 59) rfl (hb hby d1_55) (by decide) (by decide) k) ?_
      show OwnEnd p e below s _ _ _ (s₁.setTop (mkF m 59 #[.val (.int p1)] [(.int (1 : Int32))]))
      refine ownRetZ X0 hx hlk hret (hb hby d1_59) (by decide) (by decide) (1 : Int32) (by decide) ?_
      show Q1 Z p1 h0 n0 _ s₁.heap _
      rw [e0]
      refine ⟨?_, N0, rfl⟩
      simp [own_xml, hc1, hc2]
    · refine OwnEnd.go (fun _ k => XS.icmpNo X0.here hx rfl (hb hby d1_9) rfl (feq hc2).1 k) ?_
      show OwnEnd p e below s _ _ _ (s₁.setTop (mkF m 12 #[.val (.int p1)] []))
      refine OwnEnd.go (fun _ k => XS.iloadN X0.here hx rfl (hb hby d1_12) rfl  k) ?_
      show OwnEnd p e below s _ _ _ (s₁.setTop (mkF m 13 #[.val (.int p1)] [(.int p1)]))
      refine OwnEnd.go (fun _ k => XS.bipush X0.here hx rfl (hb hby d1_13) k) ?_
      show OwnEnd p e below s _ _ _ (s₁.setTop (mkF m 15 #[.val (.int p1)] [(.int (13 : Int32)), (.int p1)]))
      by_cases hc3 : p1 = (13 : Int32)
      · refine OwnEnd.go (fun _ k => XS.icmpYes X0.here hx rfl (pc0 := 15) (pc' := 54) rfl (hb hby d1_15) rfl (teq hc3).1 (by decide) (by decide) k) ?_
        show OwnEnd p e below s _ _ _ (s₁.setTop (mkF m 54 #[.val (.int p1)] []))
        refine OwnEnd.go (fun _ k => XS.iconst X0.here hx rfl (hb hby d1_54) k) ?_
        show OwnEnd p e below s _ _ _ (s₁.setTop (mkF m 55 #[.val (.int p1)] [(.int (1 : Int32))]))
        refine OwnEnd.go (fun _ k => XS.goto X0.here hx rfl (pc0 := 55) (pc' := 59) rfl (hb hby d1_55) (by decide) (by decide) k) ?_
        show OwnEnd p e below s _ _ _ (s₁.setTop (mkF m 59 #[.val (.int p1)] [(.int (1 : Int32))]))
        refine ownRetZ X0 hx hlk hret (hb hby d1_59) (by decide) (by decide) (1 : Int32) (by decide) ?_
        show Q1 Z p1 h0 n0 _ s₁.heap _
        rw [e0]
        refine ⟨?_, N0, rfl⟩
        simp [own_xml, hc1, hc2, hc3]
      · refine OwnEnd.go (fun _ k => XS.icmpNo X0.here hx rfl (hb hby d1_15) rfl (feq hc3).1 k) ?_
        show OwnEnd p e below s _ _ _ (s₁.setTop (mkF m 18 #[.val (.int p1)] []))
        refine OwnEnd.go (fun _ k => XS.iloadN X0.here hx rfl (hb hby d1_18) rfl  k) ?_
        show OwnEnd p e below s _ _ _ (s₁.setTop (mkF m 19 #[.val (.int p1)] [(.int p1)]))
        refine OwnEnd.go (fun _ k => XS.bipush X0.here hx rfl (hb hby d1_19) k) ?_
        show OwnEnd p e below s _ _ _ (s₁.setTop (mkF m 21 #[.val (.int p1)] [(.int (32 : Int32)), (.int p1)]))
        by_cases hc4 : p1 < (32 : Int32)
        · refine OwnEnd.go (fun _ k => XS.icmpYes X0.here hx rfl (pc0 := 21) (pc' := 30) rfl (hb hby d1_21) rfl (tlt hc4).1 (by decide) (by decide) k) ?_
          show OwnEnd p e below s _ _ _ (s₁.setTop (mkF m 30 #[.val (.int p1)] []))
          refine OwnEnd.go (fun _ k => XS.iloadN X0.here hx rfl (hb hby d1_30) rfl  k) ?_
          show OwnEnd p e below s _ _ _ (s₁.setTop (mkF m 31 #[.val (.int p1)] [(.int p1)]))
          refine OwnEnd.go (fun _ k => X0.ldcI hx hown (mvT hZ ww17) (g := (mkF m 31 #[.val (.int p1)] [(.int p1)])) rfl (hb hby d1_31) k) ?_
          show OwnEnd p e below s _ _ _ (s₁.setTop (mkF m 33 #[.val (.int p1)] [(.int (57344 : Int32)), (.int p1)]))
          by_cases hc5 : p1 < (57344 : Int32)
          · refine OwnEnd.go (fun _ k => XS.icmpYes X0.here hx rfl (pc0 := 33) (pc' := 42) rfl (hb hby d1_33) rfl (tlt hc5).1 (by decide) (by decide) k) ?_
            show OwnEnd p e below s _ _ _ (s₁.setTop (mkF m 42 #[.val (.int p1)] []))
            refine OwnEnd.go (fun _ k => XS.iloadN X0.here hx rfl (hb hby d1_42) rfl  k) ?_
            show OwnEnd p e below s _ _ _ (s₁.setTop (mkF m 43 #[.val (.int p1)] [(.int p1)]))
            refine OwnEnd.go (fun _ k => X0.ldcI hx hown (mvT hZ ww18) (g := (mkF m 43 #[.val (.int p1)] [(.int p1)])) rfl (hb hby d1_43) k) ?_
            show OwnEnd p e below s _ _ _ (s₁.setTop (mkF m 45 #[.val (.int p1)] [(.int (65536 : Int32)), (.int p1)]))
            by_cases hc6 : p1 < (65536 : Int32)
            · refine OwnEnd.go (fun _ k => XS.icmpYes X0.here hx rfl (pc0 := 45) (pc' := 58) rfl (hb hby d1_45) rfl (tlt hc6).1 (by decide) (by decide) k) ?_
              show OwnEnd p e below s _ _ _ (s₁.setTop (mkF m 58 #[.val (.int p1)] []))
              refine OwnEnd.go (fun _ k => XS.iconst X0.here hx rfl (hb hby d1_58) k) ?_
              show OwnEnd p e below s _ _ _ (s₁.setTop (mkF m 59 #[.val (.int p1)] [(.int (0 : Int32))]))
              refine ownRetZ X0 hx hlk hret (hb hby d1_59) (by decide) (by decide) (0 : Int32) (by decide) ?_
              show Q1 Z p1 h0 n0 _ s₁.heap _
              rw [e0]
              refine ⟨?_, N0, rfl⟩
              simp [own_xml, hc1, hc2, hc3, hc4, hc5, hc6]
            · refine OwnEnd.go (fun _ k => XS.icmpNo X0.here hx rfl (hb hby d1_45) rfl (flt hc6).1 k) ?_
              show OwnEnd p e below s _ _ _ (s₁.setTop (mkF m 48 #[.val (.int p1)] []))
              refine OwnEnd.go (fun _ k => XS.iloadN X0.here hx rfl (hb hby d1_48) rfl  k) ?_
              show OwnEnd p e below s _ _ _ (s₁.setTop (mkF m 49 #[.val (.int p1)] [(.int p1)]))
              refine OwnEnd.go (fun _ k => X0.ldcI hx hown (mvT hZ ww25) (g := (mkF m 49 #[.val (.int p1)] [(.int p1)])) rfl (hb hby d1_49) k) ?_
              show OwnEnd p e below s _ _ _ (s₁.setTop (mkF m 51 #[.val (.int p1)] [(.int (1114111 : Int32)), (.int p1)]))
              by_cases hc7 : (1114111 : Int32) < p1
              · refine OwnEnd.go (fun _ k => XS.icmpYes X0.here hx rfl (pc0 := 51) (pc' := 58) rfl (hb hby d1_51) rfl (tlt hc7).2.2.1 (by decide) (by decide) k) ?_
                show OwnEnd p e below s _ _ _ (s₁.setTop (mkF m 58 #[.val (.int p1)] []))
                refine OwnEnd.go (fun _ k => XS.iconst X0.here hx rfl (hb hby d1_58) k) ?_
                show OwnEnd p e below s _ _ _ (s₁.setTop (mkF m 59 #[.val (.int p1)] [(.int (0 : Int32))]))
                refine ownRetZ X0 hx hlk hret (hb hby d1_59) (by decide) (by decide) (0 : Int32) (by decide) ?_
                show Q1 Z p1 h0 n0 _ s₁.heap _
                rw [e0]
                refine ⟨?_, N0, rfl⟩
                simp [own_xml, hc1, hc2, hc3, hc4, hc5, hc6, hc7]
              · refine OwnEnd.go (fun _ k => XS.icmpNo X0.here hx rfl (hb hby d1_51) rfl (flt hc7).2.2.1 k) ?_
                show OwnEnd p e below s _ _ _ (s₁.setTop (mkF m 54 #[.val (.int p1)] []))
                refine OwnEnd.go (fun _ k => XS.iconst X0.here hx rfl (hb hby d1_54) k) ?_
                show OwnEnd p e below s _ _ _ (s₁.setTop (mkF m 55 #[.val (.int p1)] [(.int (1 : Int32))]))
                refine OwnEnd.go (fun _ k => XS.goto X0.here hx rfl (pc0 := 55) (pc' := 59) rfl (hb hby d1_55) (by decide) (by decide) k) ?_
                show OwnEnd p e below s _ _ _ (s₁.setTop (mkF m 59 #[.val (.int p1)] [(.int (1 : Int32))]))
                refine ownRetZ X0 hx hlk hret (hb hby d1_59) (by decide) (by decide) (1 : Int32) (by decide) ?_
                show Q1 Z p1 h0 n0 _ s₁.heap _
                rw [e0]
                refine ⟨?_, N0, rfl⟩
                simp [own_xml, hc1, hc2, hc3, hc4, hc5, hc6, hc7]
          · refine OwnEnd.go (fun _ k => XS.icmpNo X0.here hx rfl (hb hby d1_33) rfl (flt hc5).1 k) ?_
            show OwnEnd p e below s _ _ _ (s₁.setTop (mkF m 36 #[.val (.int p1)] []))
            refine OwnEnd.go (fun _ k => XS.iloadN X0.here hx rfl (hb hby d1_36) rfl  k) ?_
            show OwnEnd p e below s _ _ _ (s₁.setTop (mkF m 37 #[.val (.int p1)] [(.int p1)]))
            refine OwnEnd.go (fun _ k => X0.ldcI hx hown (mvT hZ ww24) (g := (mkF m 37 #[.val (.int p1)] [(.int p1)])) rfl (hb hby d1_37) k) ?_
            show OwnEnd p e below s _ _ _ (s₁.setTop (mkF m 39 #[.val (.int p1)] [(.int (65533 : Int32)), (.int p1)]))
            by_cases hc8 : (65533 : Int32) < p1
            · refine OwnEnd.go (fun _ k => XS.icmpNo X0.here hx rfl (hb hby d1_39) rfl (tlt hc8).2.2.2 k) ?_
              show OwnEnd p e below s _ _ _ (s₁.setTop (mkF m 42 #[.val (.int p1)] []))
              refine OwnEnd.go (fun _ k => XS.iloadN X0.here hx rfl (hb hby d1_42) rfl  k) ?_
              show OwnEnd p e below s _ _ _ (s₁.setTop (mkF m 43 #[.val (.int p1)] [(.int p1)]))
              refine OwnEnd.go (fun _ k => X0.ldcI hx hown (mvT hZ ww18) (g := (mkF m 43 #[.val (.int p1)] [(.int p1)])) rfl (hb hby d1_43) k) ?_
              show OwnEnd p e below s _ _ _ (s₁.setTop (mkF m 45 #[.val (.int p1)] [(.int (65536 : Int32)), (.int p1)]))
              by_cases hc9 : p1 < (65536 : Int32)
              · refine OwnEnd.go (fun _ k => XS.icmpYes X0.here hx rfl (pc0 := 45) (pc' := 58) rfl (hb hby d1_45) rfl (tlt hc9).1 (by decide) (by decide) k) ?_
                show OwnEnd p e below s _ _ _ (s₁.setTop (mkF m 58 #[.val (.int p1)] []))
                refine OwnEnd.go (fun _ k => XS.iconst X0.here hx rfl (hb hby d1_58) k) ?_
                show OwnEnd p e below s _ _ _ (s₁.setTop (mkF m 59 #[.val (.int p1)] [(.int (0 : Int32))]))
                refine ownRetZ X0 hx hlk hret (hb hby d1_59) (by decide) (by decide) (0 : Int32) (by decide) ?_
                show Q1 Z p1 h0 n0 _ s₁.heap _
                rw [e0]
                refine ⟨?_, N0, rfl⟩
                simp [own_xml, hc1, hc2, hc3, hc4, hc5, hc8, hc9]
              · refine OwnEnd.go (fun _ k => XS.icmpNo X0.here hx rfl (hb hby d1_45) rfl (flt hc9).1 k) ?_
                show OwnEnd p e below s _ _ _ (s₁.setTop (mkF m 48 #[.val (.int p1)] []))
                refine OwnEnd.go (fun _ k => XS.iloadN X0.here hx rfl (hb hby d1_48) rfl  k) ?_
                show OwnEnd p e below s _ _ _ (s₁.setTop (mkF m 49 #[.val (.int p1)] [(.int p1)]))
                refine OwnEnd.go (fun _ k => X0.ldcI hx hown (mvT hZ ww25) (g := (mkF m 49 #[.val (.int p1)] [(.int p1)])) rfl (hb hby d1_49) k) ?_
                show OwnEnd p e below s _ _ _ (s₁.setTop (mkF m 51 #[.val (.int p1)] [(.int (1114111 : Int32)), (.int p1)]))
                by_cases hc10 : (1114111 : Int32) < p1
                · refine OwnEnd.go (fun _ k => XS.icmpYes X0.here hx rfl (pc0 := 51) (pc' := 58) rfl (hb hby d1_51) rfl (tlt hc10).2.2.1 (by decide) (by decide) k) ?_
                  show OwnEnd p e below s _ _ _ (s₁.setTop (mkF m 58 #[.val (.int p1)] []))
                  refine OwnEnd.go (fun _ k => XS.iconst X0.here hx rfl (hb hby d1_58) k) ?_
                  show OwnEnd p e below s _ _ _ (s₁.setTop (mkF m 59 #[.val (.int p1)] [(.int (0 : Int32))]))
                  refine ownRetZ X0 hx hlk hret (hb hby d1_59) (by decide) (by decide) (0 : Int32) (by decide) ?_
                  show Q1 Z p1 h0 n0 _ s₁.heap _
                  rw [e0]
                  refine ⟨?_, N0, rfl⟩
                  simp [own_xml, hc1, hc2, hc3, hc4, hc5, hc8, hc9, hc10]
                · refine OwnEnd.go (fun _ k => XS.icmpNo X0.here hx rfl (hb hby d1_51) rfl (flt hc10).2.2.1 k) ?_
                  show OwnEnd p e below s _ _ _ (s₁.setTop (mkF m 54 #[.val (.int p1)] []))
                  refine OwnEnd.go (fun _ k => XS.iconst X0.here hx rfl (hb hby d1_54) k) ?_
                  show OwnEnd p e below s _ _ _ (s₁.setTop (mkF m 55 #[.val (.int p1)] [(.int (1 : Int32))]))
                  refine OwnEnd.go (fun _ k => XS.goto X0.here hx rfl (pc0 := 55) (pc' := 59) rfl (hb hby d1_55) (by decide) (by decide) k) ?_
                  show OwnEnd p e below s _ _ _ (s₁.setTop (mkF m 59 #[.val (.int p1)] [(.int (1 : Int32))]))
                  refine ownRetZ X0 hx hlk hret (hb hby d1_59) (by decide) (by decide) (1 : Int32) (by decide) ?_
                  show Q1 Z p1 h0 n0 _ s₁.heap _
                  rw [e0]
                  refine ⟨?_, N0, rfl⟩
                  simp [own_xml, hc1, hc2, hc3, hc4, hc5, hc8, hc9, hc10]
            · refine OwnEnd.go (fun _ k => XS.icmpYes X0.here hx rfl (pc0 := 39) (pc' := 54) rfl (hb hby d1_39) rfl (flt hc8).2.2.2 (by decide) (by decide) k) ?_
              show OwnEnd p e below s _ _ _ (s₁.setTop (mkF m 54 #[.val (.int p1)] []))
              refine OwnEnd.go (fun _ k => XS.iconst X0.here hx rfl (hb hby d1_54) k) ?_
              show OwnEnd p e below s _ _ _ (s₁.setTop (mkF m 55 #[.val (.int p1)] [(.int (1 : Int32))]))
              refine OwnEnd.go (fun _ k => XS.goto X0.here hx rfl (pc0 := 55) (pc' := 59) rfl (hb hby d1_55) (by decide) (by decide) k) ?_
              show OwnEnd p e below s _ _ _ (s₁.setTop (mkF m 59 #[.val (.int p1)] [(.int (1 : Int32))]))
              refine ownRetZ X0 hx hlk hret (hb hby d1_59) (by decide) (by decide) (1 : Int32) (by decide) ?_
              show Q1 Z p1 h0 n0 _ s₁.heap _
              rw [e0]
              refine ⟨?_, N0, rfl⟩
              simp [own_xml, hc1, hc2, hc3, hc4, hc5, hc8]
        · refine OwnEnd.go (fun _ k => XS.icmpNo X0.here hx rfl (hb hby d1_21) rfl (flt hc4).1 k) ?_
          show OwnEnd p e below s _ _ _ (s₁.setTop (mkF m 24 #[.val (.int p1)] []))
          refine OwnEnd.go (fun _ k => XS.iloadN X0.here hx rfl (hb hby d1_24) rfl  k) ?_
          show OwnEnd p e below s _ _ _ (s₁.setTop (mkF m 25 #[.val (.int p1)] [(.int p1)]))
          refine OwnEnd.go (fun _ k => X0.ldcI hx hown (mvT hZ ww23) (g := (mkF m 25 #[.val (.int p1)] [(.int p1)])) rfl (hb hby d1_25) k) ?_
          show OwnEnd p e below s _ _ _ (s₁.setTop (mkF m 27 #[.val (.int p1)] [(.int (55295 : Int32)), (.int p1)]))
          by_cases hc11 : (55295 : Int32) < p1
          · refine OwnEnd.go (fun _ k => XS.icmpNo X0.here hx rfl (hb hby d1_27) rfl (tlt hc11).2.2.2 k) ?_
            show OwnEnd p e below s _ _ _ (s₁.setTop (mkF m 30 #[.val (.int p1)] []))
            refine OwnEnd.go (fun _ k => XS.iloadN X0.here hx rfl (hb hby d1_30) rfl  k) ?_
            show OwnEnd p e below s _ _ _ (s₁.setTop (mkF m 31 #[.val (.int p1)] [(.int p1)]))
            refine OwnEnd.go (fun _ k => X0.ldcI hx hown (mvT hZ ww17) (g := (mkF m 31 #[.val (.int p1)] [(.int p1)])) rfl (hb hby d1_31) k) ?_
            show OwnEnd p e below s _ _ _ (s₁.setTop (mkF m 33 #[.val (.int p1)] [(.int (57344 : Int32)), (.int p1)]))
            by_cases hc12 : p1 < (57344 : Int32)
            · refine OwnEnd.go (fun _ k => XS.icmpYes X0.here hx rfl (pc0 := 33) (pc' := 42) rfl (hb hby d1_33) rfl (tlt hc12).1 (by decide) (by decide) k) ?_
              show OwnEnd p e below s _ _ _ (s₁.setTop (mkF m 42 #[.val (.int p1)] []))
              refine OwnEnd.go (fun _ k => XS.iloadN X0.here hx rfl (hb hby d1_42) rfl  k) ?_
              show OwnEnd p e below s _ _ _ (s₁.setTop (mkF m 43 #[.val (.int p1)] [(.int p1)]))
              refine OwnEnd.go (fun _ k => X0.ldcI hx hown (mvT hZ ww18) (g := (mkF m 43 #[.val (.int p1)] [(.int p1)])) rfl (hb hby d1_43) k) ?_
              show OwnEnd p e below s _ _ _ (s₁.setTop (mkF m 45 #[.val (.int p1)] [(.int (65536 : Int32)), (.int p1)]))
              by_cases hc13 : p1 < (65536 : Int32)
              · refine OwnEnd.go (fun _ k => XS.icmpYes X0.here hx rfl (pc0 := 45) (pc' := 58) rfl (hb hby d1_45) rfl (tlt hc13).1 (by decide) (by decide) k) ?_
                show OwnEnd p e below s _ _ _ (s₁.setTop (mkF m 58 #[.val (.int p1)] []))
                refine OwnEnd.go (fun _ k => XS.iconst X0.here hx rfl (hb hby d1_58) k) ?_
                show OwnEnd p e below s _ _ _ (s₁.setTop (mkF m 59 #[.val (.int p1)] [(.int (0 : Int32))]))
                refine ownRetZ X0 hx hlk hret (hb hby d1_59) (by decide) (by decide) (0 : Int32) (by decide) ?_
                show Q1 Z p1 h0 n0 _ s₁.heap _
                rw [e0]
                refine ⟨?_, N0, rfl⟩
                simp [own_xml, hc1, hc2, hc3, hc4, hc11, hc12, hc13]
              · refine OwnEnd.go (fun _ k => XS.icmpNo X0.here hx rfl (hb hby d1_45) rfl (flt hc13).1 k) ?_
                show OwnEnd p e below s _ _ _ (s₁.setTop (mkF m 48 #[.val (.int p1)] []))
                refine OwnEnd.go (fun _ k => XS.iloadN X0.here hx rfl (hb hby d1_48) rfl  k) ?_
                show OwnEnd p e below s _ _ _ (s₁.setTop (mkF m 49 #[.val (.int p1)] [(.int p1)]))
                refine OwnEnd.go (fun _ k => X0.ldcI hx hown (mvT hZ ww25) (g := (mkF m 49 #[.val (.int p1)] [(.int p1)])) rfl (hb hby d1_49) k) ?_
                show OwnEnd p e below s _ _ _ (s₁.setTop (mkF m 51 #[.val (.int p1)] [(.int (1114111 : Int32)), (.int p1)]))
                by_cases hc14 : (1114111 : Int32) < p1
                · refine OwnEnd.go (fun _ k => XS.icmpYes X0.here hx rfl (pc0 := 51) (pc' := 58) rfl (hb hby d1_51) rfl (tlt hc14).2.2.1 (by decide) (by decide) k) ?_
                  show OwnEnd p e below s _ _ _ (s₁.setTop (mkF m 58 #[.val (.int p1)] []))
                  refine OwnEnd.go (fun _ k => XS.iconst X0.here hx rfl (hb hby d1_58) k) ?_
                  show OwnEnd p e below s _ _ _ (s₁.setTop (mkF m 59 #[.val (.int p1)] [(.int (0 : Int32))]))
                  refine ownRetZ X0 hx hlk hret (hb hby d1_59) (by decide) (by decide) (0 : Int32) (by decide) ?_
                  show Q1 Z p1 h0 n0 _ s₁.heap _
                  rw [e0]
                  refine ⟨?_, N0, rfl⟩
                  simp [own_xml, hc1, hc2, hc3, hc4, hc11, hc12, hc13, hc14]
                · refine OwnEnd.go (fun _ k => XS.icmpNo X0.here hx rfl (hb hby d1_51) rfl (flt hc14).2.2.1 k) ?_
                  show OwnEnd p e below s _ _ _ (s₁.setTop (mkF m 54 #[.val (.int p1)] []))
                  refine OwnEnd.go (fun _ k => XS.iconst X0.here hx rfl (hb hby d1_54) k) ?_
                  show OwnEnd p e below s _ _ _ (s₁.setTop (mkF m 55 #[.val (.int p1)] [(.int (1 : Int32))]))
                  refine OwnEnd.go (fun _ k => XS.goto X0.here hx rfl (pc0 := 55) (pc' := 59) rfl (hb hby d1_55) (by decide) (by decide) k) ?_
                  show OwnEnd p e below s _ _ _ (s₁.setTop (mkF m 59 #[.val (.int p1)] [(.int (1 : Int32))]))
                  refine ownRetZ X0 hx hlk hret (hb hby d1_59) (by decide) (by decide) (1 : Int32) (by decide) ?_
                  show Q1 Z p1 h0 n0 _ s₁.heap _
                  rw [e0]
                  refine ⟨?_, N0, rfl⟩
                  simp [own_xml, hc1, hc2, hc3, hc4, hc11, hc12, hc13, hc14]
            · refine OwnEnd.go (fun _ k => XS.icmpNo X0.here hx rfl (hb hby d1_33) rfl (flt hc12).1 k) ?_
              show OwnEnd p e below s _ _ _ (s₁.setTop (mkF m 36 #[.val (.int p1)] []))
              refine OwnEnd.go (fun _ k => XS.iloadN X0.here hx rfl (hb hby d1_36) rfl  k) ?_
              show OwnEnd p e below s _ _ _ (s₁.setTop (mkF m 37 #[.val (.int p1)] [(.int p1)]))
              refine OwnEnd.go (fun _ k => X0.ldcI hx hown (mvT hZ ww24) (g := (mkF m 37 #[.val (.int p1)] [(.int p1)])) rfl (hb hby d1_37) k) ?_
              show OwnEnd p e below s _ _ _ (s₁.setTop (mkF m 39 #[.val (.int p1)] [(.int (65533 : Int32)), (.int p1)]))
              by_cases hc15 : (65533 : Int32) < p1
              · refine OwnEnd.go (fun _ k => XS.icmpNo X0.here hx rfl (hb hby d1_39) rfl (tlt hc15).2.2.2 k) ?_
                show OwnEnd p e below s _ _ _ (s₁.setTop (mkF m 42 #[.val (.int p1)] []))
                refine OwnEnd.go (fun _ k => XS.iloadN X0.here hx rfl (hb hby d1_42) rfl  k) ?_
                show OwnEnd p e below s _ _ _ (s₁.setTop (mkF m 43 #[.val (.int p1)] [(.int p1)]))
                refine OwnEnd.go (fun _ k => X0.ldcI hx hown (mvT hZ ww18) (g := (mkF m 43 #[.val (.int p1)] [(.int p1)])) rfl (hb hby d1_43) k) ?_
                show OwnEnd p e below s _ _ _ (s₁.setTop (mkF m 45 #[.val (.int p1)] [(.int (65536 : Int32)), (.int p1)]))
                by_cases hc16 : p1 < (65536 : Int32)
                · refine OwnEnd.go (fun _ k => XS.icmpYes X0.here hx rfl (pc0 := 45) (pc' := 58) rfl (hb hby d1_45) rfl (tlt hc16).1 (by decide) (by decide) k) ?_
                  show OwnEnd p e below s _ _ _ (s₁.setTop (mkF m 58 #[.val (.int p1)] []))
                  refine OwnEnd.go (fun _ k => XS.iconst X0.here hx rfl (hb hby d1_58) k) ?_
                  show OwnEnd p e below s _ _ _ (s₁.setTop (mkF m 59 #[.val (.int p1)] [(.int (0 : Int32))]))
                  refine ownRetZ X0 hx hlk hret (hb hby d1_59) (by decide) (by decide) (0 : Int32) (by decide) ?_
                  show Q1 Z p1 h0 n0 _ s₁.heap _
                  rw [e0]
                  refine ⟨?_, N0, rfl⟩
                  simp [own_xml, hc1, hc2, hc3, hc4, hc11, hc12, hc15, hc16]
                · refine OwnEnd.go (fun _ k => XS.icmpNo X0.here hx rfl (hb hby d1_45) rfl (flt hc16).1 k) ?_
                  show OwnEnd p e below s _ _ _ (s₁.setTop (mkF m 48 #[.val (.int p1)] []))
                  refine OwnEnd.go (fun _ k => XS.iloadN X0.here hx rfl (hb hby d1_48) rfl  k) ?_
                  show OwnEnd p e below s _ _ _ (s₁.setTop (mkF m 49 #[.val (.int p1)] [(.int p1)]))
                  refine OwnEnd.go (fun _ k => X0.ldcI hx hown (mvT hZ ww25) (g := (mkF m 49 #[.val (.int p1)] [(.int p1)])) rfl (hb hby d1_49) k) ?_
                  show OwnEnd p e below s _ _ _ (s₁.setTop (mkF m 51 #[.val (.int p1)] [(.int (1114111 : Int32)), (.int p1)]))
                  by_cases hc17 : (1114111 : Int32) < p1
                  · refine OwnEnd.go (fun _ k => XS.icmpYes X0.here hx rfl (pc0 := 51) (pc' := 58) rfl (hb hby d1_51) rfl (tlt hc17).2.2.1 (by decide) (by decide) k) ?_
                    show OwnEnd p e below s _ _ _ (s₁.setTop (mkF m 58 #[.val (.int p1)] []))
                    refine OwnEnd.go (fun _ k => XS.iconst X0.here hx rfl (hb hby d1_58) k) ?_
                    show OwnEnd p e below s _ _ _ (s₁.setTop (mkF m 59 #[.val (.int p1)] [(.int (0 : Int32))]))
                    refine ownRetZ X0 hx hlk hret (hb hby d1_59) (by decide) (by decide) (0 : Int32) (by decide) ?_
                    show Q1 Z p1 h0 n0 _ s₁.heap _
                    rw [e0]
                    refine ⟨?_, N0, rfl⟩
                    simp [own_xml, hc1, hc2, hc3, hc4, hc11, hc12, hc15, hc16, hc17]
                  · refine OwnEnd.go (fun _ k => XS.icmpNo X0.here hx rfl (hb hby d1_51) rfl (flt hc17).2.2.1 k) ?_
                    show OwnEnd p e below s _ _ _ (s₁.setTop (mkF m 54 #[.val (.int p1)] []))
                    refine OwnEnd.go (fun _ k => XS.iconst X0.here hx rfl (hb hby d1_54) k) ?_
                    show OwnEnd p e below s _ _ _ (s₁.setTop (mkF m 55 #[.val (.int p1)] [(.int (1 : Int32))]))
                    refine OwnEnd.go (fun _ k => XS.goto X0.here hx rfl (pc0 := 55) (pc' := 59) rfl (hb hby d1_55) (by decide) (by decide) k) ?_
                    show OwnEnd p e below s _ _ _ (s₁.setTop (mkF m 59 #[.val (.int p1)] [(.int (1 : Int32))]))
                    refine ownRetZ X0 hx hlk hret (hb hby d1_59) (by decide) (by decide) (1 : Int32) (by decide) ?_
                    show Q1 Z p1 h0 n0 _ s₁.heap _
                    rw [e0]
                    refine ⟨?_, N0, rfl⟩
                    simp [own_xml, hc1, hc2, hc3, hc4, hc11, hc12, hc15, hc16, hc17]
              · refine OwnEnd.go (fun _ k => XS.icmpYes X0.here hx rfl (pc0 := 39) (pc' := 54) rfl (hb hby d1_39) rfl (flt hc15).2.2.2 (by decide) (by decide) k) ?_
                show OwnEnd p e below s _ _ _ (s₁.setTop (mkF m 54 #[.val (.int p1)] []))
                refine OwnEnd.go (fun _ k => XS.iconst X0.here hx rfl (hb hby d1_54) k) ?_
                show OwnEnd p e below s _ _ _ (s₁.setTop (mkF m 55 #[.val (.int p1)] [(.int (1 : Int32))]))
                refine OwnEnd.go (fun _ k => XS.goto X0.here hx rfl (pc0 := 55) (pc' := 59) rfl (hb hby d1_55) (by decide) (by decide) k) ?_
                show OwnEnd p e below s _ _ _ (s₁.setTop (mkF m 59 #[.val (.int p1)] [(.int (1 : Int32))]))
                refine ownRetZ X0 hx hlk hret (hb hby d1_59) (by decide) (by decide) (1 : Int32) (by decide) ?_
                show Q1 Z p1 h0 n0 _ s₁.heap _
                rw [e0]
                refine ⟨?_, N0, rfl⟩
                simp [own_xml, hc1, hc2, hc3, hc4, hc11, hc12, hc15]
          · refine OwnEnd.go (fun _ k => XS.icmpYes X0.here hx rfl (pc0 := 27) (pc' := 54) rfl (hb hby d1_27) rfl (flt hc11).2.2.2 (by decide) (by decide) k) ?_
            show OwnEnd p e below s _ _ _ (s₁.setTop (mkF m 54 #[.val (.int p1)] []))
            refine OwnEnd.go (fun _ k => XS.iconst X0.here hx rfl (hb hby d1_54) k) ?_
            show OwnEnd p e below s _ _ _ (s₁.setTop (mkF m 55 #[.val (.int p1)] [(.int (1 : Int32))]))
            refine OwnEnd.go (fun _ k => XS.goto X0.here hx rfl (pc0 := 55) (pc' := 59) rfl (hb hby d1_55) (by decide) (by decide) k) ?_
            show OwnEnd p e below s _ _ _ (s₁.setTop (mkF m 59 #[.val (.int p1)] [(.int (1 : Int32))]))
            refine ownRetZ X0 hx hlk hret (hb hby d1_59) (by decide) (by decide) (1 : Int32) (by decide) ?_
            show Q1 Z p1 h0 n0 _ s₁.heap _
            rw [e0]
            refine ⟨?_, N0, rfl⟩
            simp [own_xml, hc1, hc2, hc3, hc4, hc11]
theorem d2_0 : decode method_2_code 0 = .ok (.iload_n 0, 1) := by decide +kernel
theorem d2_1 : decode method_2_code 1 = .ok (.ifCond .ge 5, 3) := by decide +kernel
theorem d2_4 : decode method_2_code 4 = .ok (.iconst 0, 1) := by decide +kernel
theorem d2_5 : decode method_2_code 5 = .ok (.ireturn, 1) := by decide +kernel
theorem d2_6 : decode method_2_code 6 = .ok (.iload_n 0, 1) := by decide +kernel
theorem d2_7 : decode method_2_code 7 = .ok (.ldc 7, 2) := by decide +kernel
theorem d2_9 : decode method_2_code 9 = .ok (.if_icmp .le 5, 3) := by decide +kernel
theorem d2_12 : decode method_2_code 12 = .ok (.iconst 0, 1) := by decide +kernel
theorem d2_13 : decode method_2_code 13 = .ok (.ireturn, 1) := by decide +kernel
theorem d2_14 : decode method_2_code 14 = .ok (.iload_n 0, 1) := by decide +kernel
theorem d2_15 : decode method_2_code 15 = .ok (.bipush 32, 2) := by decide +kernel
theorem d2_17 : decode method_2_code 17 = .ok (.if_icmp .ge 27, 3) := by decide +kernel
theorem d2_20 : decode method_2_code 20 = .ok (.iload_n 0, 1) := by decide +kernel
theorem d2_21 : decode method_2_code 21 = .ok (.bipush 9, 2) := by decide +kernel
theorem d2_23 : decode method_2_code 23 = .ok (.if_icmp .eq 15, 3) := by decide +kernel
theorem d2_26 : decode method_2_code 26 = .ok (.iload_n 0, 1) := by decide +kernel
theorem d2_27 : decode method_2_code 27 = .ok (.bipush 10, 2) := by decide +kernel
theorem d2_29 : decode method_2_code 29 = .ok (.if_icmp .eq 9, 3) := by decide +kernel
theorem d2_32 : decode method_2_code 32 = .ok (.iload_n 0, 1) := by decide +kernel
theorem d2_33 : decode method_2_code 33 = .ok (.bipush 13, 2) := by decide +kernel
theorem d2_35 : decode method_2_code 35 = .ok (.if_icmp .ne 7, 3) := by decide +kernel
theorem d2_38 : decode method_2_code 38 = .ok (.iconst 1, 1) := by decide +kernel
theorem d2_39 : decode method_2_code 39 = .ok (.goto 4, 3) := by decide +kernel
theorem d2_42 : decode method_2_code 42 = .ok (.iconst 0, 1) := by decide +kernel
theorem d2_43 : decode method_2_code 43 = .ok (.ireturn, 1) := by decide +kernel
theorem d2_44 : decode method_2_code 44 = .ok (.iload_n 0, 1) := by decide +kernel
theorem d2_45 : decode method_2_code 45 = .ok (.ldc 8, 2) := by decide +kernel
theorem d2_47 : decode method_2_code 47 = .ok (.if_icmp .lt 11, 3) := by decide +kernel
theorem d2_50 : decode method_2_code 50 = .ok (.iload_n 0, 1) := by decide +kernel
theorem d2_51 : decode method_2_code 51 = .ok (.ldc 9, 2) := by decide +kernel
theorem d2_53 : decode method_2_code 53 = .ok (.if_icmp .gt 5, 3) := by decide +kernel
theorem d2_56 : decode method_2_code 56 = .ok (.iconst 0, 1) := by decide +kernel
theorem d2_57 : decode method_2_code 57 = .ok (.ireturn, 1) := by decide +kernel
theorem d2_58 : decode method_2_code 58 = .ok (.iload_n 0, 1) := by decide +kernel
theorem d2_59 : decode method_2_code 59 = .ok (.ldc 10, 2) := by decide +kernel
theorem d2_61 : decode method_2_code 61 = .ok (.if_icmp .eq 9, 3) := by decide +kernel
theorem d2_64 : decode method_2_code 64 = .ok (.iload_n 0, 1) := by decide +kernel
theorem d2_65 : decode method_2_code 65 = .ok (.ldc 11, 2) := by decide +kernel
theorem d2_67 : decode method_2_code 67 = .ok (.if_icmp .ne 5, 3) := by decide +kernel
theorem d2_70 : decode method_2_code 70 = .ok (.iconst 0, 1) := by decide +kernel
theorem d2_71 : decode method_2_code 71 = .ok (.ireturn, 1) := by decide +kernel
theorem d2_72 : decode method_2_code 72 = .ok (.iconst 1, 1) := by decide +kernel
theorem d2_73 : decode method_2_code 73 = .ok (.ireturn, 1) := by decide +kernel
theorem pn_2 : plainName "com/example/rewoven_tree/rewoventree/storage/XmlCharsIsXmlCharPinLaw" = true := by first | (simp [plainName, overriddenIn]; done) | decide +kernel
theorem ef_2 (m : MethodId) (x0 : Int32) : entryFrame m #[(.int x0)] 1 = mkF m 0 #[.val (.int x0)] [] := by first | (simp [entryFrame, mkF, argsToLocals, Value.category]; done) | rfl
def Q2 (Z : State) (p1 : Int32) (h0 : Heap) (n0 : Nat) (v : Option Value) (h : Heap) (L : List Loc) : Prop := v = some (.int (own_ref p1)) ∧ Fr n0 L ∧ h = h0
set_option maxRecDepth 65536 in
set_option maxHeartbeats 40000000 in
theorem rm2 (l : Launch) (Z : State) (a0 : Array Value) (hw : ∀ d ∈ tables_1, d.before a0 Z = true) (ws : List Jvm.Cond) (p1 : Int32) (h0 : Heap) (n0 : Nat) (Z0 : n0 ≤ h0.size) :
    MetFree l (⟨"com/example/rewoven_tree/rewoventree/storage/XmlCharsIsXmlCharPinLaw", "reference", "(I)Z"⟩ : MethodName) (head1 (Jvm.Cond.code (⟨"com/example/rewoven_tree/rewoventree/storage/XmlCharsIsXmlCharPinLaw", "reference", "(I)Z"⟩ : MethodName) method_2_code 1 (some .boolean) :: ws) ({ frames := 0, cells := 0, slots := 0, locals := 0 } : Room)) (fun a U => a = #[(.int p1)] ∧ Z.Warmed39 U.vm ∧ U.heap = h0) (fun _ _ _ _ _ => True) (fun _ U o U' => ∃ v L, o = .returned v ∧ Q2 Z p1 h0 n0 v U'.heap L ∧ FrameEnd U o U' L ({ frames := 0, cells := 0, slots := 0, locals := 0 } : Room).cells ({ frames := 0, cells := 0, slots := 0, locals := 0 } : Room).slots) := by
  have ww2 := hw _ (List.mem_of_getElem? (i := 2) rfl)
  have ww3 := hw _ (List.mem_of_getElem? (i := 3) rfl)
  have ww6 := hw _ (List.mem_of_getElem? (i := 6) rfl)
  have ww7 := hw _ (List.mem_of_getElem? (i := 7) rfl)
  have ww9 := hw _ (List.mem_of_getElem? (i := 9) rfl)
  refine MetFree.of_bodySF (plainFor_of_name pn_2) hisR ?_
  intro p e s m args below meth c s₁ Bd hml0 hP hK
  obtain ⟨rfl, hZ, hh⟩ := hP
  have hx := Bd.exec
  have hby := Bd.bytes
  have hlk : meth.locks = false := Bd.notSynchronized
  have hret := Bd.returns
  have hml : c.maxLocals = 1 := hml0
  have hown : s.vm.findClass "com/example/rewoven_tree/rewoventree/storage/XmlCharsIsXmlCharPinLaw" = some m.cls := findClass_of_methodNamed Bd.named
  have hnm := (name_of_methodNamed Bd.named Bd.method).1
  have X0 : Stand p l e ({ frames := 0, cells := 0, slots := 0, locals := 0 } : Room) s m #[(.int p1)] below meth c s₁ [] 0 0 := Stand.of_body Bd
  have e0 : s₁.heap = h0 := by rw [← hh, Bd.state]; rfl
  have N0 := Fr.nil n0
  have K0 := Keep.refl h0 []
  show OwnEnd p e below s (Q2 Z p1 h0 n0) ({ frames := 0, cells := 0, slots := 0, locals := 0 } : Room).cells ({ frames := 0, cells := 0, slots := 0, locals := 0 } : Room).slots _
  refine OwnEnd.go (fun _ k => castTop (ef_2 m p1) k) ?_
  show OwnEnd p e below s _ _ _ (s₁.setTop (mkF m 0 #[.val (.int p1)] []))
  refine OwnEnd.go (fun _ k => XS.iloadN X0.here hx rfl (hb hby d2_0) rfl  k) ?_
  show OwnEnd p e below s _ _ _ (s₁.setTop (mkF m 1 #[.val (.int p1)] [(.int p1)]))
  by_cases hc1 : p1 < (0 : Int32)
  · refine OwnEnd.go (fun _ k => XS.ifNo X0.here hx rfl (hb hby d2_1) rfl ((if0 _ _).trans (tlt hc1).2.1) k) ?_
    show OwnEnd p e below s _ _ _ (s₁.setTop (mkF m 4 #[.val (.int p1)] []))
    refine OwnEnd.go (fun _ k => XS.iconst X0.here hx rfl (hb hby d2_4) k) ?_
    show OwnEnd p e below s _ _ _ (s₁.setTop (mkF m 5 #[.val (.int p1)] [(.int (0 : Int32))]))
    refine ownRetZ X0 hx hlk hret (hb hby d2_5) (by decide) (by decide) (0 : Int32) (by decide) ?_
    show Q2 Z p1 h0 n0 _ s₁.heap _
    rw [e0]
    refine ⟨?_, N0, rfl⟩
    simp [own_ref, hc1]
  · refine OwnEnd.go (fun _ k => XS.ifYes X0.here hx rfl (pc0 := 1) (pc' := 6) rfl (hb hby d2_1) rfl ((if0 _ _).trans (flt hc1).2.1) (by decide) (by decide) k) ?_
    show OwnEnd p e below s _ _ _ (s₁.setTop (mkF m 6 #[.val (.int p1)] []))
    refine OwnEnd.go (fun _ k => XS.iloadN X0.here hx rfl (hb hby d2_6) rfl  k) ?_
    show OwnEnd p e below s _ _ _ (s₁.setTop (mkF m 7 #[.val (.int p1)] [(.int p1)]))
    refine OwnEnd.go (fun _ k => X0.ldcI hx hown (mvT hZ ww9) (g := (mkF m 7 #[.val (.int p1)] [(.int p1)])) rfl (hb hby d2_7) k) ?_
    show OwnEnd p e below s _ _ _ (s₁.setTop (mkF m 9 #[.val (.int p1)] [(.int (1114111 : Int32)), (.int p1)]))
    by_cases hc2 : (1114111 : Int32) < p1
    · refine OwnEnd.go (fun _ k => XS.icmpNo X0.here hx rfl (hb hby d2_9) rfl (tlt hc2).2.2.2 k) ?_
      show OwnEnd p e below s _ _ _ (s₁.setTop (mkF m 12 #[.val (.int p1)] []))
      refine OwnEnd.go (fun _ k => XS.iconst X0.here hx rfl (hb hby d2_12) k) ?_
      show OwnEnd p e below s _ _ _ (s₁.setTop (mkF m 13 #[.val (.int p1)] [(.int (0 : Int32))]))
      refine ownRetZ X0 hx hlk hret (hb hby d2_13) (by decide) (by decide) (0 : Int32) (by decide) ?_
      show Q2 Z p1 h0 n0 _ s₁.heap _
      rw [e0]
      refine ⟨?_, N0, rfl⟩
      simp [own_ref, hc1, hc2]
    · refine OwnEnd.go (fun _ k => XS.icmpYes X0.here hx rfl (pc0 := 9) (pc' := 14) rfl (hb hby d2_9) rfl (flt hc2).2.2.2 (by decide) (by decide) k) ?_
      show OwnEnd p e below s _ _ _ (s₁.setTop (mkF m 14 #[.val (.int p1)] []))
      refine OwnEnd.go (fun _ k => XS.iloadN X0.here hx rfl (hb hby d2_14) rfl  k) ?_
      show OwnEnd p e below s _ _ _ (s₁.setTop (mkF m 15 #[.val (.int p1)] [(.int p1)]))
      refine OwnEnd.go (fun _ k => XS.bipush X0.here hx rfl (hb hby d2_15) k) ?_
      show OwnEnd p e below s _ _ _ (s₁.setTop (mkF m 17 #[.val (.int p1)] [(.int (32 : Int32)), (.int p1)]))
      by_cases hc3 : p1 < (32 : Int32)
      · refine OwnEnd.go (fun _ k => XS.icmpNo X0.here hx rfl (hb hby d2_17) rfl (tlt hc3).2.1 k) ?_
        show OwnEnd p e below s _ _ _ (s₁.setTop (mkF m 20 #[.val (.int p1)] []))
        refine OwnEnd.go (fun _ k => XS.iloadN X0.here hx rfl (hb hby d2_20) rfl  k) ?_
        show OwnEnd p e below s _ _ _ (s₁.setTop (mkF m 21 #[.val (.int p1)] [(.int p1)]))
        refine OwnEnd.go (fun _ k => XS.bipush X0.here hx rfl (hb hby d2_21) k) ?_
        show OwnEnd p e below s _ _ _ (s₁.setTop (mkF m 23 #[.val (.int p1)] [(.int (9 : Int32)), (.int p1)]))
        by_cases hc4 : p1 = (9 : Int32)
        · refine OwnEnd.go (fun _ k => XS.icmpYes X0.here hx rfl (pc0 := 23) (pc' := 38) rfl (hb hby d2_23) rfl (teq hc4).1 (by decide) (by decide) k) ?_
          show OwnEnd p e below s _ _ _ (s₁.setTop (mkF m 38 #[.val (.int p1)] []))
          refine OwnEnd.go (fun _ k => XS.iconst X0.here hx rfl (hb hby d2_38) k) ?_
          show OwnEnd p e below s _ _ _ (s₁.setTop (mkF m 39 #[.val (.int p1)] [(.int (1 : Int32))]))
          refine OwnEnd.go (fun _ k => XS.goto X0.here hx rfl (pc0 := 39) (pc' := 43) rfl (hb hby d2_39) (by decide) (by decide) k) ?_
          show OwnEnd p e below s _ _ _ (s₁.setTop (mkF m 43 #[.val (.int p1)] [(.int (1 : Int32))]))
          refine ownRetZ X0 hx hlk hret (hb hby d2_43) (by decide) (by decide) (1 : Int32) (by decide) ?_
          show Q2 Z p1 h0 n0 _ s₁.heap _
          rw [e0]
          refine ⟨?_, N0, rfl⟩
          simp [own_ref, hc1, hc2, hc3, hc4]
        · refine OwnEnd.go (fun _ k => XS.icmpNo X0.here hx rfl (hb hby d2_23) rfl (feq hc4).1 k) ?_
          show OwnEnd p e below s _ _ _ (s₁.setTop (mkF m 26 #[.val (.int p1)] []))
          refine OwnEnd.go (fun _ k => XS.iloadN X0.here hx rfl (hb hby d2_26) rfl  k) ?_
          show OwnEnd p e below s _ _ _ (s₁.setTop (mkF m 27 #[.val (.int p1)] [(.int p1)]))
          refine OwnEnd.go (fun _ k => XS.bipush X0.here hx rfl (hb hby d2_27) k) ?_
          show OwnEnd p e below s _ _ _ (s₁.setTop (mkF m 29 #[.val (.int p1)] [(.int (10 : Int32)), (.int p1)]))
          by_cases hc5 : p1 = (10 : Int32)
          · refine OwnEnd.go (fun _ k => XS.icmpYes X0.here hx rfl (pc0 := 29) (pc' := 38) rfl (hb hby d2_29) rfl (teq hc5).1 (by decide) (by decide) k) ?_
            show OwnEnd p e below s _ _ _ (s₁.setTop (mkF m 38 #[.val (.int p1)] []))
            refine OwnEnd.go (fun _ k => XS.iconst X0.here hx rfl (hb hby d2_38) k) ?_
            show OwnEnd p e below s _ _ _ (s₁.setTop (mkF m 39 #[.val (.int p1)] [(.int (1 : Int32))]))
            refine OwnEnd.go (fun _ k => XS.goto X0.here hx rfl (pc0 := 39) (pc' := 43) rfl (hb hby d2_39) (by decide) (by decide) k) ?_
            show OwnEnd p e below s _ _ _ (s₁.setTop (mkF m 43 #[.val (.int p1)] [(.int (1 : Int32))]))
            refine ownRetZ X0 hx hlk hret (hb hby d2_43) (by decide) (by decide) (1 : Int32) (by decide) ?_
            show Q2 Z p1 h0 n0 _ s₁.heap _
            rw [e0]
            refine ⟨?_, N0, rfl⟩
            simp [own_ref, hc1, hc2, hc3, hc4, hc5]
          · refine OwnEnd.go (fun _ k => XS.icmpNo X0.here hx rfl (hb hby d2_29) rfl (feq hc5).1 k) ?_
            show OwnEnd p e below s _ _ _ (s₁.setTop (mkF m 32 #[.val (.int p1)] []))
            refine OwnEnd.go (fun _ k => XS.iloadN X0.here hx rfl (hb hby d2_32) rfl  k) ?_
            show OwnEnd p e below s _ _ _ (s₁.setTop (mkF m 33 #[.val (.int p1)] [(.int p1)]))
            refine OwnEnd.go (fun _ k => XS.bipush X0.here hx rfl (hb hby d2_33) k) ?_
            show OwnEnd p e below s _ _ _ (s₁.setTop (mkF m 35 #[.val (.int p1)] [(.int (13 : Int32)), (.int p1)]))
            by_cases hc6 : p1 = (13 : Int32)
            · refine OwnEnd.go (fun _ k => XS.icmpNo X0.here hx rfl (hb hby d2_35) rfl (teq hc6).2 k) ?_
              show OwnEnd p e below s _ _ _ (s₁.setTop (mkF m 38 #[.val (.int p1)] []))
              refine OwnEnd.go (fun _ k => XS.iconst X0.here hx rfl (hb hby d2_38) k) ?_
              show OwnEnd p e below s _ _ _ (s₁.setTop (mkF m 39 #[.val (.int p1)] [(.int (1 : Int32))]))
              refine OwnEnd.go (fun _ k => XS.goto X0.here hx rfl (pc0 := 39) (pc' := 43) rfl (hb hby d2_39) (by decide) (by decide) k) ?_
              show OwnEnd p e below s _ _ _ (s₁.setTop (mkF m 43 #[.val (.int p1)] [(.int (1 : Int32))]))
              refine ownRetZ X0 hx hlk hret (hb hby d2_43) (by decide) (by decide) (1 : Int32) (by decide) ?_
              show Q2 Z p1 h0 n0 _ s₁.heap _
              rw [e0]
              refine ⟨?_, N0, rfl⟩
              simp [own_ref, hc1, hc2, hc3, hc4, hc5, hc6]
            · refine OwnEnd.go (fun _ k => XS.icmpYes X0.here hx rfl (pc0 := 35) (pc' := 42) rfl (hb hby d2_35) rfl (feq hc6).2 (by decide) (by decide) k) ?_
              show OwnEnd p e below s _ _ _ (s₁.setTop (mkF m 42 #[.val (.int p1)] []))
              refine OwnEnd.go (fun _ k => XS.iconst X0.here hx rfl (hb hby d2_42) k) ?_
              show OwnEnd p e below s _ _ _ (s₁.setTop (mkF m 43 #[.val (.int p1)] [(.int (0 : Int32))]))
              refine ownRetZ X0 hx hlk hret (hb hby d2_43) (by decide) (by decide) (0 : Int32) (by decide) ?_
              show Q2 Z p1 h0 n0 _ s₁.heap _
              rw [e0]
              refine ⟨?_, N0, rfl⟩
              simp [own_ref, hc1, hc2, hc3, hc4, hc5, hc6]
      · refine OwnEnd.go (fun _ k => XS.icmpYes X0.here hx rfl (pc0 := 17) (pc' := 44) rfl (hb hby d2_17) rfl (flt hc3).2.1 (by decide) (by decide) k) ?_
        show OwnEnd p e below s _ _ _ (s₁.setTop (mkF m 44 #[.val (.int p1)] []))
        refine OwnEnd.go (fun _ k => XS.iloadN X0.here hx rfl (hb hby d2_44) rfl  k) ?_
        show OwnEnd p e below s _ _ _ (s₁.setTop (mkF m 45 #[.val (.int p1)] [(.int p1)]))
        refine OwnEnd.go (fun _ k => X0.ldcI hx hown (mvT hZ ww2) (g := (mkF m 45 #[.val (.int p1)] [(.int p1)])) rfl (hb hby d2_45) k) ?_
        show OwnEnd p e below s _ _ _ (s₁.setTop (mkF m 47 #[.val (.int p1)] [(.int (55296 : Int32)), (.int p1)]))
        by_cases hc7 : p1 < (55296 : Int32)
        · refine OwnEnd.go (fun _ k => XS.icmpYes X0.here hx rfl (pc0 := 47) (pc' := 58) rfl (hb hby d2_47) rfl (tlt hc7).1 (by decide) (by decide) k) ?_
          show OwnEnd p e below s _ _ _ (s₁.setTop (mkF m 58 #[.val (.int p1)] []))
          refine OwnEnd.go (fun _ k => XS.iloadN X0.here hx rfl (hb hby d2_58) rfl  k) ?_
          show OwnEnd p e below s _ _ _ (s₁.setTop (mkF m 59 #[.val (.int p1)] [(.int p1)]))
          refine OwnEnd.go (fun _ k => X0.ldcI hx hown (mvT hZ ww6) (g := (mkF m 59 #[.val (.int p1)] [(.int p1)])) rfl (hb hby d2_59) k) ?_
          show OwnEnd p e below s _ _ _ (s₁.setTop (mkF m 61 #[.val (.int p1)] [(.int (65534 : Int32)), (.int p1)]))
          by_cases hc8 : p1 = (65534 : Int32)
          · refine OwnEnd.go (fun _ k => XS.icmpYes X0.here hx rfl (pc0 := 61) (pc' := 70) rfl (hb hby d2_61) rfl (teq hc8).1 (by decide) (by decide) k) ?_
            show OwnEnd p e below s _ _ _ (s₁.setTop (mkF m 70 #[.val (.int p1)] []))
            refine OwnEnd.go (fun _ k => XS.iconst X0.here hx rfl (hb hby d2_70) k) ?_
            show OwnEnd p e below s _ _ _ (s₁.setTop (mkF m 71 #[.val (.int p1)] [(.int (0 : Int32))]))
            refine ownRetZ X0 hx hlk hret (hb hby d2_71) (by decide) (by decide) (0 : Int32) (by decide) ?_
            show Q2 Z p1 h0 n0 _ s₁.heap _
            rw [e0]
            refine ⟨?_, N0, rfl⟩
            simp [own_ref, hc1, hc2, hc3, hc7, hc8]
          · refine OwnEnd.go (fun _ k => XS.icmpNo X0.here hx rfl (hb hby d2_61) rfl (feq hc8).1 k) ?_
            show OwnEnd p e below s _ _ _ (s₁.setTop (mkF m 64 #[.val (.int p1)] []))
            refine OwnEnd.go (fun _ k => XS.iloadN X0.here hx rfl (hb hby d2_64) rfl  k) ?_
            show OwnEnd p e below s _ _ _ (s₁.setTop (mkF m 65 #[.val (.int p1)] [(.int p1)]))
            refine OwnEnd.go (fun _ k => X0.ldcI hx hown (mvT hZ ww7) (g := (mkF m 65 #[.val (.int p1)] [(.int p1)])) rfl (hb hby d2_65) k) ?_
            show OwnEnd p e below s _ _ _ (s₁.setTop (mkF m 67 #[.val (.int p1)] [(.int (65535 : Int32)), (.int p1)]))
            by_cases hc9 : p1 = (65535 : Int32)
            · refine OwnEnd.go (fun _ k => XS.icmpNo X0.here hx rfl (hb hby d2_67) rfl (teq hc9).2 k) ?_
              show OwnEnd p e below s _ _ _ (s₁.setTop (mkF m 70 #[.val (.int p1)] []))
              refine OwnEnd.go (fun _ k => XS.iconst X0.here hx rfl (hb hby d2_70) k) ?_
              show OwnEnd p e below s _ _ _ (s₁.setTop (mkF m 71 #[.val (.int p1)] [(.int (0 : Int32))]))
              refine ownRetZ X0 hx hlk hret (hb hby d2_71) (by decide) (by decide) (0 : Int32) (by decide) ?_
              show Q2 Z p1 h0 n0 _ s₁.heap _
              rw [e0]
              refine ⟨?_, N0, rfl⟩
              simp [own_ref, hc1, hc2, hc3, hc7, hc8, hc9]
            · refine OwnEnd.go (fun _ k => XS.icmpYes X0.here hx rfl (pc0 := 67) (pc' := 72) rfl (hb hby d2_67) rfl (feq hc9).2 (by decide) (by decide) k) ?_
              show OwnEnd p e below s _ _ _ (s₁.setTop (mkF m 72 #[.val (.int p1)] []))
              refine OwnEnd.go (fun _ k => XS.iconst X0.here hx rfl (hb hby d2_72) k) ?_
              show OwnEnd p e below s _ _ _ (s₁.setTop (mkF m 73 #[.val (.int p1)] [(.int (1 : Int32))]))
              refine ownRetZ X0 hx hlk hret (hb hby d2_73) (by decide) (by decide) (1 : Int32) (by decide) ?_
              show Q2 Z p1 h0 n0 _ s₁.heap _
              rw [e0]
              refine ⟨?_, N0, rfl⟩
              simp [own_ref, hc1, hc2, hc3, hc7, hc8, hc9]
        · refine OwnEnd.go (fun _ k => XS.icmpNo X0.here hx rfl (hb hby d2_47) rfl (flt hc7).1 k) ?_
          show OwnEnd p e below s _ _ _ (s₁.setTop (mkF m 50 #[.val (.int p1)] []))
          refine OwnEnd.go (fun _ k => XS.iloadN X0.here hx rfl (hb hby d2_50) rfl  k) ?_
          show OwnEnd p e below s _ _ _ (s₁.setTop (mkF m 51 #[.val (.int p1)] [(.int p1)]))
          refine OwnEnd.go (fun _ k => X0.ldcI hx hown (mvT hZ ww3) (g := (mkF m 51 #[.val (.int p1)] [(.int p1)])) rfl (hb hby d2_51) k) ?_
          show OwnEnd p e below s _ _ _ (s₁.setTop (mkF m 53 #[.val (.int p1)] [(.int (57343 : Int32)), (.int p1)]))
          by_cases hc10 : (57343 : Int32) < p1
          · refine OwnEnd.go (fun _ k => XS.icmpYes X0.here hx rfl (pc0 := 53) (pc' := 58) rfl (hb hby d2_53) rfl (tlt hc10).2.2.1 (by decide) (by decide) k) ?_
            show OwnEnd p e below s _ _ _ (s₁.setTop (mkF m 58 #[.val (.int p1)] []))
            refine OwnEnd.go (fun _ k => XS.iloadN X0.here hx rfl (hb hby d2_58) rfl  k) ?_
            show OwnEnd p e below s _ _ _ (s₁.setTop (mkF m 59 #[.val (.int p1)] [(.int p1)]))
            refine OwnEnd.go (fun _ k => X0.ldcI hx hown (mvT hZ ww6) (g := (mkF m 59 #[.val (.int p1)] [(.int p1)])) rfl (hb hby d2_59) k) ?_
            show OwnEnd p e below s _ _ _ (s₁.setTop (mkF m 61 #[.val (.int p1)] [(.int (65534 : Int32)), (.int p1)]))
            by_cases hc11 : p1 = (65534 : Int32)
            · refine OwnEnd.go (fun _ k => XS.icmpYes X0.here hx rfl (pc0 := 61) (pc' := 70) rfl (hb hby d2_61) rfl (teq hc11).1 (by decide) (by decide) k) ?_
              show OwnEnd p e below s _ _ _ (s₁.setTop (mkF m 70 #[.val (.int p1)] []))
              refine OwnEnd.go (fun _ k => XS.iconst X0.here hx rfl (hb hby d2_70) k) ?_
              show OwnEnd p e below s _ _ _ (s₁.setTop (mkF m 71 #[.val (.int p1)] [(.int (0 : Int32))]))
              refine ownRetZ X0 hx hlk hret (hb hby d2_71) (by decide) (by decide) (0 : Int32) (by decide) ?_
              show Q2 Z p1 h0 n0 _ s₁.heap _
              rw [e0]
              refine ⟨?_, N0, rfl⟩
              simp [own_ref, hc1, hc2, hc3, hc7, hc10, hc11]
            · refine OwnEnd.go (fun _ k => XS.icmpNo X0.here hx rfl (hb hby d2_61) rfl (feq hc11).1 k) ?_
              show OwnEnd p e below s _ _ _ (s₁.setTop (mkF m 64 #[.val (.int p1)] []))
              refine OwnEnd.go (fun _ k => XS.iloadN X0.here hx rfl (hb hby d2_64) rfl  k) ?_
              show OwnEnd p e below s _ _ _ (s₁.setTop (mkF m 65 #[.val (.int p1)] [(.int p1)]))
              refine OwnEnd.go (fun _ k => X0.ldcI hx hown (mvT hZ ww7) (g := (mkF m 65 #[.val (.int p1)] [(.int p1)])) rfl (hb hby d2_65) k) ?_
              show OwnEnd p e below s _ _ _ (s₁.setTop (mkF m 67 #[.val (.int p1)] [(.int (65535 : Int32)), (.int p1)]))
              by_cases hc12 : p1 = (65535 : Int32)
              · refine OwnEnd.go (fun _ k => XS.icmpNo X0.here hx rfl (hb hby d2_67) rfl (teq hc12).2 k) ?_
                show OwnEnd p e below s _ _ _ (s₁.setTop (mkF m 70 #[.val (.int p1)] []))
                refine OwnEnd.go (fun _ k => XS.iconst X0.here hx rfl (hb hby d2_70) k) ?_
                show OwnEnd p e below s _ _ _ (s₁.setTop (mkF m 71 #[.val (.int p1)] [(.int (0 : Int32))]))
                refine ownRetZ X0 hx hlk hret (hb hby d2_71) (by decide) (by decide) (0 : Int32) (by decide) ?_
                show Q2 Z p1 h0 n0 _ s₁.heap _
                rw [e0]
                refine ⟨?_, N0, rfl⟩
                simp [own_ref, hc1, hc2, hc3, hc7, hc10, hc11, hc12]
              · refine OwnEnd.go (fun _ k => XS.icmpYes X0.here hx rfl (pc0 := 67) (pc' := 72) rfl (hb hby d2_67) rfl (feq hc12).2 (by decide) (by decide) k) ?_
                show OwnEnd p e below s _ _ _ (s₁.setTop (mkF m 72 #[.val (.int p1)] []))
                refine OwnEnd.go (fun _ k => XS.iconst X0.here hx rfl (hb hby d2_72) k) ?_
                show OwnEnd p e below s _ _ _ (s₁.setTop (mkF m 73 #[.val (.int p1)] [(.int (1 : Int32))]))
                refine ownRetZ X0 hx hlk hret (hb hby d2_73) (by decide) (by decide) (1 : Int32) (by decide) ?_
                show Q2 Z p1 h0 n0 _ s₁.heap _
                rw [e0]
                refine ⟨?_, N0, rfl⟩
                simp [own_ref, hc1, hc2, hc3, hc7, hc10, hc11, hc12]
          · refine OwnEnd.go (fun _ k => XS.icmpNo X0.here hx rfl (hb hby d2_53) rfl (flt hc10).2.2.1 k) ?_
            show OwnEnd p e below s _ _ _ (s₁.setTop (mkF m 56 #[.val (.int p1)] []))
            refine OwnEnd.go (fun _ k => XS.iconst X0.here hx rfl (hb hby d2_56) k) ?_
            show OwnEnd p e below s _ _ _ (s₁.setTop (mkF m 57 #[.val (.int p1)] [(.int (0 : Int32))]))
            refine ownRetZ X0 hx hlk hret (hb hby d2_57) (by decide) (by decide) (0 : Int32) (by decide) ?_
            show Q2 Z p1 h0 n0 _ s₁.heap _
            rw [e0]
            refine ⟨?_, N0, rfl⟩
            simp [own_ref, hc1, hc2, hc3, hc7, hc10]
theorem pn_0 : plainName "com/example/rewoven_tree/rewoventree/storage/XmlCharsIsXmlCharPinLaw" = true := by first | (simp [plainName, overriddenIn]; done) | decide +kernel
theorem pd0_0 : parseMethodDescriptor "(I)Z" = some ⟨[.int], some .boolean⟩ := by decide +kernel
theorem ef_0 (m : MethodId) (x0 : Int32) (x1 : Int32) (x2 : Int32) : entryFrame m #[(.int x0), (.int x1), (.int x2)] maxLocals = mkF m 0 #[.val (.int x0), .val (.int x1), .val (.int x2), .unset, .unset, .unset] [] := by first | (simp [entryFrame, mkF, argsToLocals, Value.category, maxLocals]; done) | rfl
def Q0 (Z : State) (p1 : Int32) (p2 : Int32) (p3 : Int32) (h0 : Heap) (n0 : Nat) (v : Option Value) (h : Heap) (L : List Loc) : Prop := v = some (.int 1) ∧ Fr n0 L
set_option maxRecDepth 65536 in
set_option maxHeartbeats 40000000 in
theorem rm0 (l : Launch) (Z : State) (a0 : Array Value) (hw : ∀ d ∈ tables_1, d.before a0 Z = true) (ws : List Jvm.Cond) (p1 : Int32) (p2 : Int32) (p3 : Int32) (h0 : Heap) (n0 : Nat) (Z0 : n0 ≤ h0.size) :
    MetFree l x (head1 (Jvm.Cond.code x code maxLocals ret :: ws) room_1) (fun a U => a = #[(.int p1), (.int p2), (.int p3)] ∧ Z.Warmed39 U.vm ∧ U.heap = h0) (fun _ _ _ _ _ => True) (fun _ U o U' => ∃ v L, o = .returned v ∧ Q0 Z p1 p2 p3 h0 n0 v U'.heap L ∧ FrameEnd U o U' L room_1.cells room_1.slots) := by
  have ww0 := hw _ (List.mem_of_getElem? (i := 0) rfl)
  have ww1 := hw _ (List.mem_of_getElem? (i := 1) rfl)
  have ww2 := hw _ (List.mem_of_getElem? (i := 2) rfl)
  have ww3 := hw _ (List.mem_of_getElem? (i := 3) rfl)
  have ww4 := hw _ (List.mem_of_getElem? (i := 4) rfl)
  have ww5 := hw _ (List.mem_of_getElem? (i := 5) rfl)
  have ww6 := hw _ (List.mem_of_getElem? (i := 6) rfl)
  have ww7 := hw _ (List.mem_of_getElem? (i := 7) rfl)
  have ww8 := hw _ (List.mem_of_getElem? (i := 8) rfl)
  have ww9 := hw _ (List.mem_of_getElem? (i := 9) rfl)
  have ww10 := hw _ (List.mem_of_getElem? (i := 10) rfl)
  have ww11 := hw _ (List.mem_of_getElem? (i := 11) rfl)
  have ww12 := hw _ (List.mem_of_getElem? (i := 12) rfl)
  have ww13 := hw _ (List.mem_of_getElem? (i := 13) rfl)
  have ww14 := hw _ (List.mem_of_getElem? (i := 14) rfl)
  have ww15 := hw _ (List.mem_of_getElem? (i := 15) rfl)
  have ww16 := hw _ (List.mem_of_getElem? (i := 16) rfl)
  have ww19 := hw _ (List.mem_of_getElem? (i := 19) rfl)
  have ww20 := hw _ (List.mem_of_getElem? (i := 20) rfl)
  have ww21 := hw _ (List.mem_of_getElem? (i := 21) rfl)
  have ww22 := hw _ (List.mem_of_getElem? (i := 22) rfl)
  refine MetFree.of_bodySF (plainFor_of_name pn_0) hisR ?_
  intro p e s m args below meth c s₁ Bd hml0 hP hK
  obtain ⟨rfl, hZ, hh⟩ := hP
  have hx := Bd.exec
  have hby := Bd.bytes
  have hlk : meth.locks = false := Bd.notSynchronized
  have hret := Bd.returns
  have hml : c.maxLocals = 6 := hml0
  have hown : s.vm.findClass "com/example/rewoven_tree/rewoventree/storage/XmlCharsIsXmlCharPinLaw" = some m.cls := findClass_of_methodNamed Bd.named
  have hnm := (name_of_methodNamed Bd.named Bd.method).1
  have X0 : Stand p l e room_1 s m #[(.int p1), (.int p2), (.int p3)] below meth c s₁ [] 0 0 := Stand.of_body Bd
  have e0 : s₁.heap = h0 := by rw [← hh, Bd.state]; rfl
  have N0 := Fr.nil n0
  have K0 := Keep.refl h0 []
  show OwnEnd p e below s (Q0 Z p1 p2 p3 h0 n0) room_1.cells room_1.slots _
  refine OwnEnd.go (fun _ k => castTop (ef_0 m p1 p2 p3) k) ?_
  show OwnEnd p e below s _ _ _ (s₁.setTop (mkF m 0 #[.val (.int p1), .val (.int p2), .val (.int p3), .unset, .unset, .unset] []))
  refine OwnEnd.go (fun _ k => XS.bipush X0.here hx rfl (hb hby at_0) k) ?_
  show OwnEnd p e below s _ _ _ (s₁.setTop (mkF m 2 #[.val (.int p1), .val (.int p2), .val (.int p3), .unset, .unset, .unset] [(.int (23 : Int32))]))
  obtain ⟨T1, h1, k1, X1, e1, E1, A1, st1⟩ := newP (aty := .int) X0 hx hZ ww0 e0 (g := (mkF m 2 #[.val (.int p1), .val (.int p2), .val (.int p3), .unset, .unset, .unset] [(.int (23 : Int32))])) rfl (hb hby at_2) rfl (by decide) (cap := 23) (by decide) (by decide) (by decide) (by decide)
  obtain ⟨b1, g1⟩ : ∃ z, z = h0.size := ⟨_, rfl⟩
  rw [← g1] at A1 st1
  have u1 : n0 ≤ b1 := Nat.le_trans Z0 (Nat.le_of_eq g1.symm)
  have v1 : h0.size ≤ b1 := Nat.le_trans K0.1 (Nat.le_of_eq g1.symm)
  have K1 := K0.ext E1
  have Y1 := Nat.le_trans Z0 E1.1
  have V1 : Arv Z h1 b1 k1 .int (23 : Int32) [(.int (0 : Int32)), (.int (0 : Int32)), (.int (0 : Int32)), (.int (0 : Int32)), (.int (0 : Int32)), (.int (0 : Int32)), (.int (0 : Int32)), (.int (0 : Int32)), (.int (0 : Int32)), (.int (0 : Int32)), (.int (0 : Int32)), (.int (0 : Int32)), (.int (0 : Int32)), (.int (0 : Int32)), (.int (0 : Int32)), (.int (0 : Int32)), (.int (0 : Int32)), (.int (0 : Int32)), (.int (0 : Int32)), (.int (0 : Int32)), (.int (0 : Int32)), (.int (0 : Int32)), (.int (0 : Int32))] (.int (0 : Int32)) := (Arv.new A1 (by decide)).pad (pad_rep [] (.int (0 : Int32)) 23)
  refine OwnEnd.go (fun _ k => st1 _ k) ?_
  show OwnEnd p e below s _ _ _ (T1.setTop (mkF m 4 #[.val (.int p1), .val (.int p2), .val (.int p3), .unset, .unset, .unset] [(.ref b1)]))
  refine OwnEnd.go (fun _ k => XS.dup X1.here hx rfl (hb hby at_4) rfl rfl k) ?_
  show OwnEnd p e below s _ _ _ (T1.setTop (mkF m 5 #[.val (.int p1), .val (.int p2), .val (.int p3), .unset, .unset, .unset] [(.ref b1), (.ref b1)]))
  refine OwnEnd.go (fun _ k => XS.iconst X1.here hx rfl (hb hby at_5) k) ?_
  show OwnEnd p e below s _ _ _ (T1.setTop (mkF m 6 #[.val (.int p1), .val (.int p2), .val (.int p3), .unset, .unset, .unset] [(.int (0 : Int32)), (.ref b1), (.ref b1)]))
  refine OwnEnd.go (fun _ k => XS.iconst X1.here hx rfl (hb hby at_6) k) ?_
  show OwnEnd p e below s _ _ _ (T1.setTop (mkF m 7 #[.val (.int p1), .val (.int p2), .val (.int p3), .unset, .unset, .unset] [(.int (0 : Int32)), (.int (0 : Int32)), (.ref b1), (.ref b1)]))
  obtain ⟨c2, Ar2, q2, S2, G2, H2, J2⟩ := id V1
  obtain ⟨T2, h2, X2, e2, W2, st2⟩ := stI X1 hx hZ e1 Ar2 (j := (0 : Int32)) (inb_of S2 ⟨by decide, by decide⟩) (g := (mkF m 7 #[.val (.int p1), .val (.int p2), .val (.int p3), .unset, .unset, .unset] [(.int (0 : Int32)), (.int (0 : Int32)), (.ref b1), (.ref b1)])) rfl rfl (hb hby at_7)
  have V2 : Arv Z h2 b1 k1 .int (23 : Int32) [(.int (0 : Int32)), (.int (0 : Int32)), (.int (0 : Int32)), (.int (0 : Int32)), (.int (0 : Int32)), (.int (0 : Int32)), (.int (0 : Int32)), (.int (0 : Int32)), (.int (0 : Int32)), (.int (0 : Int32)), (.int (0 : Int32)), (.int (0 : Int32)), (.int (0 : Int32)), (.int (0 : Int32)), (.int (0 : Int32)), (.int (0 : Int32)), (.int (0 : Int32)), (.int (0 : Int32)), (.int (0 : Int32)), (.int (0 : Int32)), (.int (0 : Int32)), (.int (0 : Int32)), (.int (0 : Int32))] (.int (0 : Int32)) := Arv.set Ar2 q2 S2 G2 H2 J2 rfl W2 0 rfl (Nat.le_of_ble_eq_true rfl)
  have N2 := Fr.snoc X2 N0 u1
  have K2 := K1.wr W2 (Or.inr v1)
  have Y2 := Nat.le_trans Y1 (Nat.le_of_eq W2.size.symm)
  refine OwnEnd.go (fun _ k => st2 _ k) ?_
  show OwnEnd p e below s _ _ _ (T2.setTop (mkF m 8 #[.val (.int p1), .val (.int p2), .val (.int p3), .unset, .unset, .unset] [(.ref b1)]))
  refine OwnEnd.go (fun _ k => XS.dup X2.here hx rfl (hb hby at_8) rfl rfl k) ?_
  show OwnEnd p e below s _ _ _ (T2.setTop (mkF m 9 #[.val (.int p1), .val (.int p2), .val (.int p3), .unset, .unset, .unset] [(.ref b1), (.ref b1)]))
  refine OwnEnd.go (fun _ k => XS.iconst X2.here hx rfl (hb hby at_9) k) ?_
  show OwnEnd p e below s _ _ _ (T2.setTop (mkF m 10 #[.val (.int p1), .val (.int p2), .val (.int p3), .unset, .unset, .unset] [(.int (1 : Int32)), (.ref b1), (.ref b1)]))
  refine OwnEnd.go (fun _ k => XS.bipush X2.here hx rfl (hb hby at_10) k) ?_
  show OwnEnd p e below s _ _ _ (T2.setTop (mkF m 12 #[.val (.int p1), .val (.int p2), .val (.int p3), .unset, .unset, .unset] [(.int (8 : Int32)), (.int (1 : Int32)), (.ref b1), (.ref b1)]))
  obtain ⟨c4, Ar4, q4, S4, G4, H4, J4⟩ := id V2
  obtain ⟨T4, h4, X4, e4, W4, st4⟩ := stI X2 hx hZ e2 Ar4 (j := (1 : Int32)) (inb_of S4 ⟨by decide, by decide⟩) (g := (mkF m 12 #[.val (.int p1), .val (.int p2), .val (.int p3), .unset, .unset, .unset] [(.int (8 : Int32)), (.int (1 : Int32)), (.ref b1), (.ref b1)])) rfl rfl (hb hby at_12)
  have V4 : Arv Z h4 b1 k1 .int (23 : Int32) [(.int (0 : Int32)), (.int (8 : Int32)), (.int (0 : Int32)), (.int (0 : Int32)), (.int (0 : Int32)), (.int (0 : Int32)), (.int (0 : Int32)), (.int (0 : Int32)), (.int (0 : Int32)), (.int (0 : Int32)), (.int (0 : Int32)), (.int (0 : Int32)), (.int (0 : Int32)), (.int (0 : Int32)), (.int (0 : Int32)), (.int (0 : Int32)), (.int (0 : Int32)), (.int (0 : Int32)), (.int (0 : Int32)), (.int (0 : Int32)), (.int (0 : Int32)), (.int (0 : Int32)), (.int (0 : Int32))] (.int (0 : Int32)) := Arv.set Ar4 q4 S4 G4 H4 J4 rfl W4 1 rfl (Nat.le_of_ble_eq_true rfl)
  have N4 := Fr.snoc X4 N2 u1
  have K4 := K2.wr W4 (Or.inr v1)
  have Y4 := Nat.le_trans Y2 (Nat.le_of_eq W4.size.symm)
  refine OwnEnd.go (fun _ k => st4 _ k) ?_
  show OwnEnd p e below s _ _ _ (T4.setTop (mkF m 13 #[.val (.int p1), .val (.int p2), .val (.int p3), .unset, .unset, .unset] [(.ref b1)]))
  refine OwnEnd.go (fun _ k => XS.dup X4.here hx rfl (hb hby at_13) rfl rfl k) ?_
  show OwnEnd p e below s _ _ _ (T4.setTop (mkF m 14 #[.val (.int p1), .val (.int p2), .val (.int p3), .unset, .unset, .unset] [(.ref b1), (.ref b1)]))
  refine OwnEnd.go (fun _ k => XS.iconst X4.here hx rfl (hb hby at_14) k) ?_
  show OwnEnd p e below s _ _ _ (T4.setTop (mkF m 15 #[.val (.int p1), .val (.int p2), .val (.int p3), .unset, .unset, .unset] [(.int (2 : Int32)), (.ref b1), (.ref b1)]))
  refine OwnEnd.go (fun _ k => XS.bipush X4.here hx rfl (hb hby at_15) k) ?_
  show OwnEnd p e below s _ _ _ (T4.setTop (mkF m 17 #[.val (.int p1), .val (.int p2), .val (.int p3), .unset, .unset, .unset] [(.int (9 : Int32)), (.int (2 : Int32)), (.ref b1), (.ref b1)]))
  obtain ⟨c6, Ar6, q6, S6, G6, H6, J6⟩ := id V4
  obtain ⟨T6, h6, X6, e6, W6, st6⟩ := stI X4 hx hZ e4 Ar6 (j := (2 : Int32)) (inb_of S6 ⟨by decide, by decide⟩) (g := (mkF m 17 #[.val (.int p1), .val (.int p2), .val (.int p3), .unset, .unset, .unset] [(.int (9 : Int32)), (.int (2 : Int32)), (.ref b1), (.ref b1)])) rfl rfl (hb hby at_17)
  have V6 : Arv Z h6 b1 k1 .int (23 : Int32) [(.int (0 : Int32)), (.int (8 : Int32)), (.int (9 : Int32)), (.int (0 : Int32)), (.int (0 : Int32)), (.int (0 : Int32)), (.int (0 : Int32)), (.int (0 : Int32)), (.int (0 : Int32)), (.int (0 : Int32)), (.int (0 : Int32)), (.int (0 : Int32)), (.int (0 : Int32)), (.int (0 : Int32)), (.int (0 : Int32)), (.int (0 : Int32)), (.int (0 : Int32)), (.int (0 : Int32)), (.int (0 : Int32)), (.int (0 : Int32)), (.int (0 : Int32)), (.int (0 : Int32)), (.int (0 : Int32))] (.int (0 : Int32)) := Arv.set Ar6 q6 S6 G6 H6 J6 rfl W6 2 rfl (Nat.le_of_ble_eq_true rfl)
  have N6 := Fr.snoc X6 N4 u1
  have K6 := K4.wr W6 (Or.inr v1)
  have Y6 := Nat.le_trans Y4 (Nat.le_of_eq W6.size.symm)
  refine OwnEnd.go (fun _ k => st6 _ k) ?_
  show OwnEnd p e below s _ _ _ (T6.setTop (mkF m 18 #[.val (.int p1), .val (.int p2), .val (.int p3), .unset, .unset, .unset] [(.ref b1)]))
  refine OwnEnd.go (fun _ k => XS.dup X6.here hx rfl (hb hby at_18) rfl rfl k) ?_
  show OwnEnd p e below s _ _ _ (T6.setTop (mkF m 19 #[.val (.int p1), .val (.int p2), .val (.int p3), .unset, .unset, .unset] [(.ref b1), (.ref b1)]))
  refine OwnEnd.go (fun _ k => XS.iconst X6.here hx rfl (hb hby at_19) k) ?_
  show OwnEnd p e below s _ _ _ (T6.setTop (mkF m 20 #[.val (.int p1), .val (.int p2), .val (.int p3), .unset, .unset, .unset] [(.int (3 : Int32)), (.ref b1), (.ref b1)]))
  refine OwnEnd.go (fun _ k => XS.bipush X6.here hx rfl (hb hby at_20) k) ?_
  show OwnEnd p e below s _ _ _ (T6.setTop (mkF m 22 #[.val (.int p1), .val (.int p2), .val (.int p3), .unset, .unset, .unset] [(.int (10 : Int32)), (.int (3 : Int32)), (.ref b1), (.ref b1)]))
  obtain ⟨c8, Ar8, q8, S8, G8, H8, J8⟩ := id V6
  obtain ⟨T8, h8, X8, e8, W8, st8⟩ := stI X6 hx hZ e6 Ar8 (j := (3 : Int32)) (inb_of S8 ⟨by decide, by decide⟩) (g := (mkF m 22 #[.val (.int p1), .val (.int p2), .val (.int p3), .unset, .unset, .unset] [(.int (10 : Int32)), (.int (3 : Int32)), (.ref b1), (.ref b1)])) rfl rfl (hb hby at_22)
  have V8 : Arv Z h8 b1 k1 .int (23 : Int32) [(.int (0 : Int32)), (.int (8 : Int32)), (.int (9 : Int32)), (.int (10 : Int32)), (.int (0 : Int32)), (.int (0 : Int32)), (.int (0 : Int32)), (.int (0 : Int32)), (.int (0 : Int32)), (.int (0 : Int32)), (.int (0 : Int32)), (.int (0 : Int32)), (.int (0 : Int32)), (.int (0 : Int32)), (.int (0 : Int32)), (.int (0 : Int32)), (.int (0 : Int32)), (.int (0 : Int32)), (.int (0 : Int32)), (.int (0 : Int32)), (.int (0 : Int32)), (.int (0 : Int32)), (.int (0 : Int32))] (.int (0 : Int32)) := Arv.set Ar8 q8 S8 G8 H8 J8 rfl W8 3 rfl (Nat.le_of_ble_eq_true rfl)
  have N8 := Fr.snoc X8 N6 u1
  have K8 := K6.wr W8 (Or.inr v1)
  have Y8 := Nat.le_trans Y6 (Nat.le_of_eq W8.size.symm)
  refine OwnEnd.go (fun _ k => st8 _ k) ?_
  show OwnEnd p e below s _ _ _ (T8.setTop (mkF m 23 #[.val (.int p1), .val (.int p2), .val (.int p3), .unset, .unset, .unset] [(.ref b1)]))
  refine OwnEnd.go (fun _ k => XS.dup X8.here hx rfl (hb hby at_23) rfl rfl k) ?_
  show OwnEnd p e below s _ _ _ (T8.setTop (mkF m 24 #[.val (.int p1), .val (.int p2), .val (.int p3), .unset, .unset, .unset] [(.ref b1), (.ref b1)]))
  refine OwnEnd.go (fun _ k => XS.iconst X8.here hx rfl (hb hby at_24) k) ?_
  show OwnEnd p e below s _ _ _ (T8.setTop (mkF m 25 #[.val (.int p1), .val (.int p2), .val (.int p3), .unset, .unset, .unset] [(.int (4 : Int32)), (.ref b1), (.ref b1)]))
  refine OwnEnd.go (fun _ k => XS.bipush X8.here hx rfl (hb hby at_25) k) ?_
  show OwnEnd p e below s _ _ _ (T8.setTop (mkF m 27 #[.val (.int p1), .val (.int p2), .val (.int p3), .unset, .unset, .unset] [(.int (11 : Int32)), (.int (4 : Int32)), (.ref b1), (.ref b1)]))
  obtain ⟨c10, Ar10, q10, S10, G10, H10, J10⟩ := id V8
  obtain ⟨T10, h10, X10, e10, W10, st10⟩ := stI X8 hx hZ e8 Ar10 (j := (4 : Int32)) (inb_of S10 ⟨by decide, by decide⟩) (g := (mkF m 27 #[.val (.int p1), .val (.int p2), .val (.int p3), .unset, .unset, .unset] [(.int (11 : Int32)), (.int (4 : Int32)), (.ref b1), (.ref b1)])) rfl rfl (hb hby at_27)
  have V10 : Arv Z h10 b1 k1 .int (23 : Int32) [(.int (0 : Int32)), (.int (8 : Int32)), (.int (9 : Int32)), (.int (10 : Int32)), (.int (11 : Int32)), (.int (0 : Int32)), (.int (0 : Int32)), (.int (0 : Int32)), (.int (0 : Int32)), (.int (0 : Int32)), (.int (0 : Int32)), (.int (0 : Int32)), (.int (0 : Int32)), (.int (0 : Int32)), (.int (0 : Int32)), (.int (0 : Int32)), (.int (0 : Int32)), (.int (0 : Int32)), (.int (0 : Int32)), (.int (0 : Int32)), (.int (0 : Int32)), (.int (0 : Int32)), (.int (0 : Int32))] (.int (0 : Int32)) := Arv.set Ar10 q10 S10 G10 H10 J10 rfl W10 4 rfl (Nat.le_of_ble_eq_true rfl)
  have N10 := Fr.snoc X10 N8 u1
  have K10 := K8.wr W10 (Or.inr v1)
  have Y10 := Nat.le_trans Y8 (Nat.le_of_eq W10.size.symm)
  refine OwnEnd.go (fun _ k => st10 _ k) ?_
  show OwnEnd p e below s _ _ _ (T10.setTop (mkF m 28 #[.val (.int p1), .val (.int p2), .val (.int p3), .unset, .unset, .unset] [(.ref b1)]))
  refine OwnEnd.go (fun _ k => XS.dup X10.here hx rfl (hb hby at_28) rfl rfl k) ?_
  show OwnEnd p e below s _ _ _ (T10.setTop (mkF m 29 #[.val (.int p1), .val (.int p2), .val (.int p3), .unset, .unset, .unset] [(.ref b1), (.ref b1)]))
  refine OwnEnd.go (fun _ k => XS.iconst X10.here hx rfl (hb hby at_29) k) ?_
  show OwnEnd p e below s _ _ _ (T10.setTop (mkF m 30 #[.val (.int p1), .val (.int p2), .val (.int p3), .unset, .unset, .unset] [(.int (5 : Int32)), (.ref b1), (.ref b1)]))
  refine OwnEnd.go (fun _ k => XS.bipush X10.here hx rfl (hb hby at_30) k) ?_
  show OwnEnd p e below s _ _ _ (T10.setTop (mkF m 32 #[.val (.int p1), .val (.int p2), .val (.int p3), .unset, .unset, .unset] [(.int (12 : Int32)), (.int (5 : Int32)), (.ref b1), (.ref b1)]))
  obtain ⟨c12, Ar12, q12, S12, G12, H12, J12⟩ := id V10
  obtain ⟨T12, h12, X12, e12, W12, st12⟩ := stI X10 hx hZ e10 Ar12 (j := (5 : Int32)) (inb_of S12 ⟨by decide, by decide⟩) (g := (mkF m 32 #[.val (.int p1), .val (.int p2), .val (.int p3), .unset, .unset, .unset] [(.int (12 : Int32)), (.int (5 : Int32)), (.ref b1), (.ref b1)])) rfl rfl (hb hby at_32)
  have V12 : Arv Z h12 b1 k1 .int (23 : Int32) [(.int (0 : Int32)), (.int (8 : Int32)), (.int (9 : Int32)), (.int (10 : Int32)), (.int (11 : Int32)), (.int (12 : Int32)), (.int (0 : Int32)), (.int (0 : Int32)), (.int (0 : Int32)), (.int (0 : Int32)), (.int (0 : Int32)), (.int (0 : Int32)), (.int (0 : Int32)), (.int (0 : Int32)), (.int (0 : Int32)), (.int (0 : Int32)), (.int (0 : Int32)), (.int (0 : Int32)), (.int (0 : Int32)), (.int (0 : Int32)), (.int (0 : Int32)), (.int (0 : Int32)), (.int (0 : Int32))] (.int (0 : Int32)) := Arv.set Ar12 q12 S12 G12 H12 J12 rfl W12 5 rfl (Nat.le_of_ble_eq_true rfl)
  have N12 := Fr.snoc X12 N10 u1
  have K12 := K10.wr W12 (Or.inr v1)
  have Y12 := Nat.le_trans Y10 (Nat.le_of_eq W12.size.symm)
  refine OwnEnd.go (fun _ k => st12 _ k) ?_
  show OwnEnd p e below s _ _ _ (T12.setTop (mkF m 33 #[.val (.int p1), .val (.int p2), .val (.int p3), .unset, .unset, .unset] [(.ref b1)]))
  refine OwnEnd.go (fun _ k => XS.dup X12.here hx rfl (hb hby at_33) rfl rfl k) ?_
  show OwnEnd p e below s _ _ _ (T12.setTop (mkF m 34 #[.val (.int p1), .val (.int p2), .val (.int p3), .unset, .unset, .unset] [(.ref b1), (.ref b1)]))
  refine OwnEnd.go (fun _ k => XS.bipush X12.here hx rfl (hb hby at_34) k) ?_
  show OwnEnd p e below s _ _ _ (T12.setTop (mkF m 36 #[.val (.int p1), .val (.int p2), .val (.int p3), .unset, .unset, .unset] [(.int (6 : Int32)), (.ref b1), (.ref b1)]))
  refine OwnEnd.go (fun _ k => XS.bipush X12.here hx rfl (hb hby at_36) k) ?_
  show OwnEnd p e below s _ _ _ (T12.setTop (mkF m 38 #[.val (.int p1), .val (.int p2), .val (.int p3), .unset, .unset, .unset] [(.int (13 : Int32)), (.int (6 : Int32)), (.ref b1), (.ref b1)]))
  obtain ⟨c14, Ar14, q14, S14, G14, H14, J14⟩ := id V12
  obtain ⟨T14, h14, X14, e14, W14, st14⟩ := stI X12 hx hZ e12 Ar14 (j := (6 : Int32)) (inb_of S14 ⟨by decide, by decide⟩) (g := (mkF m 38 #[.val (.int p1), .val (.int p2), .val (.int p3), .unset, .unset, .unset] [(.int (13 : Int32)), (.int (6 : Int32)), (.ref b1), (.ref b1)])) rfl rfl (hb hby at_38)
  have V14 : Arv Z h14 b1 k1 .int (23 : Int32) [(.int (0 : Int32)), (.int (8 : Int32)), (.int (9 : Int32)), (.int (10 : Int32)), (.int (11 : Int32)), (.int (12 : Int32)), (.int (13 : Int32)), (.int (0 : Int32)), (.int (0 : Int32)), (.int (0 : Int32)), (.int (0 : Int32)), (.int (0 : Int32)), (.int (0 : Int32)), (.int (0 : Int32)), (.int (0 : Int32)), (.int (0 : Int32)), (.int (0 : Int32)), (.int (0 : Int32)), (.int (0 : Int32)), (.int (0 : Int32)), (.int (0 : Int32)), (.int (0 : Int32)), (.int (0 : Int32))] (.int (0 : Int32)) := Arv.set Ar14 q14 S14 G14 H14 J14 rfl W14 6 rfl (Nat.le_of_ble_eq_true rfl)
  have N14 := Fr.snoc X14 N12 u1
  have K14 := K12.wr W14 (Or.inr v1)
  have Y14 := Nat.le_trans Y12 (Nat.le_of_eq W14.size.symm)
  refine OwnEnd.go (fun _ k => st14 _ k) ?_
  show OwnEnd p e below s _ _ _ (T14.setTop (mkF m 39 #[.val (.int p1), .val (.int p2), .val (.int p3), .unset, .unset, .unset] [(.ref b1)]))
  refine OwnEnd.go (fun _ k => XS.dup X14.here hx rfl (hb hby at_39) rfl rfl k) ?_
  show OwnEnd p e below s _ _ _ (T14.setTop (mkF m 40 #[.val (.int p1), .val (.int p2), .val (.int p3), .unset, .unset, .unset] [(.ref b1), (.ref b1)]))
  refine OwnEnd.go (fun _ k => XS.bipush X14.here hx rfl (hb hby at_40) k) ?_
  show OwnEnd p e below s _ _ _ (T14.setTop (mkF m 42 #[.val (.int p1), .val (.int p2), .val (.int p3), .unset, .unset, .unset] [(.int (7 : Int32)), (.ref b1), (.ref b1)]))
  refine OwnEnd.go (fun _ k => XS.bipush X14.here hx rfl (hb hby at_42) k) ?_
  show OwnEnd p e below s _ _ _ (T14.setTop (mkF m 44 #[.val (.int p1), .val (.int p2), .val (.int p3), .unset, .unset, .unset] [(.int (14 : Int32)), (.int (7 : Int32)), (.ref b1), (.ref b1)]))
  obtain ⟨c16, Ar16, q16, S16, G16, H16, J16⟩ := id V14
  obtain ⟨T16, h16, X16, e16, W16, st16⟩ := stI X14 hx hZ e14 Ar16 (j := (7 : Int32)) (inb_of S16 ⟨by decide, by decide⟩) (g := (mkF m 44 #[.val (.int p1), .val (.int p2), .val (.int p3), .unset, .unset, .unset] [(.int (14 : Int32)), (.int (7 : Int32)), (.ref b1), (.ref b1)])) rfl rfl (hb hby at_44)
  have V16 : Arv Z h16 b1 k1 .int (23 : Int32) [(.int (0 : Int32)), (.int (8 : Int32)), (.int (9 : Int32)), (.int (10 : Int32)), (.int (11 : Int32)), (.int (12 : Int32)), (.int (13 : Int32)), (.int (14 : Int32)), (.int (0 : Int32)), (.int (0 : Int32)), (.int (0 : Int32)), (.int (0 : Int32)), (.int (0 : Int32)), (.int (0 : Int32)), (.int (0 : Int32)), (.int (0 : Int32)), (.int (0 : Int32)), (.int (0 : Int32)), (.int (0 : Int32)), (.int (0 : Int32)), (.int (0 : Int32)), (.int (0 : Int32)), (.int (0 : Int32))] (.int (0 : Int32)) := Arv.set Ar16 q16 S16 G16 H16 J16 rfl W16 7 rfl (Nat.le_of_ble_eq_true rfl)
  have N16 := Fr.snoc X16 N14 u1
  have K16 := K14.wr W16 (Or.inr v1)
  have Y16 := Nat.le_trans Y14 (Nat.le_of_eq W16.size.symm)
  refine OwnEnd.go (fun _ k => st16 _ k) ?_
  show OwnEnd p e below s _ _ _ (T16.setTop (mkF m 45 #[.val (.int p1), .val (.int p2), .val (.int p3), .unset, .unset, .unset] [(.ref b1)]))
  refine OwnEnd.go (fun _ k => XS.dup X16.here hx rfl (hb hby at_45) rfl rfl k) ?_
  show OwnEnd p e below s _ _ _ (T16.setTop (mkF m 46 #[.val (.int p1), .val (.int p2), .val (.int p3), .unset, .unset, .unset] [(.ref b1), (.ref b1)]))
  refine OwnEnd.go (fun _ k => XS.bipush X16.here hx rfl (hb hby at_46) k) ?_
  show OwnEnd p e below s _ _ _ (T16.setTop (mkF m 48 #[.val (.int p1), .val (.int p2), .val (.int p3), .unset, .unset, .unset] [(.int (8 : Int32)), (.ref b1), (.ref b1)]))
  refine OwnEnd.go (fun _ k => XS.bipush X16.here hx rfl (hb hby at_48) k) ?_
  show OwnEnd p e below s _ _ _ (T16.setTop (mkF m 50 #[.val (.int p1), .val (.int p2), .val (.int p3), .unset, .unset, .unset] [(.int (31 : Int32)), (.int (8 : Int32)), (.ref b1), (.ref b1)]))
  obtain ⟨c18, Ar18, q18, S18, G18, H18, J18⟩ := id V16
  obtain ⟨T18, h18, X18, e18, W18, st18⟩ := stI X16 hx hZ e16 Ar18 (j := (8 : Int32)) (inb_of S18 ⟨by decide, by decide⟩) (g := (mkF m 50 #[.val (.int p1), .val (.int p2), .val (.int p3), .unset, .unset, .unset] [(.int (31 : Int32)), (.int (8 : Int32)), (.ref b1), (.ref b1)])) rfl rfl (hb hby at_50)
  have V18 : Arv Z h18 b1 k1 .int (23 : Int32) [(.int (0 : Int32)), (.int (8 : Int32)), (.int (9 : Int32)), (.int (10 : Int32)), (.int (11 : Int32)), (.int (12 : Int32)), (.int (13 : Int32)), (.int (14 : Int32)), (.int (31 : Int32)), (.int (0 : Int32)), (.int (0 : Int32)), (.int (0 : Int32)), (.int (0 : Int32)), (.int (0 : Int32)), (.int (0 : Int32)), (.int (0 : Int32)), (.int (0 : Int32)), (.int (0 : Int32)), (.int (0 : Int32)), (.int (0 : Int32)), (.int (0 : Int32)), (.int (0 : Int32)), (.int (0 : Int32))] (.int (0 : Int32)) := Arv.set Ar18 q18 S18 G18 H18 J18 rfl W18 8 rfl (Nat.le_of_ble_eq_true rfl)
  have N18 := Fr.snoc X18 N16 u1
  have K18 := K16.wr W18 (Or.inr v1)
  have Y18 := Nat.le_trans Y16 (Nat.le_of_eq W18.size.symm)
  refine OwnEnd.go (fun _ k => st18 _ k) ?_
  show OwnEnd p e below s _ _ _ (T18.setTop (mkF m 51 #[.val (.int p1), .val (.int p2), .val (.int p3), .unset, .unset, .unset] [(.ref b1)]))
  refine OwnEnd.go (fun _ k => XS.dup X18.here hx rfl (hb hby at_51) rfl rfl k) ?_
  show OwnEnd p e below s _ _ _ (T18.setTop (mkF m 52 #[.val (.int p1), .val (.int p2), .val (.int p3), .unset, .unset, .unset] [(.ref b1), (.ref b1)]))
  refine OwnEnd.go (fun _ k => XS.bipush X18.here hx rfl (hb hby at_52) k) ?_
  show OwnEnd p e below s _ _ _ (T18.setTop (mkF m 54 #[.val (.int p1), .val (.int p2), .val (.int p3), .unset, .unset, .unset] [(.int (9 : Int32)), (.ref b1), (.ref b1)]))
  refine OwnEnd.go (fun _ k => XS.bipush X18.here hx rfl (hb hby at_54) k) ?_
  show OwnEnd p e below s _ _ _ (T18.setTop (mkF m 56 #[.val (.int p1), .val (.int p2), .val (.int p3), .unset, .unset, .unset] [(.int (32 : Int32)), (.int (9 : Int32)), (.ref b1), (.ref b1)]))
  obtain ⟨c20, Ar20, q20, S20, G20, H20, J20⟩ := id V18
  obtain ⟨T20, h20, X20, e20, W20, st20⟩ := stI X18 hx hZ e18 Ar20 (j := (9 : Int32)) (inb_of S20 ⟨by decide, by decide⟩) (g := (mkF m 56 #[.val (.int p1), .val (.int p2), .val (.int p3), .unset, .unset, .unset] [(.int (32 : Int32)), (.int (9 : Int32)), (.ref b1), (.ref b1)])) rfl rfl (hb hby at_56)
  have V20 : Arv Z h20 b1 k1 .int (23 : Int32) [(.int (0 : Int32)), (.int (8 : Int32)), (.int (9 : Int32)), (.int (10 : Int32)), (.int (11 : Int32)), (.int (12 : Int32)), (.int (13 : Int32)), (.int (14 : Int32)), (.int (31 : Int32)), (.int (32 : Int32)), (.int (0 : Int32)), (.int (0 : Int32)), (.int (0 : Int32)), (.int (0 : Int32)), (.int (0 : Int32)), (.int (0 : Int32)), (.int (0 : Int32)), (.int (0 : Int32)), (.int (0 : Int32)), (.int (0 : Int32)), (.int (0 : Int32)), (.int (0 : Int32)), (.int (0 : Int32))] (.int (0 : Int32)) := Arv.set Ar20 q20 S20 G20 H20 J20 rfl W20 9 rfl (Nat.le_of_ble_eq_true rfl)
  have N20 := Fr.snoc X20 N18 u1
  have K20 := K18.wr W20 (Or.inr v1)
  have Y20 := Nat.le_trans Y18 (Nat.le_of_eq W20.size.symm)
  refine OwnEnd.go (fun _ k => st20 _ k) ?_
  show OwnEnd p e below s _ _ _ (T20.setTop (mkF m 57 #[.val (.int p1), .val (.int p2), .val (.int p3), .unset, .unset, .unset] [(.ref b1)]))
  refine OwnEnd.go (fun _ k => XS.dup X20.here hx rfl (hb hby at_57) rfl rfl k) ?_
  show OwnEnd p e below s _ _ _ (T20.setTop (mkF m 58 #[.val (.int p1), .val (.int p2), .val (.int p3), .unset, .unset, .unset] [(.ref b1), (.ref b1)]))
  refine OwnEnd.go (fun _ k => XS.bipush X20.here hx rfl (hb hby at_58) k) ?_
  show OwnEnd p e below s _ _ _ (T20.setTop (mkF m 60 #[.val (.int p1), .val (.int p2), .val (.int p3), .unset, .unset, .unset] [(.int (10 : Int32)), (.ref b1), (.ref b1)]))
  refine OwnEnd.go (fun _ k => X20.ldcI hx hown (mvT hZ ww1) (g := (mkF m 60 #[.val (.int p1), .val (.int p2), .val (.int p3), .unset, .unset, .unset] [(.int (10 : Int32)), (.ref b1), (.ref b1)])) rfl (hb hby at_60) k) ?_
  show OwnEnd p e below s _ _ _ (T20.setTop (mkF m 62 #[.val (.int p1), .val (.int p2), .val (.int p3), .unset, .unset, .unset] [(.int (55295 : Int32)), (.int (10 : Int32)), (.ref b1), (.ref b1)]))
  obtain ⟨c22, Ar22, q22, S22, G22, H22, J22⟩ := id V20
  obtain ⟨T22, h22, X22, e22, W22, st22⟩ := stI X20 hx hZ e20 Ar22 (j := (10 : Int32)) (inb_of S22 ⟨by decide, by decide⟩) (g := (mkF m 62 #[.val (.int p1), .val (.int p2), .val (.int p3), .unset, .unset, .unset] [(.int (55295 : Int32)), (.int (10 : Int32)), (.ref b1), (.ref b1)])) rfl rfl (hb hby at_62)
  have V22 : Arv Z h22 b1 k1 .int (23 : Int32) [(.int (0 : Int32)), (.int (8 : Int32)), (.int (9 : Int32)), (.int (10 : Int32)), (.int (11 : Int32)), (.int (12 : Int32)), (.int (13 : Int32)), (.int (14 : Int32)), (.int (31 : Int32)), (.int (32 : Int32)), (.int (55295 : Int32)), (.int (0 : Int32)), (.int (0 : Int32)), (.int (0 : Int32)), (.int (0 : Int32)), (.int (0 : Int32)), (.int (0 : Int32)), (.int (0 : Int32)), (.int (0 : Int32)), (.int (0 : Int32)), (.int (0 : Int32)), (.int (0 : Int32)), (.int (0 : Int32))] (.int (0 : Int32)) := Arv.set Ar22 q22 S22 G22 H22 J22 rfl W22 10 rfl (Nat.le_of_ble_eq_true rfl)
  have N22 := Fr.snoc X22 N20 u1
  have K22 := K20.wr W22 (Or.inr v1)
  have Y22 := Nat.le_trans Y20 (Nat.le_of_eq W22.size.symm)
  refine OwnEnd.go (fun _ k => st22 _ k) ?_
  show OwnEnd p e below s _ _ _ (T22.setTop (mkF m 63 #[.val (.int p1), .val (.int p2), .val (.int p3), .unset, .unset, .unset] [(.ref b1)]))
  refine OwnEnd.go (fun _ k => XS.dup X22.here hx rfl (hb hby at_63) rfl rfl k) ?_
  show OwnEnd p e below s _ _ _ (T22.setTop (mkF m 64 #[.val (.int p1), .val (.int p2), .val (.int p3), .unset, .unset, .unset] [(.ref b1), (.ref b1)]))
  refine OwnEnd.go (fun _ k => XS.bipush X22.here hx rfl (hb hby at_64) k) ?_
  show OwnEnd p e below s _ _ _ (T22.setTop (mkF m 66 #[.val (.int p1), .val (.int p2), .val (.int p3), .unset, .unset, .unset] [(.int (11 : Int32)), (.ref b1), (.ref b1)]))
  refine OwnEnd.go (fun _ k => X22.ldcI hx hown (mvT hZ ww2) (g := (mkF m 66 #[.val (.int p1), .val (.int p2), .val (.int p3), .unset, .unset, .unset] [(.int (11 : Int32)), (.ref b1), (.ref b1)])) rfl (hb hby at_66) k) ?_
  show OwnEnd p e below s _ _ _ (T22.setTop (mkF m 68 #[.val (.int p1), .val (.int p2), .val (.int p3), .unset, .unset, .unset] [(.int (55296 : Int32)), (.int (11 : Int32)), (.ref b1), (.ref b1)]))
  obtain ⟨c24, Ar24, q24, S24, G24, H24, J24⟩ := id V22
  obtain ⟨T24, h24, X24, e24, W24, st24⟩ := stI X22 hx hZ e22 Ar24 (j := (11 : Int32)) (inb_of S24 ⟨by decide, by decide⟩) (g := (mkF m 68 #[.val (.int p1), .val (.int p2), .val (.int p3), .unset, .unset, .unset] [(.int (55296 : Int32)), (.int (11 : Int32)), (.ref b1), (.ref b1)])) rfl rfl (hb hby at_68)
  have V24 : Arv Z h24 b1 k1 .int (23 : Int32) [(.int (0 : Int32)), (.int (8 : Int32)), (.int (9 : Int32)), (.int (10 : Int32)), (.int (11 : Int32)), (.int (12 : Int32)), (.int (13 : Int32)), (.int (14 : Int32)), (.int (31 : Int32)), (.int (32 : Int32)), (.int (55295 : Int32)), (.int (55296 : Int32)), (.int (0 : Int32)), (.int (0 : Int32)), (.int (0 : Int32)), (.int (0 : Int32)), (.int (0 : Int32)), (.int (0 : Int32)), (.int (0 : Int32)), (.int (0 : Int32)), (.int (0 : Int32)), (.int (0 : Int32)), (.int (0 : Int32))] (.int (0 : Int32)) := Arv.set Ar24 q24 S24 G24 H24 J24 rfl W24 11 rfl (Nat.le_of_ble_eq_true rfl)
  have N24 := Fr.snoc X24 N22 u1
  have K24 := K22.wr W24 (Or.inr v1)
  have Y24 := Nat.le_trans Y22 (Nat.le_of_eq W24.size.symm)
  refine OwnEnd.go (fun _ k => st24 _ k) ?_
  show OwnEnd p e below s _ _ _ (T24.setTop (mkF m 69 #[.val (.int p1), .val (.int p2), .val (.int p3), .unset, .unset, .unset] [(.ref b1)]))
  refine OwnEnd.go (fun _ k => XS.dup X24.here hx rfl (hb hby at_69) rfl rfl k) ?_
  show OwnEnd p e below s _ _ _ (T24.setTop (mkF m 70 #[.val (.int p1), .val (.int p2), .val (.int p3), .unset, .unset, .unset] [(.ref b1), (.ref b1)]))
  refine OwnEnd.go (fun _ k => XS.bipush X24.here hx rfl (hb hby at_70) k) ?_
  show OwnEnd p e below s _ _ _ (T24.setTop (mkF m 72 #[.val (.int p1), .val (.int p2), .val (.int p3), .unset, .unset, .unset] [(.int (12 : Int32)), (.ref b1), (.ref b1)]))
  refine OwnEnd.go (fun _ k => X24.ldcI hx hown (mvT hZ ww3) (g := (mkF m 72 #[.val (.int p1), .val (.int p2), .val (.int p3), .unset, .unset, .unset] [(.int (12 : Int32)), (.ref b1), (.ref b1)])) rfl (hb hby at_72) k) ?_
  show OwnEnd p e below s _ _ _ (T24.setTop (mkF m 74 #[.val (.int p1), .val (.int p2), .val (.int p3), .unset, .unset, .unset] [(.int (57343 : Int32)), (.int (12 : Int32)), (.ref b1), (.ref b1)]))
  obtain ⟨c26, Ar26, q26, S26, G26, H26, J26⟩ := id V24
  obtain ⟨T26, h26, X26, e26, W26, st26⟩ := stI X24 hx hZ e24 Ar26 (j := (12 : Int32)) (inb_of S26 ⟨by decide, by decide⟩) (g := (mkF m 74 #[.val (.int p1), .val (.int p2), .val (.int p3), .unset, .unset, .unset] [(.int (57343 : Int32)), (.int (12 : Int32)), (.ref b1), (.ref b1)])) rfl rfl (hb hby at_74)
  have V26 : Arv Z h26 b1 k1 .int (23 : Int32) [(.int (0 : Int32)), (.int (8 : Int32)), (.int (9 : Int32)), (.int (10 : Int32)), (.int (11 : Int32)), (.int (12 : Int32)), (.int (13 : Int32)), (.int (14 : Int32)), (.int (31 : Int32)), (.int (32 : Int32)), (.int (55295 : Int32)), (.int (55296 : Int32)), (.int (57343 : Int32)), (.int (0 : Int32)), (.int (0 : Int32)), (.int (0 : Int32)), (.int (0 : Int32)), (.int (0 : Int32)), (.int (0 : Int32)), (.int (0 : Int32)), (.int (0 : Int32)), (.int (0 : Int32)), (.int (0 : Int32))] (.int (0 : Int32)) := Arv.set Ar26 q26 S26 G26 H26 J26 rfl W26 12 rfl (Nat.le_of_ble_eq_true rfl)
  have N26 := Fr.snoc X26 N24 u1
  have K26 := K24.wr W26 (Or.inr v1)
  have Y26 := Nat.le_trans Y24 (Nat.le_of_eq W26.size.symm)
  refine OwnEnd.go (fun _ k => st26 _ k) ?_
  show OwnEnd p e below s _ _ _ (T26.setTop (mkF m 75 #[.val (.int p1), .val (.int p2), .val (.int p3), .unset, .unset, .unset] [(.ref b1)]))
  refine OwnEnd.go (fun _ k => XS.dup X26.here hx rfl (hb hby at_75) rfl rfl k) ?_
  show OwnEnd p e below s _ _ _ (T26.setTop (mkF m 76 #[.val (.int p1), .val (.int p2), .val (.int p3), .unset, .unset, .unset] [(.ref b1), (.ref b1)]))
  refine OwnEnd.go (fun _ k => XS.bipush X26.here hx rfl (hb hby at_76) k) ?_
  show OwnEnd p e below s _ _ _ (T26.setTop (mkF m 78 #[.val (.int p1), .val (.int p2), .val (.int p3), .unset, .unset, .unset] [(.int (13 : Int32)), (.ref b1), (.ref b1)]))
  refine OwnEnd.go (fun _ k => X26.ldcI hx hown (mvT hZ ww4) (g := (mkF m 78 #[.val (.int p1), .val (.int p2), .val (.int p3), .unset, .unset, .unset] [(.int (13 : Int32)), (.ref b1), (.ref b1)])) rfl (hb hby at_78) k) ?_
  show OwnEnd p e below s _ _ _ (T26.setTop (mkF m 80 #[.val (.int p1), .val (.int p2), .val (.int p3), .unset, .unset, .unset] [(.int (57344 : Int32)), (.int (13 : Int32)), (.ref b1), (.ref b1)]))
  obtain ⟨c28, Ar28, q28, S28, G28, H28, J28⟩ := id V26
  obtain ⟨T28, h28, X28, e28, W28, st28⟩ := stI X26 hx hZ e26 Ar28 (j := (13 : Int32)) (inb_of S28 ⟨by decide, by decide⟩) (g := (mkF m 80 #[.val (.int p1), .val (.int p2), .val (.int p3), .unset, .unset, .unset] [(.int (57344 : Int32)), (.int (13 : Int32)), (.ref b1), (.ref b1)])) rfl rfl (hb hby at_80)
  have V28 : Arv Z h28 b1 k1 .int (23 : Int32) [(.int (0 : Int32)), (.int (8 : Int32)), (.int (9 : Int32)), (.int (10 : Int32)), (.int (11 : Int32)), (.int (12 : Int32)), (.int (13 : Int32)), (.int (14 : Int32)), (.int (31 : Int32)), (.int (32 : Int32)), (.int (55295 : Int32)), (.int (55296 : Int32)), (.int (57343 : Int32)), (.int (57344 : Int32)), (.int (0 : Int32)), (.int (0 : Int32)), (.int (0 : Int32)), (.int (0 : Int32)), (.int (0 : Int32)), (.int (0 : Int32)), (.int (0 : Int32)), (.int (0 : Int32)), (.int (0 : Int32))] (.int (0 : Int32)) := Arv.set Ar28 q28 S28 G28 H28 J28 rfl W28 13 rfl (Nat.le_of_ble_eq_true rfl)
  have N28 := Fr.snoc X28 N26 u1
  have K28 := K26.wr W28 (Or.inr v1)
  have Y28 := Nat.le_trans Y26 (Nat.le_of_eq W28.size.symm)
  refine OwnEnd.go (fun _ k => st28 _ k) ?_
  show OwnEnd p e below s _ _ _ (T28.setTop (mkF m 81 #[.val (.int p1), .val (.int p2), .val (.int p3), .unset, .unset, .unset] [(.ref b1)]))
  refine OwnEnd.go (fun _ k => XS.dup X28.here hx rfl (hb hby at_81) rfl rfl k) ?_
  show OwnEnd p e below s _ _ _ (T28.setTop (mkF m 82 #[.val (.int p1), .val (.int p2), .val (.int p3), .unset, .unset, .unset] [(.ref b1), (.ref b1)]))
  refine OwnEnd.go (fun _ k => XS.bipush X28.here hx rfl (hb hby at_82) k) ?_
  show OwnEnd p e below s _ _ _ (T28.setTop (mkF m 84 #[.val (.int p1), .val (.int p2), .val (.int p3), .unset, .unset, .unset] [(.int (14 : Int32)), (.ref b1), (.ref b1)]))
  refine OwnEnd.go (fun _ k => X28.ldcI hx hown (mvT hZ ww5) (g := (mkF m 84 #[.val (.int p1), .val (.int p2), .val (.int p3), .unset, .unset, .unset] [(.int (14 : Int32)), (.ref b1), (.ref b1)])) rfl (hb hby at_84) k) ?_
  show OwnEnd p e below s _ _ _ (T28.setTop (mkF m 86 #[.val (.int p1), .val (.int p2), .val (.int p3), .unset, .unset, .unset] [(.int (65533 : Int32)), (.int (14 : Int32)), (.ref b1), (.ref b1)]))
  obtain ⟨c30, Ar30, q30, S30, G30, H30, J30⟩ := id V28
  obtain ⟨T30, h30, X30, e30, W30, st30⟩ := stI X28 hx hZ e28 Ar30 (j := (14 : Int32)) (inb_of S30 ⟨by decide, by decide⟩) (g := (mkF m 86 #[.val (.int p1), .val (.int p2), .val (.int p3), .unset, .unset, .unset] [(.int (65533 : Int32)), (.int (14 : Int32)), (.ref b1), (.ref b1)])) rfl rfl (hb hby at_86)
  have V30 : Arv Z h30 b1 k1 .int (23 : Int32) [(.int (0 : Int32)), (.int (8 : Int32)), (.int (9 : Int32)), (.int (10 : Int32)), (.int (11 : Int32)), (.int (12 : Int32)), (.int (13 : Int32)), (.int (14 : Int32)), (.int (31 : Int32)), (.int (32 : Int32)), (.int (55295 : Int32)), (.int (55296 : Int32)), (.int (57343 : Int32)), (.int (57344 : Int32)), (.int (65533 : Int32)), (.int (0 : Int32)), (.int (0 : Int32)), (.int (0 : Int32)), (.int (0 : Int32)), (.int (0 : Int32)), (.int (0 : Int32)), (.int (0 : Int32)), (.int (0 : Int32))] (.int (0 : Int32)) := Arv.set Ar30 q30 S30 G30 H30 J30 rfl W30 14 rfl (Nat.le_of_ble_eq_true rfl)
  have N30 := Fr.snoc X30 N28 u1
  have K30 := K28.wr W30 (Or.inr v1)
  have Y30 := Nat.le_trans Y28 (Nat.le_of_eq W30.size.symm)
  refine OwnEnd.go (fun _ k => st30 _ k) ?_
  show OwnEnd p e below s _ _ _ (T30.setTop (mkF m 87 #[.val (.int p1), .val (.int p2), .val (.int p3), .unset, .unset, .unset] [(.ref b1)]))
  refine OwnEnd.go (fun _ k => XS.dup X30.here hx rfl (hb hby at_87) rfl rfl k) ?_
  show OwnEnd p e below s _ _ _ (T30.setTop (mkF m 88 #[.val (.int p1), .val (.int p2), .val (.int p3), .unset, .unset, .unset] [(.ref b1), (.ref b1)]))
  refine OwnEnd.go (fun _ k => XS.bipush X30.here hx rfl (hb hby at_88) k) ?_
  show OwnEnd p e below s _ _ _ (T30.setTop (mkF m 90 #[.val (.int p1), .val (.int p2), .val (.int p3), .unset, .unset, .unset] [(.int (15 : Int32)), (.ref b1), (.ref b1)]))
  refine OwnEnd.go (fun _ k => X30.ldcI hx hown (mvT hZ ww6) (g := (mkF m 90 #[.val (.int p1), .val (.int p2), .val (.int p3), .unset, .unset, .unset] [(.int (15 : Int32)), (.ref b1), (.ref b1)])) rfl (hb hby at_90) k) ?_
  show OwnEnd p e below s _ _ _ (T30.setTop (mkF m 92 #[.val (.int p1), .val (.int p2), .val (.int p3), .unset, .unset, .unset] [(.int (65534 : Int32)), (.int (15 : Int32)), (.ref b1), (.ref b1)]))
  obtain ⟨c32, Ar32, q32, S32, G32, H32, J32⟩ := id V30
  obtain ⟨T32, h32, X32, e32, W32, st32⟩ := stI X30 hx hZ e30 Ar32 (j := (15 : Int32)) (inb_of S32 ⟨by decide, by decide⟩) (g := (mkF m 92 #[.val (.int p1), .val (.int p2), .val (.int p3), .unset, .unset, .unset] [(.int (65534 : Int32)), (.int (15 : Int32)), (.ref b1), (.ref b1)])) rfl rfl (hb hby at_92)
  have V32 : Arv Z h32 b1 k1 .int (23 : Int32) [(.int (0 : Int32)), (.int (8 : Int32)), (.int (9 : Int32)), (.int (10 : Int32)), (.int (11 : Int32)), (.int (12 : Int32)), (.int (13 : Int32)), (.int (14 : Int32)), (.int (31 : Int32)), (.int (32 : Int32)), (.int (55295 : Int32)), (.int (55296 : Int32)), (.int (57343 : Int32)), (.int (57344 : Int32)), (.int (65533 : Int32)), (.int (65534 : Int32)), (.int (0 : Int32)), (.int (0 : Int32)), (.int (0 : Int32)), (.int (0 : Int32)), (.int (0 : Int32)), (.int (0 : Int32)), (.int (0 : Int32))] (.int (0 : Int32)) := Arv.set Ar32 q32 S32 G32 H32 J32 rfl W32 15 rfl (Nat.le_of_ble_eq_true rfl)
  have N32 := Fr.snoc X32 N30 u1
  have K32 := K30.wr W32 (Or.inr v1)
  have Y32 := Nat.le_trans Y30 (Nat.le_of_eq W32.size.symm)
  refine OwnEnd.go (fun _ k => st32 _ k) ?_
  show OwnEnd p e below s _ _ _ (T32.setTop (mkF m 93 #[.val (.int p1), .val (.int p2), .val (.int p3), .unset, .unset, .unset] [(.ref b1)]))
  refine OwnEnd.go (fun _ k => XS.dup X32.here hx rfl (hb hby at_93) rfl rfl k) ?_
  show OwnEnd p e below s _ _ _ (T32.setTop (mkF m 94 #[.val (.int p1), .val (.int p2), .val (.int p3), .unset, .unset, .unset] [(.ref b1), (.ref b1)]))
  refine OwnEnd.go (fun _ k => XS.bipush X32.here hx rfl (hb hby at_94) k) ?_
  show OwnEnd p e below s _ _ _ (T32.setTop (mkF m 96 #[.val (.int p1), .val (.int p2), .val (.int p3), .unset, .unset, .unset] [(.int (16 : Int32)), (.ref b1), (.ref b1)]))
  refine OwnEnd.go (fun _ k => X32.ldcI hx hown (mvT hZ ww7) (g := (mkF m 96 #[.val (.int p1), .val (.int p2), .val (.int p3), .unset, .unset, .unset] [(.int (16 : Int32)), (.ref b1), (.ref b1)])) rfl (hb hby at_96) k) ?_
  show OwnEnd p e below s _ _ _ (T32.setTop (mkF m 98 #[.val (.int p1), .val (.int p2), .val (.int p3), .unset, .unset, .unset] [(.int (65535 : Int32)), (.int (16 : Int32)), (.ref b1), (.ref b1)]))
  obtain ⟨c34, Ar34, q34, S34, G34, H34, J34⟩ := id V32
  obtain ⟨T34, h34, X34, e34, W34, st34⟩ := stI X32 hx hZ e32 Ar34 (j := (16 : Int32)) (inb_of S34 ⟨by decide, by decide⟩) (g := (mkF m 98 #[.val (.int p1), .val (.int p2), .val (.int p3), .unset, .unset, .unset] [(.int (65535 : Int32)), (.int (16 : Int32)), (.ref b1), (.ref b1)])) rfl rfl (hb hby at_98)
  have V34 : Arv Z h34 b1 k1 .int (23 : Int32) [(.int (0 : Int32)), (.int (8 : Int32)), (.int (9 : Int32)), (.int (10 : Int32)), (.int (11 : Int32)), (.int (12 : Int32)), (.int (13 : Int32)), (.int (14 : Int32)), (.int (31 : Int32)), (.int (32 : Int32)), (.int (55295 : Int32)), (.int (55296 : Int32)), (.int (57343 : Int32)), (.int (57344 : Int32)), (.int (65533 : Int32)), (.int (65534 : Int32)), (.int (65535 : Int32)), (.int (0 : Int32)), (.int (0 : Int32)), (.int (0 : Int32)), (.int (0 : Int32)), (.int (0 : Int32)), (.int (0 : Int32))] (.int (0 : Int32)) := Arv.set Ar34 q34 S34 G34 H34 J34 rfl W34 16 rfl (Nat.le_of_ble_eq_true rfl)
  have N34 := Fr.snoc X34 N32 u1
  have K34 := K32.wr W34 (Or.inr v1)
  have Y34 := Nat.le_trans Y32 (Nat.le_of_eq W34.size.symm)
  refine OwnEnd.go (fun _ k => st34 _ k) ?_
  show OwnEnd p e below s _ _ _ (T34.setTop (mkF m 99 #[.val (.int p1), .val (.int p2), .val (.int p3), .unset, .unset, .unset] [(.ref b1)]))
  refine OwnEnd.go (fun _ k => XS.dup X34.here hx rfl (hb hby at_99) rfl rfl k) ?_
  show OwnEnd p e below s _ _ _ (T34.setTop (mkF m 100 #[.val (.int p1), .val (.int p2), .val (.int p3), .unset, .unset, .unset] [(.ref b1), (.ref b1)]))
  refine OwnEnd.go (fun _ k => XS.bipush X34.here hx rfl (hb hby at_100) k) ?_
  show OwnEnd p e below s _ _ _ (T34.setTop (mkF m 102 #[.val (.int p1), .val (.int p2), .val (.int p3), .unset, .unset, .unset] [(.int (17 : Int32)), (.ref b1), (.ref b1)]))
  refine OwnEnd.go (fun _ k => X34.ldcI hx hown (mvT hZ ww8) (g := (mkF m 102 #[.val (.int p1), .val (.int p2), .val (.int p3), .unset, .unset, .unset] [(.int (17 : Int32)), (.ref b1), (.ref b1)])) rfl (hb hby at_102) k) ?_
  show OwnEnd p e below s _ _ _ (T34.setTop (mkF m 104 #[.val (.int p1), .val (.int p2), .val (.int p3), .unset, .unset, .unset] [(.int (65536 : Int32)), (.int (17 : Int32)), (.ref b1), (.ref b1)]))
  obtain ⟨c36, Ar36, q36, S36, G36, H36, J36⟩ := id V34
  obtain ⟨T36, h36, X36, e36, W36, st36⟩ := stI X34 hx hZ e34 Ar36 (j := (17 : Int32)) (inb_of S36 ⟨by decide, by decide⟩) (g := (mkF m 104 #[.val (.int p1), .val (.int p2), .val (.int p3), .unset, .unset, .unset] [(.int (65536 : Int32)), (.int (17 : Int32)), (.ref b1), (.ref b1)])) rfl rfl (hb hby at_104)
  have V36 : Arv Z h36 b1 k1 .int (23 : Int32) [(.int (0 : Int32)), (.int (8 : Int32)), (.int (9 : Int32)), (.int (10 : Int32)), (.int (11 : Int32)), (.int (12 : Int32)), (.int (13 : Int32)), (.int (14 : Int32)), (.int (31 : Int32)), (.int (32 : Int32)), (.int (55295 : Int32)), (.int (55296 : Int32)), (.int (57343 : Int32)), (.int (57344 : Int32)), (.int (65533 : Int32)), (.int (65534 : Int32)), (.int (65535 : Int32)), (.int (65536 : Int32)), (.int (0 : Int32)), (.int (0 : Int32)), (.int (0 : Int32)), (.int (0 : Int32)), (.int (0 : Int32))] (.int (0 : Int32)) := Arv.set Ar36 q36 S36 G36 H36 J36 rfl W36 17 rfl (Nat.le_of_ble_eq_true rfl)
  have N36 := Fr.snoc X36 N34 u1
  have K36 := K34.wr W36 (Or.inr v1)
  have Y36 := Nat.le_trans Y34 (Nat.le_of_eq W36.size.symm)
  refine OwnEnd.go (fun _ k => st36 _ k) ?_
  show OwnEnd p e below s _ _ _ (T36.setTop (mkF m 105 #[.val (.int p1), .val (.int p2), .val (.int p3), .unset, .unset, .unset] [(.ref b1)]))
  refine OwnEnd.go (fun _ k => XS.dup X36.here hx rfl (hb hby at_105) rfl rfl k) ?_
  show OwnEnd p e below s _ _ _ (T36.setTop (mkF m 106 #[.val (.int p1), .val (.int p2), .val (.int p3), .unset, .unset, .unset] [(.ref b1), (.ref b1)]))
  refine OwnEnd.go (fun _ k => XS.bipush X36.here hx rfl (hb hby at_106) k) ?_
  show OwnEnd p e below s _ _ _ (T36.setTop (mkF m 108 #[.val (.int p1), .val (.int p2), .val (.int p3), .unset, .unset, .unset] [(.int (18 : Int32)), (.ref b1), (.ref b1)]))
  refine OwnEnd.go (fun _ k => X36.ldcI hx hown (mvT hZ ww9) (g := (mkF m 108 #[.val (.int p1), .val (.int p2), .val (.int p3), .unset, .unset, .unset] [(.int (18 : Int32)), (.ref b1), (.ref b1)])) rfl (hb hby at_108) k) ?_
  show OwnEnd p e below s _ _ _ (T36.setTop (mkF m 110 #[.val (.int p1), .val (.int p2), .val (.int p3), .unset, .unset, .unset] [(.int (1114111 : Int32)), (.int (18 : Int32)), (.ref b1), (.ref b1)]))
  obtain ⟨c38, Ar38, q38, S38, G38, H38, J38⟩ := id V36
  obtain ⟨T38, h38, X38, e38, W38, st38⟩ := stI X36 hx hZ e36 Ar38 (j := (18 : Int32)) (inb_of S38 ⟨by decide, by decide⟩) (g := (mkF m 110 #[.val (.int p1), .val (.int p2), .val (.int p3), .unset, .unset, .unset] [(.int (1114111 : Int32)), (.int (18 : Int32)), (.ref b1), (.ref b1)])) rfl rfl (hb hby at_110)
  have V38 : Arv Z h38 b1 k1 .int (23 : Int32) [(.int (0 : Int32)), (.int (8 : Int32)), (.int (9 : Int32)), (.int (10 : Int32)), (.int (11 : Int32)), (.int (12 : Int32)), (.int (13 : Int32)), (.int (14 : Int32)), (.int (31 : Int32)), (.int (32 : Int32)), (.int (55295 : Int32)), (.int (55296 : Int32)), (.int (57343 : Int32)), (.int (57344 : Int32)), (.int (65533 : Int32)), (.int (65534 : Int32)), (.int (65535 : Int32)), (.int (65536 : Int32)), (.int (1114111 : Int32)), (.int (0 : Int32)), (.int (0 : Int32)), (.int (0 : Int32)), (.int (0 : Int32))] (.int (0 : Int32)) := Arv.set Ar38 q38 S38 G38 H38 J38 rfl W38 18 rfl (Nat.le_of_ble_eq_true rfl)
  have N38 := Fr.snoc X38 N36 u1
  have K38 := K36.wr W38 (Or.inr v1)
  have Y38 := Nat.le_trans Y36 (Nat.le_of_eq W38.size.symm)
  refine OwnEnd.go (fun _ k => st38 _ k) ?_
  show OwnEnd p e below s _ _ _ (T38.setTop (mkF m 111 #[.val (.int p1), .val (.int p2), .val (.int p3), .unset, .unset, .unset] [(.ref b1)]))
  refine OwnEnd.go (fun _ k => XS.dup X38.here hx rfl (hb hby at_111) rfl rfl k) ?_
  show OwnEnd p e below s _ _ _ (T38.setTop (mkF m 112 #[.val (.int p1), .val (.int p2), .val (.int p3), .unset, .unset, .unset] [(.ref b1), (.ref b1)]))
  refine OwnEnd.go (fun _ k => XS.bipush X38.here hx rfl (hb hby at_112) k) ?_
  show OwnEnd p e below s _ _ _ (T38.setTop (mkF m 114 #[.val (.int p1), .val (.int p2), .val (.int p3), .unset, .unset, .unset] [(.int (19 : Int32)), (.ref b1), (.ref b1)]))
  refine OwnEnd.go (fun _ k => X38.ldcI hx hown (mvT hZ ww10) (g := (mkF m 114 #[.val (.int p1), .val (.int p2), .val (.int p3), .unset, .unset, .unset] [(.int (19 : Int32)), (.ref b1), (.ref b1)])) rfl (hb hby at_114) k) ?_
  show OwnEnd p e below s _ _ _ (T38.setTop (mkF m 116 #[.val (.int p1), .val (.int p2), .val (.int p3), .unset, .unset, .unset] [(.int (1114112 : Int32)), (.int (19 : Int32)), (.ref b1), (.ref b1)]))
  obtain ⟨c40, Ar40, q40, S40, G40, H40, J40⟩ := id V38
  obtain ⟨T40, h40, X40, e40, W40, st40⟩ := stI X38 hx hZ e38 Ar40 (j := (19 : Int32)) (inb_of S40 ⟨by decide, by decide⟩) (g := (mkF m 116 #[.val (.int p1), .val (.int p2), .val (.int p3), .unset, .unset, .unset] [(.int (1114112 : Int32)), (.int (19 : Int32)), (.ref b1), (.ref b1)])) rfl rfl (hb hby at_116)
  have V40 : Arv Z h40 b1 k1 .int (23 : Int32) [(.int (0 : Int32)), (.int (8 : Int32)), (.int (9 : Int32)), (.int (10 : Int32)), (.int (11 : Int32)), (.int (12 : Int32)), (.int (13 : Int32)), (.int (14 : Int32)), (.int (31 : Int32)), (.int (32 : Int32)), (.int (55295 : Int32)), (.int (55296 : Int32)), (.int (57343 : Int32)), (.int (57344 : Int32)), (.int (65533 : Int32)), (.int (65534 : Int32)), (.int (65535 : Int32)), (.int (65536 : Int32)), (.int (1114111 : Int32)), (.int (1114112 : Int32)), (.int (0 : Int32)), (.int (0 : Int32)), (.int (0 : Int32))] (.int (0 : Int32)) := Arv.set Ar40 q40 S40 G40 H40 J40 rfl W40 19 rfl (Nat.le_of_ble_eq_true rfl)
  have N40 := Fr.snoc X40 N38 u1
  have K40 := K38.wr W40 (Or.inr v1)
  have Y40 := Nat.le_trans Y38 (Nat.le_of_eq W40.size.symm)
  refine OwnEnd.go (fun _ k => st40 _ k) ?_
  show OwnEnd p e below s _ _ _ (T40.setTop (mkF m 117 #[.val (.int p1), .val (.int p2), .val (.int p3), .unset, .unset, .unset] [(.ref b1)]))
  refine OwnEnd.go (fun _ k => XS.dup X40.here hx rfl (hb hby at_117) rfl rfl k) ?_
  show OwnEnd p e below s _ _ _ (T40.setTop (mkF m 118 #[.val (.int p1), .val (.int p2), .val (.int p3), .unset, .unset, .unset] [(.ref b1), (.ref b1)]))
  refine OwnEnd.go (fun _ k => XS.bipush X40.here hx rfl (hb hby at_118) k) ?_
  show OwnEnd p e below s _ _ _ (T40.setTop (mkF m 120 #[.val (.int p1), .val (.int p2), .val (.int p3), .unset, .unset, .unset] [(.int (20 : Int32)), (.ref b1), (.ref b1)]))
  refine OwnEnd.go (fun _ k => X40.ldcI hx hown (mvT hZ ww11) (g := (mkF m 120 #[.val (.int p1), .val (.int p2), .val (.int p3), .unset, .unset, .unset] [(.int (20 : Int32)), (.ref b1), (.ref b1)])) rfl (hb hby at_120) k) ?_
  show OwnEnd p e below s _ _ _ (T40.setTop (mkF m 122 #[.val (.int p1), .val (.int p2), .val (.int p3), .unset, .unset, .unset] [(.int (-2147483648 : Int32)), (.int (20 : Int32)), (.ref b1), (.ref b1)]))
  obtain ⟨c42, Ar42, q42, S42, G42, H42, J42⟩ := id V40
  obtain ⟨T42, h42, X42, e42, W42, st42⟩ := stI X40 hx hZ e40 Ar42 (j := (20 : Int32)) (inb_of S42 ⟨by decide, by decide⟩) (g := (mkF m 122 #[.val (.int p1), .val (.int p2), .val (.int p3), .unset, .unset, .unset] [(.int (-2147483648 : Int32)), (.int (20 : Int32)), (.ref b1), (.ref b1)])) rfl rfl (hb hby at_122)
  have V42 : Arv Z h42 b1 k1 .int (23 : Int32) [(.int (0 : Int32)), (.int (8 : Int32)), (.int (9 : Int32)), (.int (10 : Int32)), (.int (11 : Int32)), (.int (12 : Int32)), (.int (13 : Int32)), (.int (14 : Int32)), (.int (31 : Int32)), (.int (32 : Int32)), (.int (55295 : Int32)), (.int (55296 : Int32)), (.int (57343 : Int32)), (.int (57344 : Int32)), (.int (65533 : Int32)), (.int (65534 : Int32)), (.int (65535 : Int32)), (.int (65536 : Int32)), (.int (1114111 : Int32)), (.int (1114112 : Int32)), (.int (-2147483648 : Int32)), (.int (0 : Int32)), (.int (0 : Int32))] (.int (0 : Int32)) := Arv.set Ar42 q42 S42 G42 H42 J42 rfl W42 20 rfl (Nat.le_of_ble_eq_true rfl)
  have N42 := Fr.snoc X42 N40 u1
  have K42 := K40.wr W42 (Or.inr v1)
  have Y42 := Nat.le_trans Y40 (Nat.le_of_eq W42.size.symm)
  refine OwnEnd.go (fun _ k => st42 _ k) ?_
  show OwnEnd p e below s _ _ _ (T42.setTop (mkF m 123 #[.val (.int p1), .val (.int p2), .val (.int p3), .unset, .unset, .unset] [(.ref b1)]))
  refine OwnEnd.go (fun _ k => XS.dup X42.here hx rfl (hb hby at_123) rfl rfl k) ?_
  show OwnEnd p e below s _ _ _ (T42.setTop (mkF m 124 #[.val (.int p1), .val (.int p2), .val (.int p3), .unset, .unset, .unset] [(.ref b1), (.ref b1)]))
  refine OwnEnd.go (fun _ k => XS.bipush X42.here hx rfl (hb hby at_124) k) ?_
  show OwnEnd p e below s _ _ _ (T42.setTop (mkF m 126 #[.val (.int p1), .val (.int p2), .val (.int p3), .unset, .unset, .unset] [(.int (21 : Int32)), (.ref b1), (.ref b1)]))
  refine OwnEnd.go (fun _ k => X42.ldcI hx hown (mvT hZ ww12) (g := (mkF m 126 #[.val (.int p1), .val (.int p2), .val (.int p3), .unset, .unset, .unset] [(.int (21 : Int32)), (.ref b1), (.ref b1)])) rfl (hb hby at_126) k) ?_
  show OwnEnd p e below s _ _ _ (T42.setTop (mkF m 128 #[.val (.int p1), .val (.int p2), .val (.int p3), .unset, .unset, .unset] [(.int (2147483647 : Int32)), (.int (21 : Int32)), (.ref b1), (.ref b1)]))
  obtain ⟨c44, Ar44, q44, S44, G44, H44, J44⟩ := id V42
  obtain ⟨T44, h44, X44, e44, W44, st44⟩ := stI X42 hx hZ e42 Ar44 (j := (21 : Int32)) (inb_of S44 ⟨by decide, by decide⟩) (g := (mkF m 128 #[.val (.int p1), .val (.int p2), .val (.int p3), .unset, .unset, .unset] [(.int (2147483647 : Int32)), (.int (21 : Int32)), (.ref b1), (.ref b1)])) rfl rfl (hb hby at_128)
  have V44 : Arv Z h44 b1 k1 .int (23 : Int32) [(.int (0 : Int32)), (.int (8 : Int32)), (.int (9 : Int32)), (.int (10 : Int32)), (.int (11 : Int32)), (.int (12 : Int32)), (.int (13 : Int32)), (.int (14 : Int32)), (.int (31 : Int32)), (.int (32 : Int32)), (.int (55295 : Int32)), (.int (55296 : Int32)), (.int (57343 : Int32)), (.int (57344 : Int32)), (.int (65533 : Int32)), (.int (65534 : Int32)), (.int (65535 : Int32)), (.int (65536 : Int32)), (.int (1114111 : Int32)), (.int (1114112 : Int32)), (.int (-2147483648 : Int32)), (.int (2147483647 : Int32)), (.int (0 : Int32))] (.int (0 : Int32)) := Arv.set Ar44 q44 S44 G44 H44 J44 rfl W44 21 rfl (Nat.le_of_ble_eq_true rfl)
  have N44 := Fr.snoc X44 N42 u1
  have K44 := K42.wr W44 (Or.inr v1)
  have Y44 := Nat.le_trans Y42 (Nat.le_of_eq W44.size.symm)
  refine OwnEnd.go (fun _ k => st44 _ k) ?_
  show OwnEnd p e below s _ _ _ (T44.setTop (mkF m 129 #[.val (.int p1), .val (.int p2), .val (.int p3), .unset, .unset, .unset] [(.ref b1)]))
  refine OwnEnd.go (fun _ k => XS.dup X44.here hx rfl (hb hby at_129) rfl rfl k) ?_
  show OwnEnd p e below s _ _ _ (T44.setTop (mkF m 130 #[.val (.int p1), .val (.int p2), .val (.int p3), .unset, .unset, .unset] [(.ref b1), (.ref b1)]))
  refine OwnEnd.go (fun _ k => XS.bipush X44.here hx rfl (hb hby at_130) k) ?_
  show OwnEnd p e below s _ _ _ (T44.setTop (mkF m 132 #[.val (.int p1), .val (.int p2), .val (.int p3), .unset, .unset, .unset] [(.int (22 : Int32)), (.ref b1), (.ref b1)]))
  refine OwnEnd.go (fun _ k => XS.iconst X44.here hx rfl (hb hby at_132) k) ?_
  show OwnEnd p e below s _ _ _ (T44.setTop (mkF m 133 #[.val (.int p1), .val (.int p2), .val (.int p3), .unset, .unset, .unset] [(.int (-1 : Int32)), (.int (22 : Int32)), (.ref b1), (.ref b1)]))
  obtain ⟨c46, Ar46, q46, S46, G46, H46, J46⟩ := id V44
  obtain ⟨T46, h46, X46, e46, W46, st46⟩ := stI X44 hx hZ e44 Ar46 (j := (22 : Int32)) (inb_of S46 ⟨by decide, by decide⟩) (g := (mkF m 133 #[.val (.int p1), .val (.int p2), .val (.int p3), .unset, .unset, .unset] [(.int (-1 : Int32)), (.int (22 : Int32)), (.ref b1), (.ref b1)])) rfl rfl (hb hby at_133)
  have V46 : Arv Z h46 b1 k1 .int (23 : Int32) [(.int (0 : Int32)), (.int (8 : Int32)), (.int (9 : Int32)), (.int (10 : Int32)), (.int (11 : Int32)), (.int (12 : Int32)), (.int (13 : Int32)), (.int (14 : Int32)), (.int (31 : Int32)), (.int (32 : Int32)), (.int (55295 : Int32)), (.int (55296 : Int32)), (.int (57343 : Int32)), (.int (57344 : Int32)), (.int (65533 : Int32)), (.int (65534 : Int32)), (.int (65535 : Int32)), (.int (65536 : Int32)), (.int (1114111 : Int32)), (.int (1114112 : Int32)), (.int (-2147483648 : Int32)), (.int (2147483647 : Int32)), (.int (-1 : Int32))] (.int (0 : Int32)) := Arv.set Ar46 q46 S46 G46 H46 J46 rfl W46 22 rfl (Nat.le_of_ble_eq_true rfl)
  have N46 := Fr.snoc X46 N44 u1
  have K46 := K44.wr W46 (Or.inr v1)
  have Y46 := Nat.le_trans Y44 (Nat.le_of_eq W46.size.symm)
  refine OwnEnd.go (fun _ k => st46 _ k) ?_
  show OwnEnd p e below s _ _ _ (T46.setTop (mkF m 134 #[.val (.int p1), .val (.int p2), .val (.int p3), .unset, .unset, .unset] [(.ref b1)]))
  refine OwnEnd.go (fun _ k => XS.astoreN X46.here hx rfl (hb hby at_134) rfl rfl (l' := #[.val (.int p1), .val (.int p2), .val (.int p3), .val (.ref b1), .unset, .unset]) rfl k) ?_
  show OwnEnd p e below s _ _ _ (T46.setTop (mkF m 135 #[.val (.int p1), .val (.int p2), .val (.int p3), .val (.ref b1), .unset, .unset] []))
  refine OwnEnd.go (fun _ k => XS.iloadN X46.here hx rfl (hb hby at_135) rfl  k) ?_
  show OwnEnd p e below s _ _ _ (T46.setTop (mkF m 136 #[.val (.int p1), .val (.int p2), .val (.int p3), .val (.ref b1), .unset, .unset] [(.int p2)]))
  refine OwnEnd.go (fun _ k => XS.iconst X46.here hx rfl (hb hby at_136) k) ?_
  show OwnEnd p e below s _ _ _ (T46.setTop (mkF m 137 #[.val (.int p1), .val (.int p2), .val (.int p3), .val (.ref b1), .unset, .unset] [(.int (1 : Int32)), (.int p2)]))
  refine OwnEnd.go (fun _ k => XS.iand X46.here hx rfl (hb hby at_137) rfl k) ?_
  show OwnEnd p e below s _ _ _ (T46.setTop (mkF m 138 #[.val (.int p1), .val (.int p2), .val (.int p3), .val (.ref b1), .unset, .unset] [(.int (p2 &&& (1 : Int32)))]))
  by_cases hc48 : (p2 &&& (1 : Int32)) = (0 : Int32)
  · refine OwnEnd.go (fun _ k => XS.ifYes X46.here hx rfl (pc0 := 138) (pc' := 147) rfl (hb hby at_138) rfl ((if0 _ _).trans (teq hc48).1) (by decide) (by decide) k) ?_
    show OwnEnd p e below s _ _ _ (T46.setTop (mkF m 147 #[.val (.int p1), .val (.int p2), .val (.int p3), .val (.ref b1), .unset, .unset] []))
    refine OwnEnd.go (fun _ k => XS.iloadN X46.here hx rfl (hb hby at_147) rfl  k) ?_
    show OwnEnd p e below s _ _ _ (T46.setTop (mkF m 148 #[.val (.int p1), .val (.int p2), .val (.int p3), .val (.ref b1), .unset, .unset] [(.int p2)]))
    refine OwnEnd.go (fun _ k => XS.iconst X46.here hx rfl (hb hby at_148) k) ?_
    show OwnEnd p e below s _ _ _ (T46.setTop (mkF m 149 #[.val (.int p1), .val (.int p2), .val (.int p3), .val (.ref b1), .unset, .unset] [(.int (1 : Int32)), (.int p2)]))
    refine OwnEnd.go (fun _ k => XS.iushr X46.here hx rfl (hb hby at_149) rfl k) ?_
    show OwnEnd p e below s _ _ _ (T46.setTop (mkF m 150 #[.val (.int p1), .val (.int p2), .val (.int p3), .val (.ref b1), .unset, .unset] [(.int ((p2.toUInt32 >>> ((1 : Int32) &&& 31).toUInt32).toInt32))]))
    refine OwnEnd.go (fun _ k => XS.aloadN X46.here hx rfl (hb hby at_150) rfl rfl k) ?_
    show OwnEnd p e below s _ _ _ (T46.setTop (mkF m 151 #[.val (.int p1), .val (.int p2), .val (.int p3), .val (.ref b1), .unset, .unset] [(.ref b1), (.int ((p2.toUInt32 >>> ((1 : Int32) &&& 31).toUInt32).toInt32))]))
    obtain ⟨c49, Ar49, q49, S49, G49, H49, J49⟩ := id V46
    refine OwnEnd.go (fun _ k => ownLen X46 hx hZ e46 Ar49 S49 G49 (g := (mkF m 151 #[.val (.int p1), .val (.int p2), .val (.int p3), .val (.ref b1), .unset, .unset] [(.ref b1), (.int ((p2.toUInt32 >>> ((1 : Int32) &&& 31).toUInt32).toInt32))])) rfl rfl (hb hby at_151) _ k) ?_
    show OwnEnd p e below s _ _ _ (T46.setTop (mkF m 152 #[.val (.int p1), .val (.int p2), .val (.int p3), .val (.ref b1), .unset, .unset] [(.int (23 : Int32)), (.int ((p2.toUInt32 >>> ((1 : Int32) &&& 31).toUInt32).toInt32))]))
    refine OwnEnd.go (fun _ k => iremM X46 hx rfl (hb hby at_152) rfl (by decide) k) ?_
    show OwnEnd p e below s _ _ _ (T46.setTop (mkF m 153 #[.val (.int p1), .val (.int p2), .val (.int p3), .val (.ref b1), .unset, .unset] [(.int (((p2.toUInt32 >>> ((1 : Int32) &&& 31).toUInt32).toInt32) % (23 : Int32)))]))
    refine OwnEnd.go (fun _ k => XS.istore X46.here hx rfl (hb hby at_153) rfl  (l' := #[.val (.int p1), .val (.int p2), .val (.int p3), .val (.ref b1), .unset, .val (.int (((p2.toUInt32 >>> ((1 : Int32) &&& 31).toUInt32).toInt32) % (23 : Int32)))]) rfl k) ?_
    show OwnEnd p e below s _ _ _ (T46.setTop (mkF m 155 #[.val (.int p1), .val (.int p2), .val (.int p3), .val (.ref b1), .unset, .val (.int (((p2.toUInt32 >>> ((1 : Int32) &&& 31).toUInt32).toInt32) % (23 : Int32)))] []))
    refine OwnEnd.go (fun _ k => XS.aloadN X46.here hx rfl (hb hby at_155) rfl rfl k) ?_
    show OwnEnd p e below s _ _ _ (T46.setTop (mkF m 156 #[.val (.int p1), .val (.int p2), .val (.int p3), .val (.ref b1), .unset, .val (.int (((p2.toUInt32 >>> ((1 : Int32) &&& 31).toUInt32).toInt32) % (23 : Int32)))] [(.ref b1)]))
    refine OwnEnd.go (fun _ k => XS.iload X46.here hx rfl (hb hby at_156) rfl  k) ?_
    show OwnEnd p e below s _ _ _ (T46.setTop (mkF m 158 #[.val (.int p1), .val (.int p2), .val (.int p3), .val (.ref b1), .unset, .val (.int (((p2.toUInt32 >>> ((1 : Int32) &&& 31).toUInt32).toInt32) % (23 : Int32)))] [(.int (((p2.toUInt32 >>> ((1 : Int32) &&& 31).toUInt32).toInt32) % (23 : Int32))), (.ref b1)]))
    obtain ⟨z51, hz51⟩ := own_allint [(.int (0 : Int32)), (.int (8 : Int32)), (.int (9 : Int32)), (.int (10 : Int32)), (.int (11 : Int32)), (.int (12 : Int32)), (.int (13 : Int32)), (.int (14 : Int32)), (.int (31 : Int32)), (.int (32 : Int32)), (.int (55295 : Int32)), (.int (55296 : Int32)), (.int (57343 : Int32)), (.int (57344 : Int32)), (.int (65533 : Int32)), (.int (65534 : Int32)), (.int (65535 : Int32)), (.int (65536 : Int32)), (.int (1114111 : Int32)), (.int (1114112 : Int32)), (.int (-2147483648 : Int32)), (.int (2147483647 : Int32)), (.int (-1 : Int32))] (by simp) ((((p2.toUInt32 >>> ((1 : Int32) &&& 31).toUInt32).toInt32) % (23 : Int32))).toNatClampNeg
    obtain ⟨c50, Ar50, q50, S50, G50, H50, J50⟩ := id V46
    have i50 := inb_of S50 (own_idx p2)
    refine OwnEnd.go (fun _ k => X46.iaload hx (j := (((p2.toUInt32 >>> ((1 : Int32) &&& 31).toUInt32).toInt32) % (23 : Int32))) (v := (.int z51)) (by rw [e46]; exact Ar50.1) (State.isArrayOf_alike hZ.alike Ar50.2.1) Ar50.2.2 i50 (Has.at H50 i50 hz51) (g := (mkF m 158 #[.val (.int p1), .val (.int p2), .val (.int p3), .val (.ref b1), .unset, .val (.int (((p2.toUInt32 >>> ((1 : Int32) &&& 31).toUInt32).toInt32) % (23 : Int32)))] [(.int (((p2.toUInt32 >>> ((1 : Int32) &&& 31).toUInt32).toInt32) % (23 : Int32))), (.ref b1)])) rfl rfl (hb hby at_158) _ k) ?_
    show OwnEnd p e below s _ _ _ (T46.setTop (mkF m 159 #[.val (.int p1), .val (.int p2), .val (.int p3), .val (.ref b1), .unset, .val (.int (((p2.toUInt32 >>> ((1 : Int32) &&& 31).toUInt32).toInt32) % (23 : Int32)))] [(.int z51)]))
    refine OwnEnd.go (fun _ k => XS.iloadN X46.here hx rfl (hb hby at_159) rfl  k) ?_
    show OwnEnd p e below s _ _ _ (T46.setTop (mkF m 160 #[.val (.int p1), .val (.int p2), .val (.int p3), .val (.ref b1), .unset, .val (.int (((p2.toUInt32 >>> ((1 : Int32) &&& 31).toUInt32).toInt32) % (23 : Int32)))] [(.int p3), (.int z51)]))
    refine OwnEnd.go (fun _ k => XS.iconst X46.here hx rfl (hb hby at_160) k) ?_
    show OwnEnd p e below s _ _ _ (T46.setTop (mkF m 161 #[.val (.int p1), .val (.int p2), .val (.int p3), .val (.ref b1), .unset, .val (.int (((p2.toUInt32 >>> ((1 : Int32) &&& 31).toUInt32).toInt32) % (23 : Int32)))] [(.int (3 : Int32)), (.int p3), (.int z51)]))
    refine OwnEnd.go (fun _ k => iremM X46 hx rfl (hb hby at_161) rfl (by decide) k) ?_
    show OwnEnd p e below s _ _ _ (T46.setTop (mkF m 162 #[.val (.int p1), .val (.int p2), .val (.int p3), .val (.ref b1), .unset, .val (.int (((p2.toUInt32 >>> ((1 : Int32) &&& 31).toUInt32).toInt32) % (23 : Int32)))] [(.int (p3 % (3 : Int32))), (.int z51)]))
    refine OwnEnd.go (fun _ k => XS.iadd X46.here hx rfl (hb hby at_162) rfl k) ?_
    show OwnEnd p e below s _ _ _ (T46.setTop (mkF m 163 #[.val (.int p1), .val (.int p2), .val (.int p3), .val (.ref b1), .unset, .val (.int (((p2.toUInt32 >>> ((1 : Int32) &&& 31).toUInt32).toInt32) % (23 : Int32)))] [(.int (z51 + (p3 % (3 : Int32))))]))
    refine OwnEnd.go (fun _ k => XS.istore X46.here hx rfl (hb hby at_163) rfl  (l' := #[.val (.int p1), .val (.int p2), .val (.int p3), .val (.ref b1), .val (.int (z51 + (p3 % (3 : Int32)))), .val (.int (((p2.toUInt32 >>> ((1 : Int32) &&& 31).toUInt32).toInt32) % (23 : Int32)))]) rfl k) ?_
    show OwnEnd p e below s _ _ _ (T46.setTop (mkF m 165 #[.val (.int p1), .val (.int p2), .val (.int p3), .val (.ref b1), .val (.int (z51 + (p3 % (3 : Int32)))), .val (.int (((p2.toUInt32 >>> ((1 : Int32) &&& 31).toUInt32).toInt32) % (23 : Int32)))] []))
    refine OwnEnd.go (fun _ k => XS.iload X46.here hx rfl (hb hby at_165) rfl  k) ?_
    show OwnEnd p e below s _ _ _ (T46.setTop (mkF m 167 #[.val (.int p1), .val (.int p2), .val (.int p3), .val (.ref b1), .val (.int (z51 + (p3 % (3 : Int32)))), .val (.int (((p2.toUInt32 >>> ((1 : Int32) &&& 31).toUInt32).toInt32) % (23 : Int32)))] [(.int (z51 + (p3 % (3 : Int32))))]))
    obtain ⟨_, T52, L52, X52, hQ52, st52⟩ := ownCallS X46 hx hZ hown ww13 ww14 ww15 ww16 (by decide) (rm1 l Z a0 hw [] (z51 + (p3 % (3 : Int32))) h46 n0 Y46  ) e46 0 (by decide) (by decide) (by decide) (by decide) (g := (mkF m 167 #[.val (.int p1), .val (.int p2), .val (.int p3), .val (.ref b1), .val (.int (z51 + (p3 % (3 : Int32)))), .val (.int (((p2.toUInt32 >>> ((1 : Int32) &&& 31).toUInt32).toInt32) % (23 : Int32)))] [(.int (z51 + (p3 % (3 : Int32))))])) rfl (by rw [hml]; rfl) (argsL := [(.int (z51 + (p3 % (3 : Int32))))]) (rest := []) (lenOf pd0_0 rfl) rfl rfl (by show 2 * 0 + _ ≤ _; exact Nat.le_of_eq rfl) (hb hby at_167)
    obtain ⟨rfl, N52q, e52⟩ := hQ52
    have N52 := Fr.app N46 N52q
    refine OwnEnd.go (fun _ k => st52 _ k) ?_
    show OwnEnd p e below s _ _ _ (T52.setTop (mkF m 170 #[.val (.int p1), .val (.int p2), .val (.int p3), .val (.ref b1), .val (.int (z51 + (p3 % (3 : Int32)))), .val (.int (((p2.toUInt32 >>> ((1 : Int32) &&& 31).toUInt32).toInt32) % (23 : Int32)))] [(.int (own_xml (z51 + (p3 % (3 : Int32)))))]))
    refine OwnEnd.go (fun _ k => XS.iload X52.here hx rfl (hb hby at_170) rfl  k) ?_
    show OwnEnd p e below s _ _ _ (T52.setTop (mkF m 172 #[.val (.int p1), .val (.int p2), .val (.int p3), .val (.ref b1), .val (.int (z51 + (p3 % (3 : Int32)))), .val (.int (((p2.toUInt32 >>> ((1 : Int32) &&& 31).toUInt32).toInt32) % (23 : Int32)))] [(.int (z51 + (p3 % (3 : Int32)))), (.int (own_xml (z51 + (p3 % (3 : Int32)))))]))
    obtain ⟨_, T53, L53, X53, hQ53, st53⟩ := ownCallS X52 hx hZ hown ww19 ww20 ww21 ww22 (by decide) (rm2 l Z a0 hw [] (z51 + (p3 % (3 : Int32))) h46 n0 Y46  ) e52 1 (by decide) (by decide) (by decide) (by decide) (g := (mkF m 172 #[.val (.int p1), .val (.int p2), .val (.int p3), .val (.ref b1), .val (.int (z51 + (p3 % (3 : Int32)))), .val (.int (((p2.toUInt32 >>> ((1 : Int32) &&& 31).toUInt32).toInt32) % (23 : Int32)))] [(.int (z51 + (p3 % (3 : Int32)))), (.int (own_xml (z51 + (p3 % (3 : Int32)))))])) rfl (by rw [hml]; rfl) (argsL := [(.int (z51 + (p3 % (3 : Int32))))]) (rest := [(.int (own_xml (z51 + (p3 % (3 : Int32)))))]) (lenOf pd0_0 rfl) rfl rfl (by show 2 * 0 + _ ≤ _; exact Nat.le_of_eq rfl) (hb hby at_172)
    obtain ⟨rfl, N53q, e53⟩ := hQ53
    have N53 := Fr.app N52 N53q
    refine OwnEnd.go (fun _ k => st53 _ k) ?_
    show OwnEnd p e below s _ _ _ (T53.setTop (mkF m 175 #[.val (.int p1), .val (.int p2), .val (.int p3), .val (.ref b1), .val (.int (z51 + (p3 % (3 : Int32)))), .val (.int (((p2.toUInt32 >>> ((1 : Int32) &&& 31).toUInt32).toInt32) % (23 : Int32)))] [(.int (own_ref (z51 + (p3 % (3 : Int32))))), (.int (own_xml (z51 + (p3 % (3 : Int32)))))]))
    refine OwnEnd.go (fun _ k => XS.icmpNo X53.here hx rfl (hb hby at_175) rfl (teq (own_plain _)).2 k) ?_
    show OwnEnd p e below s _ _ _ (T53.setTop (mkF m 178 #[.val (.int p1), .val (.int p2), .val (.int p3), .val (.ref b1), .val (.int (z51 + (p3 % (3 : Int32)))), .val (.int (((p2.toUInt32 >>> ((1 : Int32) &&& 31).toUInt32).toInt32) % (23 : Int32)))] []))
    refine OwnEnd.go (fun _ k => XS.iconst X53.here hx rfl (hb hby at_178) k) ?_
    show OwnEnd p e below s _ _ _ (T53.setTop (mkF m 179 #[.val (.int p1), .val (.int p2), .val (.int p3), .val (.ref b1), .val (.int (z51 + (p3 % (3 : Int32)))), .val (.int (((p2.toUInt32 >>> ((1 : Int32) &&& 31).toUInt32).toInt32) % (23 : Int32)))] [(.int (1 : Int32))]))
    refine OwnEnd.go (fun _ k => XS.goto X53.here hx rfl (pc0 := 179) (pc' := 183) rfl (hb hby at_179) (by decide) (by decide) k) ?_
    show OwnEnd p e below s _ _ _ (T53.setTop (mkF m 183 #[.val (.int p1), .val (.int p2), .val (.int p3), .val (.ref b1), .val (.int (z51 + (p3 % (3 : Int32)))), .val (.int (((p2.toUInt32 >>> ((1 : Int32) &&& 31).toUInt32).toInt32) % (23 : Int32)))] [(.int (1 : Int32))]))
    refine ownRetZ X53 hx hlk hret (hb hby at_183) (by decide) (by decide) (1 : Int32) (by decide) ?_
    show Q0 Z p1 p2 p3 h0 n0 _ T53.heap _
    rw [e53]
    exact ⟨rfl, N53⟩
  · refine OwnEnd.go (fun _ k => XS.ifNo X46.here hx rfl (hb hby at_138) rfl ((if0 _ _).trans (feq hc48).1) k) ?_
    show OwnEnd p e below s _ _ _ (T46.setTop (mkF m 141 #[.val (.int p1), .val (.int p2), .val (.int p3), .val (.ref b1), .unset, .unset] []))
    refine OwnEnd.go (fun _ k => XS.iloadN X46.here hx rfl (hb hby at_141) rfl  k) ?_
    show OwnEnd p e below s _ _ _ (T46.setTop (mkF m 142 #[.val (.int p1), .val (.int p2), .val (.int p3), .val (.ref b1), .unset, .unset] [(.int p1)]))
    refine OwnEnd.go (fun _ k => XS.istore X46.here hx rfl (hb hby at_142) rfl  (l' := #[.val (.int p1), .val (.int p2), .val (.int p3), .val (.ref b1), .val (.int p1), .unset]) rfl k) ?_
    show OwnEnd p e below s _ _ _ (T46.setTop (mkF m 144 #[.val (.int p1), .val (.int p2), .val (.int p3), .val (.ref b1), .val (.int p1), .unset] []))
    refine OwnEnd.go (fun _ k => XS.goto X46.here hx rfl (pc0 := 144) (pc' := 165) rfl (hb hby at_144) (by decide) (by decide) k) ?_
    show OwnEnd p e below s _ _ _ (T46.setTop (mkF m 165 #[.val (.int p1), .val (.int p2), .val (.int p3), .val (.ref b1), .val (.int p1), .unset] []))
    refine OwnEnd.go (fun _ k => XS.iload X46.here hx rfl (hb hby at_165) rfl  k) ?_
    show OwnEnd p e below s _ _ _ (T46.setTop (mkF m 167 #[.val (.int p1), .val (.int p2), .val (.int p3), .val (.ref b1), .val (.int p1), .unset] [(.int p1)]))
    obtain ⟨_, T54, L54, X54, hQ54, st54⟩ := ownCallS X46 hx hZ hown ww13 ww14 ww15 ww16 (by decide) (rm1 l Z a0 hw [] p1 h46 n0 Y46  ) e46 0 (by decide) (by decide) (by decide) (by decide) (g := (mkF m 167 #[.val (.int p1), .val (.int p2), .val (.int p3), .val (.ref b1), .val (.int p1), .unset] [(.int p1)])) rfl (by rw [hml]; rfl) (argsL := [(.int p1)]) (rest := []) (lenOf pd0_0 rfl) rfl rfl (by show 2 * 0 + _ ≤ _; exact Nat.le_of_eq rfl) (hb hby at_167)
    obtain ⟨rfl, N54q, e54⟩ := hQ54
    have N54 := Fr.app N46 N54q
    refine OwnEnd.go (fun _ k => st54 _ k) ?_
    show OwnEnd p e below s _ _ _ (T54.setTop (mkF m 170 #[.val (.int p1), .val (.int p2), .val (.int p3), .val (.ref b1), .val (.int p1), .unset] [(.int (own_xml p1))]))
    refine OwnEnd.go (fun _ k => XS.iload X54.here hx rfl (hb hby at_170) rfl  k) ?_
    show OwnEnd p e below s _ _ _ (T54.setTop (mkF m 172 #[.val (.int p1), .val (.int p2), .val (.int p3), .val (.ref b1), .val (.int p1), .unset] [(.int p1), (.int (own_xml p1))]))
    obtain ⟨_, T55, L55, X55, hQ55, st55⟩ := ownCallS X54 hx hZ hown ww19 ww20 ww21 ww22 (by decide) (rm2 l Z a0 hw [] p1 h46 n0 Y46  ) e54 1 (by decide) (by decide) (by decide) (by decide) (g := (mkF m 172 #[.val (.int p1), .val (.int p2), .val (.int p3), .val (.ref b1), .val (.int p1), .unset] [(.int p1), (.int (own_xml p1))])) rfl (by rw [hml]; rfl) (argsL := [(.int p1)]) (rest := [(.int (own_xml p1))]) (lenOf pd0_0 rfl) rfl rfl (by show 2 * 0 + _ ≤ _; exact Nat.le_of_eq rfl) (hb hby at_172)
    obtain ⟨rfl, N55q, e55⟩ := hQ55
    have N55 := Fr.app N54 N55q
    refine OwnEnd.go (fun _ k => st55 _ k) ?_
    show OwnEnd p e below s _ _ _ (T55.setTop (mkF m 175 #[.val (.int p1), .val (.int p2), .val (.int p3), .val (.ref b1), .val (.int p1), .unset] [(.int (own_ref p1)), (.int (own_xml p1))]))
    refine OwnEnd.go (fun _ k => XS.icmpNo X55.here hx rfl (hb hby at_175) rfl (teq (own_plain _)).2 k) ?_
    show OwnEnd p e below s _ _ _ (T55.setTop (mkF m 178 #[.val (.int p1), .val (.int p2), .val (.int p3), .val (.ref b1), .val (.int p1), .unset] []))
    refine OwnEnd.go (fun _ k => XS.iconst X55.here hx rfl (hb hby at_178) k) ?_
    show OwnEnd p e below s _ _ _ (T55.setTop (mkF m 179 #[.val (.int p1), .val (.int p2), .val (.int p3), .val (.ref b1), .val (.int p1), .unset] [(.int (1 : Int32))]))
    refine OwnEnd.go (fun _ k => XS.goto X55.here hx rfl (pc0 := 179) (pc' := 183) rfl (hb hby at_179) (by decide) (by decide) k) ?_
    show OwnEnd p e below s _ _ _ (T55.setTop (mkF m 183 #[.val (.int p1), .val (.int p2), .val (.int p3), .val (.ref b1), .val (.int p1), .unset] [(.int (1 : Int32))]))
    refine ownRetZ X55 hx hlk hret (hb hby at_183) (by decide) (by decide) (1 : Int32) (by decide) ?_
    show Q0 Z p1 p2 p3 h0 n0 _ T55.heap _
    rw [e55]
    exact ⟨rfl, N55⟩
set_option maxRecDepth 65536 in
set_option maxHeartbeats 40000000 in
theorem comes_1 {Post : Tables → Env → Array Value → State → Outcome → State → Prop} (hpost : ∀ tb e args s v u, (limb_1_1.after args s (.returned v) u = true ∧ limb_1_2.after args s (.returned v) u = true ∧ True) → FrameEnd s (.returned v) u (Jvm.fieldLocs frame_1_writes args s ++ Jvm.arrayLocs frame_1_arrays args s ++ Jvm.staticLocs frame_1_statics s) 16 128 → Post tb e args s (.returned v) u) :
    ArmFor flags0 classFile x code maxLocals ret World_1 tables_1 room_1 Calls_1 rest_1 Pre_1 Post := by
  intro l hfl _ _ p e ha hc hk s m args below hf hA hF happ hP
  obtain ⟨hcalls, hrest, hpre⟩ := hP
  obtain ⟨-, -, -, hnamed, -, -, -, hat⟩ := (Spec.applies_iff hf).mp happ
  obtain ⟨hg, hn⟩ := and_e (Cond.before_iff.mp (show (Jvm.Cond.and given_1 narrow_1).before args s = true from hpre))
  obtain ⟨hcount, hg⟩ := and_e hg
  obtain ⟨hv0, hg⟩ := and_e hg
  obtain ⟨hv1, hg⟩ := and_e hg
  have hv2 := hg
  obtain ⟨w0, w1, w2, rfl⟩ : ∃ w0 w1 w2 : Value, args = #[w0, w1, w2] := by
    have hs : args.size = 3 := by simpa [Cond.value, given_1] using hcount
    obtain ⟨L⟩ := args
    match L, hs with
    | [w0, w1, w2], _ => exact ⟨w0, w1, w2, rfl⟩
  have hw := fun d (hd : d ∈ tables_1) => atoms_spec (ws := Jvm.Cond.code x code maxLocals ret :: tables_1) hat d (List.mem_cons_of_mem _ hd)
  have hfit : Fit s := fun {y c} hc i hi => by
    obtain ⟨ha, rfl⟩ := Array.getElem?_eq_some_iff.mp hc
    have q := List.all_eq_true.mp ((Array.all_eq_true_iff_forall_mem.mp hF) _ (Array.getElem_mem ha)) i (List.mem_range.mpr hi)
    simpa [Array.getElem?_eq_getElem hi] using q
  obtain ⟨i0, ei0⟩ := is_v hv0
  obtain rfl : w0 = (.int i0) := Option.some.inj ei0
  obtain ⟨i1, ei1⟩ := is_v hv1
  obtain rfl : w1 = (.int i1) := Option.some.inj ei1
  obtain ⟨i2, ei2⟩ := is_v hv2
  obtain rfl : w2 = (.int i2) := Option.some.inj ei2
  obtain ⟨n, o, h1, h2, h3, _, L, rfl, ⟨rfl, N⟩, hq⟩ := rm0 l s _ hw tables_1 i0 i1 i2 s.heap s.heap.size (Nat.le_refl _)  p e ha hc hk s m _ below hf ((Spec.applies_iff_loose hf).mp happ).1 ⟨rfl, State.Warmed39.refl s, rfl⟩ trivial
  refine ⟨n, _, h1, h2, h3, hpost _ _ _ _ _ _ ⟨Cond.after_iff.mpr rfl, Cond.after_iff.mpr (eq_i res_at (Term.int_eval (1)) rfl), trivial⟩ ⟨hq.1, hq.2.1, (hq.2.2.sift fun y hy => Or.inr (N y hy)).mono (by decide) (by decide)⟩⟩
theorem main_1_1 : Claimed_1_1 := comes_1 fun _ _ _ _ _ _ h hF => ⟨h.1, hF⟩
theorem main_1_2 : Claimed_1_2 := comes_1 fun _ _ _ _ _ _ h hF => ⟨h.2.1, hF⟩
end Jvm.Pilot.@@N@@
namespace Jvm.Pilot.@@N@@
open Jvm Jvm.ClassFile Sem Op Lib Jvm.Free Jvm.Stand Jvm.Pilot.@@N@@.Jvm.D
/-! MADE BY PROGRAM (witnessworld.py) out of the Statement's table words and the real class files: 9 classes; the members and pool entries that the words name. The judged class is class 1, her method 2. -/
namespace start1
open Jvm.ClassFile
def u (s : String) : CpInfo := .utf8 (stringToUtf16 s)
/-- a pool by its gaps: so many unusable entries, then the entry; so many at the end -/
def gap : Nat → List CpInfo → List CpInfo
  | 0, r => r
  | n + 1, r => .unusable :: gap n r
def poolList (es : List (Nat × CpInfo)) (last : Nat) : List CpInfo := es.foldr (fun e r => gap e.1 (e.2 :: r)) (gap last [])
def pool (es : List (Nat × CpInfo)) (last : Nat) : Array CpInfo := ⟨poolList es last⟩
def fileOf (pool : Array CpInfo) (this : Nat) (attrs : Array Attribute := #[]) (ms : Array MethodInfo := #[]) (fl : Nat := 33) (sup : Nat := 0) (ifs : Array Nat := #[]) (fds : Array FieldInfo := #[]) : ClassFile where
  minorVersion := 0
  majorVersion := 65
  constantPool := pool
  accessFlags := fl
  thisClass := this
  superClass := sup
  interfaces := ifs
  fields := fds
  methods := ms
  attributes := attrs
def plain (name : String) (sup : Option ClassId) : Class where
  name := name
  kind := .ordinary
  loader := none
  accessFlags := 33
  super := sup
  interfaces := #[]
  cf := none
  fields := #[]
  methods := #[]
  instanceTypes := #[]
  staticTypes := #[]
  resolved := #[]
  callSites := []
  init := .initialized
  statics := none
  mirror := none

def pool0 : Array CpInfo := pool [(5, u "<init>"), (0, u "()V"), (1, .class_ 10), (1, u "java/lang/Object")] 113

def k0m0 : Method := { name := "<init>", desc := "()V", sig := { parameters := [], returnType := none }, accessFlags := 1, code := none }
/-- java/lang/Object -/
def k0 : Class := { plain "java/lang/Object" none with
  accessFlags := 33
  interfaces := #[]
  cf := some (fileOf pool0 8 #[] #[{ accessFlags := 1, nameIndex := 5, descriptorIndex := 6, attributes := #[] }] 33 0 #[] #[])
  fields := #[]
  methods := #[k0m0]
  instanceTypes := #[]
  staticTypes := #[]
  resolved := Array.replicate 124 none
  statics := none }

def pool1 : Array CpInfo := pool [(2, .class_ 4), (1, u "java/lang/Object"), (0, u "<init>"), (0, u "()V"), (0, .integer 1114111), (0, .integer 55296), (0, .integer 57343), (0, .integer 65534), (0, .integer 65535), (0, .integer 55295), (0, .integer 57344), (0, .integer 65533), (0, .integer 65536), (0, .integer 1114112), (2, .integer 2147483648), (0, .integer 2147483647), (0, .methodref 22 23), (0, .class_ 24), (0, .nameAndType 25 26), (0, u "com/example/rewoven_tree/rewoventree/storage/XmlChars"), (0, u "isXmlChar"), (0, u "(I)Z"), (0, .methodref 28 29), (0, .class_ 30), (0, .nameAndType 31 26), (0, u "com/example/rewoven_tree/rewoventree/storage/XmlCharsIsXmlCharPinLaw"), (0, u "reference"), (3, u "law"), (0, u "(III)Z")] 4

def k1m0 : Method := { name := "<init>", desc := "()V", sig := { parameters := [], returnType := none }, accessFlags := 2, code := none }
def k1c1 : Code := { maxStack := 2, maxLocals := 1, code := method_2_code, exceptionTable := #[], attributes := #[] }
def k1m1 : Method := { name := "reference", desc := "(I)Z", sig := { parameters := [.int], returnType := some .boolean }, accessFlags := 10, code := some k1c1 }
def k1c2 : Code := { maxStack := 4, maxLocals := 6, code := code, exceptionTable := #[], attributes := #[] }
def k1m2 : Method := { name := "law", desc := "(III)Z", sig := { parameters := [.int, .int, .int], returnType := some .boolean }, accessFlags := 9, code := some k1c2 }
/-- com/example/rewoven_tree/rewoventree/storage/XmlCharsIsXmlCharPinLaw -/
def k1 : Class := { plain "com/example/rewoven_tree/rewoventree/storage/XmlCharsIsXmlCharPinLaw" (some 0) with
  accessFlags := 49
  interfaces := #[]
  cf := some (fileOf pool1 28 #[] #[{ accessFlags := 2, nameIndex := 5, descriptorIndex := 6, attributes := #[] }, { accessFlags := 10, nameIndex := 31, descriptorIndex := 26, attributes := #[] }, { accessFlags := 9, nameIndex := 35, descriptorIndex := 36, attributes := #[] }] 49 2 #[] #[])
  fields := #[]
  methods := #[k1m0, k1m1, k1m2]
  instanceTypes := #[]
  staticTypes := #[]
  resolved := Array.replicate 41 none
  statics := none }

def pool2 : Array CpInfo := pool [(2, .class_ 4), (1, u "java/lang/Object"), (0, u "<init>"), (0, u "()V"), (1, .class_ 10), (1, u "com/example/rewoven_tree/rewoventree/storage/XmlChars"), (0, u "NAME_START_RANGES"), (0, u "[[I"), (7, u "(I)Z"), (2, u "NAME_RANGES_AFTER_START"), (38, .integer 55295), (0, .integer 57344), (0, .integer 65533), (0, .integer 65536), (0, .integer 1114111), (54, u "isXmlChar")] 31

def k2m0 : Method := { name := "<init>", desc := "()V", sig := { parameters := [], returnType := none }, accessFlags := 2, code := none }
def k2c1 : Code := { maxStack := 2, maxLocals := 1, code := prog_256_method_8_code, exceptionTable := #[], attributes := #[] }
def k2m1 : Method := { name := "isXmlChar", desc := "(I)Z", sig := { parameters := [.int], returnType := some .boolean }, accessFlags := 9, code := some k2c1 }
/-- com/example/rewoven_tree/rewoventree/storage/XmlChars -/
def k2 : Class := { plain "com/example/rewoven_tree/rewoventree/storage/XmlChars" (some 0) with
  accessFlags := 33
  interfaces := #[]
  cf := some (fileOf pool2 8 #[] #[{ accessFlags := 2, nameIndex := 5, descriptorIndex := 6, attributes := #[] }, { accessFlags := 9, nameIndex := 121, descriptorIndex := 20, attributes := #[] }] 33 2 #[] #[{ accessFlags := 25, nameIndex := 11, descriptorIndex := 12, attributes := #[] }, { accessFlags := 25, nameIndex := 23, descriptorIndex := 12, attributes := #[] }])
  fields := #[{ name := "NAME_START_RANGES", type := (.array (.array .int)), accessFlags := 25, slot := 0, constantValue := 0 }, { name := "NAME_RANGES_AFTER_START", type := (.array (.array .int)), accessFlags := 25, slot := 1, constantValue := 0 }]
  methods := #[k2m0, k2m1]
  instanceTypes := #[]
  staticTypes := #[(.array (.array .int)), (.array (.array .int))]
  resolved := Array.replicate 153 none
  statics := none }

def pool3 : Array CpInfo := pool [(1, u "java/lang/Cloneable"), (0, .class_ 1), (0, u "java/lang/Object"), (0, .class_ 3)] 3

/-- java/lang/Cloneable -/
def k3 : Class := { plain "java/lang/Cloneable" (some 0) with
  accessFlags := 1537
  interfaces := #[]
  cf := some (fileOf pool3 2 #[] #[] 1537 4 #[] #[])
  fields := #[]
  methods := #[]
  instanceTypes := #[]
  staticTypes := #[]
  resolved := Array.replicate 8 none
  statics := none }

def pool4 : Array CpInfo := pool [(1, u "java/io/Serializable"), (0, .class_ 1), (0, u "java/lang/Object"), (0, .class_ 3)] 3

/-- java/io/Serializable -/
def k4 : Class := { plain "java/io/Serializable" (some 0) with
  accessFlags := 1537
  interfaces := #[]
  cf := some (fileOf pool4 2 #[] #[] 1537 4 #[] #[])
  fields := #[]
  methods := #[]
  instanceTypes := #[]
  staticTypes := #[]
  resolved := Array.replicate 8 none
  statics := none }

/-- the primitive byte -/
def k5 : Class := { plain "byte" none with kind := .primitive 'B', accessFlags := 0x411 }
/-- [B -/
def k6 : Class := { plain "[B" (some 0) with kind := .array 5 .byte, interfaces := #[3, 4], accessFlags := 1041 }

/-- the primitive int -/
def k7 : Class := { plain "int" none with kind := .primitive 'I', accessFlags := 0x411 }
/-- [I -/
def k8 : Class := { plain "[I" (some 0) with kind := .array 7 .int, interfaces := #[3, 4], accessFlags := 1041 }

def heap : Heap := #[]
def classes : Array Class := #[k0, k1, k2, k3, k4, k5, k6, k7, k8]
def interned : List (Array UInt16 × Addr) := []
def slotsUsed : Nat := 0
def theMethod : MethodId := ⟨1, 2⟩
def args0 : Array Value := #[.int 5, .int 7, .int 2]
def aboutOver (below : List Frame) : State where
  vm := { classes := classes, interned := interned.toArray }
  heap := heap
  slotsUsed := slotsUsed
  threads := #[{ frames := .invoking theMethod args0 :: below }]
def below0 : List Frame := [.native { method := ⟨0, 0⟩, args := #[] }]
def about1 : State := aboutOver below0
def p0 : Program := .bare "" "" ""
def e0 : Env := launch0.env 0 0 0
theorem w_frames : about1.frames = Frame.invoking theMethod args0 :: below0 := rfl
set_option maxRecDepth 65536 in
theorem w_args : argsFit about1.vm theMethod args0 = true := by decide +kernel
set_option maxRecDepth 65536 in
theorem w_heap : heapFits about1 = true := by decide +kernel
set_option maxRecDepth 65536 in
theorem w_runnable : about1.curStatus? = some .runnable := by decide +kernel
set_option maxRecDepth 65536 in
theorem w_alone : about1.alone = true := by decide +kernel
set_option maxRecDepth 65536 in
theorem w_named : about1.methodNamed? x = some theMethod := by decide +kernel
set_option maxRecDepth 65536 in
theorem w_hears : about1.hears theMethod below0 = true := by decide +kernel
set_option maxRecDepth 65536 in
theorem w_ripe : about1.ripe theMethod args0 below0 = true := by decide +kernel
theorem w_running : about1.status = .running := rfl
set_option maxRecDepth 65536 in
theorem w_room : about1.hasRoom e0.platform room_1 = true :=
  launch0.hasRoom_least _ room_1 (by decide +kernel) (by decide +kernel) (by decide +kernel) (by decide +kernel) (by decide +kernel) (by decide +kernel)
theorem allAtoms_all (ts : List Jvm.Cond) (a : Array Jvm.Value) (st : Jvm.State) : (allAtoms ts).before a st = ts.all (fun c => c.before a st) := by
  induction ts with
  | nil => rfl
  | cons c t ih =>
    show (Jvm.Cond.and c (allAtoms t)).before a st = _
    rw [Jvm.Cond.before_and, ih, List.all_cons]
def words1 : List Jvm.Cond := Jvm.Cond.code x code maxLocals ret :: tables_1
/-- a 'code' word, met by the world's own term for the bytes: nothing is compared byte by byte -/
theorem code_word {y : MethodName} {bytes : ByteArray} {mx : Nat} {rt : Option FieldType} {a : Array Value} {s : State} {m : MethodId} {meth : Method} {c : Code} (h1 : s.methodNamed? y = some m) (h2 : s.vm.method? m = some meth) (h3 : meth.code = some c) (h4 : c.code = bytes)
    (h5 : (c.maxLocals == mx && c.exceptionTable.isEmpty && decide (c.maxStack ≤ mostOperands) && decide (meth.sig.returnType = rt) && !meth.locks && decide (parseMethodDescriptor y.desc = some meth.sig)) = true) : (Jvm.Cond.code y bytes mx rt).before a s = true := by
  simp only [Bool.and_eq_true, beq_iff_eq, Bool.not_eq_true', decide_eq_true_eq] at h5
  obtain ⟨⟨⟨⟨⟨g1, g2⟩, g3⟩, g4⟩, g5⟩, g6⟩ := h5
  simp [Cond.before, Cond.holds, Cond.value, h1, h2, h3, h4, g1, g2, g3, g4, g5, g6]
def isCode : Jvm.Cond → Bool
  | .code _ _ _ _ => true
  | _ => false
theorem all_split {L : List Jvm.Cond} {P : Jvm.Cond → Bool} (h1 : L.all (fun c => isCode c || P c) = true) (h2 : ∀ c ∈ L.filter isCode, P c = true) : L.all P = true := by
  refine List.all_eq_true.mpr fun c hc => ?_
  have h := List.all_eq_true.mp h1 c hc
  rcases Bool.eq_false_or_eq_true (isCode c) with hi | hi
  · exact h2 c (List.mem_filter.mpr ⟨hc, hi⟩)
  · simpa [hi] using h
set_option maxRecDepth 65536 in
theorem w_c0 : (Jvm.Cond.code x code maxLocals ret).before args0 about1 = true := code_word (m := ⟨1, 2⟩) (meth := k1m2) (c := k1c2) (by decide +kernel) rfl rfl rfl (by decide +kernel)
set_option maxRecDepth 65536 in
theorem w_c1 : (Jvm.Cond.code ({ cls := "com/example/rewoven_tree/rewoventree/storage/XmlChars", name := "isXmlChar", desc := "(I)Z" } : Jvm.MethodName) prog_256_method_8_code (1 : Nat) (Option.some Jvm.ClassFile.FieldType.boolean)).before args0 about1 = true := code_word (m := ⟨2, 1⟩) (meth := k2m1) (c := k2c1) (by decide +kernel) rfl rfl rfl (by decide +kernel)
set_option maxRecDepth 65536 in
theorem w_c2 : (Jvm.Cond.code ({ cls := "com/example/rewoven_tree/rewoventree/storage/XmlCharsIsXmlCharPinLaw", name := "reference", desc := "(I)Z" } : Jvm.MethodName) method_2_code (1 : Nat) (Option.some Jvm.ClassFile.FieldType.boolean)).before args0 about1 = true := code_word (m := ⟨1, 1⟩) (meth := k1m1) (c := k1c1) (by decide +kernel) rfl rfl rfl (by decide +kernel)
def codes1 : List Jvm.Cond := [Jvm.Cond.code x code maxLocals ret, Jvm.Cond.code ({ cls := "com/example/rewoven_tree/rewoventree/storage/XmlChars", name := "isXmlChar", desc := "(I)Z" } : Jvm.MethodName) prog_256_method_8_code (1 : Nat) (Option.some Jvm.ClassFile.FieldType.boolean), Jvm.Cond.code ({ cls := "com/example/rewoven_tree/rewoventree/storage/XmlCharsIsXmlCharPinLaw", name := "reference", desc := "(I)Z" } : Jvm.MethodName) method_2_code (1 : Nat) (Option.some Jvm.ClassFile.FieldType.boolean)]
set_option maxRecDepth 65536 in
theorem codes_eq : words1.filter isCode = codes1 := rfl
theorem w_codes : ∀ c ∈ words1.filter isCode, c.before args0 about1 = true := by
  rw [codes_eq]
  intro c hc
  simp only [codes1, List.mem_cons, List.not_mem_nil, or_false] at hc
  rcases hc with rfl | rfl | rfl
  · exact w_c0
  · exact w_c1
  · exact w_c2
set_option maxRecDepth 65536 in
theorem w_t1 : (words1.take 24).all (fun c => isCode c || c.before args0 about1) = true := by decide +kernel
set_option maxRecDepth 65536 in
theorem w_t2 : (words1.drop 24).all (fun c => isCode c || c.before args0 about1) = true := by decide +kernel
theorem w_tables : (allAtoms (Jvm.Cond.code x code maxLocals ret :: tables_1)).before args0 about1 = true := by
  rw [allAtoms_all]
  show words1.all (fun c => c.before args0 about1) = true
  refine all_split ?_ w_codes
  rw [← List.take_append_drop 24 words1, List.all_append, w_t1, w_t2]
  rfl
set_option maxRecDepth 65536 in
theorem w_case : (Jvm.Cond.and given_1 narrow_1).before args0 about1 = true := by decide +kernel
theorem w_applies : (headSpec (Jvm.Cond.code x code maxLocals ret :: tables_1) room_1).applies x e0.platform about1 = true :=
  (Spec.applies_iff w_frames).mpr ⟨w_running, w_runnable, w_alone, w_named, w_hears, w_ripe, w_room, w_tables⟩
theorem atStart : AtStart classFile x code maxLocals ret World_1 tables_1 room_1 Calls_1 rest_1 Pre_1 launch0 p0 e0 about1 theMethod args0 below0 :=
  ⟨lists_1, trivial, launch0.admits_env _ _ _, launch0.least_env, fairChoices_fair.cas, fairChoices_fair.clock, w_frames, w_args, w_heap, w_applies, trivial, trivial, w_case⟩
end start1
theorem witness_1 : WitnessClaimed_1 := ⟨start1.p0, start1.e0, start1.about1, start1.theMethod, start1.args0, start1.below0, start1.atStart⟩
end Jvm.Pilot.@@N@@
