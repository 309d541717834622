import JvmDerived
import JvmDerived.Pilot.@@N@@Statement
import JvmDerived.Pilot.@@N@@Code
set_option linter.unusedVariables false
set_option linter.unusedSimpArgs false
namespace Jvm.Pilot.@@N@@
open Jvm Jvm.ClassFile Sem Op Lib Jvm.Free Jvm.Stand Jvm.LawKit Jvm.RoadKit Bundle Jvm.Pilot.@@N@@.Jvm.D
section Own
variable {p : Program} {l : Launch} {e : Env} {R : Room} {s : State} {m : MethodId} {args : Array Value} {below : List Frame} {meth : Method} {c : Code} {T : State} {locs : List Loc} {cells slots : Nat} {Z : State} {a0 : Array Value} {h : Heap}
/-- the run from A ends by returning, Q holds of what it returned and of the heap, and no more than k cells and n slots are new -/
def OwnEnd (p : Program) (e : Env) (below : List Frame) (s : State) (Q : Option Value → Heap → List Loc → Prop) (k n : Nat) (A : State) : Prop :=
  ∃ t o, Steps p.tables e below A t ∧ t.status = .running ∧ Ended t below o ∧ ∃ v L, o = .returned v ∧ Q v t.heap L ∧ FrameEnd s o t L k n
theorem OwnEnd.go {Q : Option Value → Heap → List Loc → Prop} {k n : Nat} {A B : State} (st : ∀ t, Steps p.tables e below B t → Steps p.tables e below A t) (K : OwnEnd p e below s Q k n B) : OwnEnd p e below s Q k n A := by
  obtain ⟨t, o, h1, h2⟩ := K
  exact ⟨t, o, st t h1, h2⟩
theorem OwnEnd.stop {Q : Option Value → Heap → List Loc → Prop} {k n : Nat} {A : State} (X : Stand p l e R s m args below meth c T locs cells slots) (hlk : meth.locks = false) {v : Option Value} (hv : meth.sig.returnType = none → v = none)
    (st : ∀ fs, (∀ (f : JFrame) (acts : List Action), f.method = m → f.locked = none → f.entered = [] → (doReturn e (T.setTop f) acts v).1 = T.setFrames fs) → Steps p.tables e below A (T.setFrames fs))
    (hk : cells ≤ k) (hn : slots ≤ n) (hQ : Q v T.heap locs) : OwnEnd p e below s Q k n A := by
  obtain ⟨fs, hr, hrun, hended, hW, hsame⟩ := X.leave hv hlk
  exact ⟨_, _, st fs hr, hrun, hended, _, _, rfl, hQ, ⟨_, rfl⟩, hW, hsame.mono hk hn⟩
theorem OwnEnd.weak {Q Q' : Option Value → Heap → List Loc → Prop} {k n : Nat} {A : State} (K : OwnEnd p e below s Q k n A) (q : ∀ v h L, Q v h L → Q' v h L) : OwnEnd p e below s Q' k n A := by
  obtain ⟨t, o, h1, h2, h3, v, L, h4, h5, h6⟩ := K
  exact ⟨t, o, h1, h2, h3, v, L, h4, q _ _ _ h5, h6⟩
/-- the returns -/
theorem ownRetI {Q : Option Value → Heap → List Loc → Prop} {k n : Nat} (X : Stand p l e R s m args below meth c T locs cells slots) (hx : p.tables.exec = Jvm.exec) (hlk : meth.locks = false) {pc : Nat} {Ls : Array Slot} {z : Int32} {rest : List Value} (hret : meth.sig.returnType = some .int) (hd : decode c.code pc = .ok (.ireturn, 1))
    (hk : cells ≤ k) (hn : slots ≤ n) (hQ : Q (some (.int z)) T.heap locs) : OwnEnd p e below s Q k n (T.setTop (mkF m pc Ls (.int z :: rest))) :=
  OwnEnd.stop X hlk (fun q => by rw [hret] at q; cases q) (fun fs hr => retOut X hx hret rfl (Or.inl ⟨rfl, Or.inl rfl, z, rfl⟩) hd hr) hk hn hQ
theorem ownRetZ {Q : Option Value → Heap → List Loc → Prop} {k n : Nat} (X : Stand p l e R s m args below meth c T locs cells slots) (hx : p.tables.exec = Jvm.exec) (hlk : meth.locks = false) {pc : Nat} {Ls : Array Slot} {z : Int32} {rest : List Value} (hret : meth.sig.returnType = some .boolean) (hd : decode c.code pc = .ok (.ireturn, 1))
    (hk : cells ≤ k) (hn : slots ≤ n) (w : Int32) (hw : nar .boolean z = w) (hQ : Q (some (.int w)) T.heap locs) : OwnEnd p e below s Q k n (T.setTop (mkF m pc Ls (.int z :: rest))) :=
  OwnEnd.stop X hlk (fun q => by rw [hret] at q; cases q) (fun fs hr => retN X hx (t := .boolean) hret (by simp) hd (by rw [hw]; exact hr)) hk hn hQ
theorem ownRetJ {Q : Option Value → Heap → List Loc → Prop} {k n : Nat} (X : Stand p l e R s m args below meth c T locs cells slots) (hx : p.tables.exec = Jvm.exec) (hlk : meth.locks = false) {pc : Nat} {Ls : Array Slot} {z : Int64} {rest : List Value} (hret : meth.sig.returnType = some .long) (hd : decode c.code pc = .ok (.lreturn, 1))
    (hk : cells ≤ k) (hn : slots ≤ n) (hQ : Q (some (.long z)) T.heap locs) : OwnEnd p e below s Q k n (T.setTop (mkF m pc Ls (.long z :: rest))) :=
  OwnEnd.stop X hlk (fun q => by rw [hret] at q; cases q) (fun fs hr => retOut X hx hret rfl (Or.inr (Or.inl ⟨rfl, rfl, z, rfl⟩)) hd hr) hk hn hQ
theorem ownRetA {Q : Option Value → Heap → List Loc → Prop} {k n : Nat} (X : Stand p l e R s m args below meth c T locs cells slots) (hx : p.tables.exec = Jvm.exec) (hlk : meth.locks = false) {pc : Nat} {Ls : Array Slot} {w : Value} {rest : List Value} {t : FieldType} (hret : meth.sig.returnType = some t) (ht : t.isReference = true) (hw : w.isRef = true) (hn' : narrow t w = w) (hd : decode c.code pc = .ok (.areturn, 1))
    (hk : cells ≤ k) (hn : slots ≤ n) (hQ : Q (some w) T.heap locs) : OwnEnd p e below s Q k n (T.setTop (mkF m pc Ls (w :: rest))) :=
  OwnEnd.stop X hlk (fun q => by rw [hret] at q; cases q) (fun fs hr => retOut X hx hret hn' (Or.inr (Or.inr (Or.inr (Or.inr ⟨rfl, ht, hw⟩)))) hd hr) hk hn hQ
theorem ownRetV {Q : Option Value → Heap → List Loc → Prop} {k n : Nat} (X : Stand p l e R s m args below meth c T locs cells slots) (hx : p.tables.exec = Jvm.exec) (hlk : meth.locks = false) {pc : Nat} {Ls : Array Slot} (hret : meth.sig.returnType = none) (hd : decode c.code pc = .ok (.return_, 1))
    (hk : cells ≤ k) (hn : slots ≤ n) (hQ : Q none T.heap locs) : OwnEnd p e below s Q k n (T.setTop (mkF m pc Ls [])) :=
  OwnEnd.stop X hlk (fun _ => rfl) (fun fs hr => X.returnOut hx hret hd hr) hk hn hQ
/-- the calls, each by the callee's own theorem -/
theorem ownCallS (X : Stand p l e R s m args below meth c T locs cells slots) (hx : p.tables.exec = Jvm.exec) (hZ : Z.Warmed39 s.vm) {own : String} {index : Nat} {y : MethodName} {bytes : ByteArray} {maxL : Nat} {ret : Option FieldType} {rm : Room} {as' : Array Value} {Q : Option Value → Heap → List Loc → Prop} (hown : s.vm.findClass own = some m.cls)
    (w1 : (Cond.methodLink own index y).before a0 Z = true) (w2 : (Cond.static y).before a0 Z = true) (w3 : (Cond.initialized y.cls).before a0 Z = true) (w4 : (Cond.code y bytes maxL ret).before a0 Z = true) (hy : y.cls ≠ "java/lang/invoke/MethodHandle" ∧ y.cls ≠ "java/lang/invoke/VarHandle")
    (hM : MetFree l y (head1 [Cond.code y bytes maxL ret] rm) (fun a U => a = as' ∧ Z.Warmed39 U.vm ∧ U.heap = h) (fun _ _ _ _ _ => True) (fun _ U o U' => ∃ v L, o = .returned v ∧ Q v U'.heap L ∧ FrameEnd U o U' L rm.cells rm.slots)) (eT : T.heap = h)
    (W : Nat) (hf : rm.frames + 1 ≤ R.frames) (hl : W + (maxL + 11) + rm.locals ≤ R.locals) (hc : cells + rm.cells ≤ R.cells) (hs : slots + rm.slots ≤ R.slots) {g : JFrame} (hg : g.method = m) (hsize : g.locals.size = c.maxLocals) {argsL rest : List Value} (hlen : ∀ sig, parseMethodDescriptor y.desc = some sig → argsL.length = sig.parameters.length)
    (hstack : g.stack = argsL.reverse ++ rest) (has : argsL.toArray = as') (hW : 2 * g.monitorRoom + (rest.map fun v => v.category).sum ≤ W) (hdg : decode c.code g.pc = .ok (.invokestatic index, 3)) :
    ∃ (v : Option Value) (T' : State) (L : List Loc), Stand p l e R s m args below meth c T' (locs ++ L) (cells + rm.cells) (slots + rm.slots) ∧ Q v T'.heap L ∧ ∀ target, Steps p.tables e below (T'.setTop { g with pc := g.pc + 3, stack := v.toList ++ rest }) target → Steps p.tables e below (T.setTop g) target := by
  obtain ⟨v, vm₁, ⟨T', L', k', n'⟩, -, X', ⟨L, hQ, l', y', z'⟩, st⟩ := Jvm.LawKit.callS X hx hown (mvT hZ w1) (mvT hZ w2) (mvT hZ w3) (mvT hZ w4) hy (backOf (W := W) hM hZ w4 w3 hf hl) hg hsize hlen hstack hW hdg (fun _ _ => ⟨has, eT, hc, hs⟩)
  dsimp only [Pt.U, Pt.locs, Pt.cells, Pt.slots] at X' l' y' z' st hQ
  subst l' y' z'
  exact ⟨v, T', L, X', hQ, st⟩
theorem ownCallV (X : Stand p l e R s m args below meth c T locs cells slots) (hx : p.tables.exec = Jvm.exec) (hZ : Z.Warmed39 s.vm) {own C : String} {index : Nat} {y : MethodName} {bytes : ByteArray} {maxL : Nat} {ret : Option FieldType} {rm : Room} {as' : Array Value} {Q : Option Value → Heap → List Loc → Prop} (hown : s.vm.findClass own = some m.cls)
    (w1 : (Cond.methodLink own index y).before a0 Z = true) (w2 : (Cond.declares y).before a0 Z = true) (w5 : (Cond.selects C y y).before a0 Z = true) (w6 : (Cond.instanceMethod y).before a0 Z = true) (w3 : (Cond.initialized y.cls).before a0 Z = true) (w4 : (Cond.code y bytes maxL ret).before a0 Z = true) (hy : y.cls ≠ "java/lang/invoke/MethodHandle" ∧ y.cls ≠ "java/lang/invoke/VarHandle")
    (hM : MetFree l y (head1 [Cond.code y bytes maxL ret] rm) (fun a U => a = as' ∧ Z.Warmed39 U.vm ∧ U.heap = h) (fun _ _ _ _ _ => True) (fun _ U o U' => ∃ v L, o = .returned v ∧ Q v U'.heap L ∧ FrameEnd U o U' L rm.cells rm.slots)) (eT : T.heap = h) {b : Addr} (E : Exa Z h b C)
    (W : Nat) (hf : rm.frames + 1 ≤ R.frames) (hl : W + (maxL + 11) + rm.locals ≤ R.locals) (hc : cells + rm.cells ≤ R.cells) (hs : slots + rm.slots ≤ R.slots) {g : JFrame} (hg : g.method = m) (hsize : g.locals.size = c.maxLocals) {argsL rest : List Value} (hlen : ∀ sig, parseMethodDescriptor y.desc = some sig → argsL.length = sig.parameters.length)
    (hstack : g.stack = argsL.reverse ++ .ref b :: rest) (has : (.ref b :: argsL).toArray = as') (hW : 2 * g.monitorRoom + (rest.map fun v => v.category).sum ≤ W) (hdg : decode c.code g.pc = .ok (.invokevirtual index, 3)) :
    ∃ (v : Option Value) (T' : State) (L : List Loc), Stand p l e R s m args below meth c T' (locs ++ L) (cells + rm.cells) (slots + rm.slots) ∧ Q v T'.heap L ∧ ∀ target, Steps p.tables e below (T'.setTop { g with pc := g.pc + 3, stack := v.toList ++ rest }) target → Steps p.tables e below (T.setTop g) target := by
  obtain ⟨cq, kq, qa, qb, qc⟩ := isOf hZ eT E
  obtain ⟨v, vm₁, ⟨T', L', k', n'⟩, -, X', ⟨L, hQ, l', y', z'⟩, st⟩ := X.virtualBack hx hown (mvT hZ w1) (mvT hZ w2) (notFace_of_selects (args := #[]) (mvT hZ w5)) (mvT hZ w5) (mvT hZ w6) hy (backOf (W := W) hM hZ w4 w3 hf hl) qa qc hg hsize (Steps.refl _) hlen hstack hW hdg (fun _ _ => ⟨has, eT, hc, hs⟩)
  dsimp only [Pt.U, Pt.locs, Pt.cells, Pt.slots] at X' l' y' z' st hQ
  subst l' y' z'
  exact ⟨v, T', L, X', hQ, fun _ k => st.trans k⟩
theorem ownCallI (X : Stand p l e R s m args below meth c T locs cells slots) (hx : p.tables.exec = Jvm.exec) (hZ : Z.Warmed39 s.vm) {own : String} {index : Nat} {y : MethodName} {bytes : ByteArray} {maxL : Nat} {rm : Room} {as' : Array Value} {Q : Option Value → Heap → List Loc → Prop} (hown : s.vm.findClass own = some m.cls) (hy1 : y.name = "<init>")
    (w1 : (Cond.methodLink own index y).before a0 Z = true) (w6 : (Cond.instanceMethod y).before a0 Z = true) (w3 : (Cond.initialized y.cls).before a0 Z = true) (w4 : (Cond.code y bytes maxL none).before a0 Z = true) (hy : y.cls ≠ "java/lang/invoke/MethodHandle" ∧ y.cls ≠ "java/lang/invoke/VarHandle")
    (hM : MetFree l y (head1 [Cond.code y bytes maxL none] rm) (fun a U => a = as' ∧ Z.Warmed39 U.vm ∧ U.heap = h) (fun _ _ _ _ _ => True) (fun _ U o U' => ∃ v L, o = .returned v ∧ Q v U'.heap L ∧ FrameEnd U o U' L rm.cells rm.slots)) (eT : T.heap = h) {b : Addr}
    (W : Nat) (hf : rm.frames + 1 ≤ R.frames) (hl : W + (maxL + 11) + rm.locals ≤ R.locals) (hc : cells + rm.cells ≤ R.cells) (hs : slots + rm.slots ≤ R.slots) {g : JFrame} (hg : g.method = m) (hsize : g.locals.size = c.maxLocals) {argsL rest : List Value} (hlen : ∀ sig, parseMethodDescriptor y.desc = some sig → argsL.length = sig.parameters.length)
    (hstack : g.stack = argsL.reverse ++ .ref b :: rest) (has : (.ref b :: argsL).toArray = as') (hW : 2 * g.monitorRoom + (rest.map fun v => v.category).sum ≤ W) (hdg : decode c.code g.pc = .ok (.invokespecial index, 3)) :
    ∃ (v : Option Value) (T' : State) (L : List Loc), Stand p l e R s m args below meth c T' (locs ++ L) (cells + rm.cells) (slots + rm.slots) ∧ Q v T'.heap L ∧ ∀ target, Steps p.tables e below (T'.setTop { g with pc := g.pc + 3, stack := v.toList ++ rest }) target → Steps p.tables e below (T.setTop g) target := by
  obtain ⟨v, vm₁, ⟨T', L', k', n'⟩, -, X', ⟨L, hQ, l', y', z'⟩, st⟩ := X.specialBack hx hy1 hown (mvT hZ w1) (mvT hZ w6) (mvT hZ w4) hy (backOf (W := W) hM hZ w4 w3 hf hl) hg hsize (Steps.refl _) hlen hstack hW hdg (fun _ _ => ⟨has, eT, hc, hs⟩)
  dsimp only [Pt.U, Pt.locs, Pt.cells, Pt.slots] at X' l' y' z' st hQ
  subst l' y' z'
  exact ⟨v, T', L, X', hQ, fun _ k => st.trans k⟩
end Own
section Own2
variable {p : Program} {l : Launch} {e : Env} {R : Room} {s : State} {m : MethodId} {args : Array Value} {below : List Frame} {meth : Method} {c : Code} {T : State} {locs : List Loc} {cells slots : Nat} {Z : State} {a0 : Array Value} {h : Heap}
/-- branches behind lcmp -/
theorem ownLt {x y : Int64} (q : x < y) : ifCond.holds .lt (lcmpW x y) = true ∧ ifCond.holds .ge (lcmpW x y) = false ∧ ifCond.holds .gt (lcmpW y x) = true ∧ ifCond.holds .le (lcmpW y x) = false := by
  simp only [if0]
  have h1 : lcmpW x y < 0 := by rw [lcW]; exact (lc_lt x y).2 q
  have h2 : 0 < lcmpW y x := by rw [lcW]; exact (lc_gt y x).2 q
  exact ⟨(tlt h1).1, (tlt h1).2.1, (tlt h2).2.2.1, (tlt h2).2.2.2⟩
theorem ownNlt {x y : Int64} (q : ¬ x < y) : ifCond.holds .lt (lcmpW x y) = false ∧ ifCond.holds .ge (lcmpW x y) = true ∧ ifCond.holds .gt (lcmpW y x) = false ∧ ifCond.holds .le (lcmpW y x) = true := by
  simp only [if0]
  have h1 : ¬ lcmpW x y < 0 := by rw [lcW]; exact fun z => q ((lc_lt x y).1 z)
  have h2 : ¬ 0 < lcmpW y x := by rw [lcW]; exact fun z => q ((lc_gt y x).1 z)
  exact ⟨(flt h1).1, (flt h1).2.1, (flt h2).2.2.1, (flt h2).2.2.2⟩
theorem ownEq {x y : Int64} (q : x = y) : ifCond.holds .eq (lcmpW x y) = true ∧ ifCond.holds .ne (lcmpW x y) = false := by
  simp only [if0]
  have h1 : lcmpW x y = 0 := by rw [lcW]; exact (lc_eq x y).2 q
  exact teq h1
theorem ownNeq {x y : Int64} (q : ¬ x = y) : ifCond.holds .eq (lcmpW x y) = false ∧ ifCond.holds .ne (lcmpW x y) = true := by
  simp only [if0]
  have h1 : ¬ lcmpW x y = 0 := by rw [lcW]; exact fun z => q ((lc_eq x y).1 z)
  exact feq h1
theorem ownLrem {tb : Tables} [Ours tb] {e : Env} {below : List Frame} {T target : State} {m : MethodId} {c : Code} {g : JFrame} (h : At T m c below) (hx : tb.exec = Jvm.exec) (hg : g.method = m) {x y : Int64} {rest : List Value} (hd : decode c.code g.pc = .ok (.lrem, 1)) (hs : g.stack = .long y :: .long x :: rest) (hy : y ≠ 0)
    (hr : Steps tb e below (T.setTop { g with pc := g.pc + 1, stack := .long (x % y) :: rest }) target) : Steps tb e below (T.setTop g) target :=
  XS.lrem h hx hg hd hs hy (by rw [lrem_mod]; exact hr)
theorem ownLen (X : Stand p l e R s m args below meth c T locs cells slots) (hx : p.tables.exec = Jvm.exec) (hZ : Z.Warmed39 s.vm) (eT : T.heap = h) {a : Addr} {cl : Cell} {ty : FieldType} {z : Int32} (A : Arr Z h a cl ty) (S : cl.slots.size = z.toNatClampNeg) (q : ¬ z < 0) {g : JFrame} (hg : g.method = m) {rest : List Value} (hs : g.stack = .ref a :: rest) (hd : decode c.code g.pc = .ok (.arraylength, 1)) :
    ∀ target, Steps p.tables e below (T.setTop { g with pc := g.pc + 1, stack := .int z :: rest }) target → Steps p.tables e below (T.setTop g) target := fun target k =>
  X.arraylength hx (by rw [eT]; exact A.1) (State.isArrayOf_alike hZ.alike A.2.1) hg hs hd target (by rw [len_of S q]; exact k)
theorem ownOrd {C f d : String} {a : Addr} {v : Int32} {args : Array Value} (ev : (Term.static C f d).eval args Z none [] Z = some (.ref a)) (hq : (Jvm.Cond.eq (Term.field (Term.static C f d) "java/lang/Enum" "ordinal" "I") (Term.int v)).value args Z none Z [] = some true) : Fld Z Z.heap a "java/lang/Enum" "ordinal" "I" (.int v) := by
  obtain ⟨x, y, h1, h2, h3, h4⟩ := cmp_v (Or.inl hq)
  rw [fld_at ev] at h1
  cases h2
  obtain ⟨z, rfl⟩ := h4
  have h5 : (Term.field (Term.static C f d) "java/lang/Enum" "ordinal" "I").eval args Z none [] Z = some (.int z) := by rw [fld_at ev]; exact h1
  have : z = v := gotT (Cond.eq_ints h5 (Term.int_eval v)) hq
  subst this
  exact Fld.start h1
end Own2
section Own3
variable {p : Program} {l : Launch} {e : Env} {R : Room} {s : State} {m : MethodId} {args : Array Value} {below : List Frame} {meth : Method} {c : Code} {T : State} {locs : List Loc} {cells slots : Nat} {Z : State} {a0 : Array Value} {h : Heap}
/-- two ways that come to one place, the heap as it was -/
def ownDia {α : Type} (X : Stand p l e R s m args below meth c T locs cells slots) (h : Heap) (P : α → Prop) (f : α → JFrame) (g : JFrame) : Prop :=
  ∃ (T' : State) (v : α), Stand p l e R s m args below meth c T' locs cells slots ∧ T'.heap = h ∧ P v ∧ ∀ t, Steps p.tables e below (T'.setTop (f v)) t → Steps p.tables e below (T.setTop g) t
end Own3

def own_eq2 (a b c : Addr) : Int32 := if a = b ∨ a = c then 1 else 0
theorem own_eq2_l (a c : Addr) : own_eq2 a a c = 1 := by unfold own_eq2; rw [if_pos (Or.inl rfl)]
theorem own_eq2_r (a b : Addr) : own_eq2 a b a = 1 := by unfold own_eq2; rw [if_pos (Or.inr rfl)]
theorem own_eq2_n {a b c : Addr} (h1 : a ≠ b) (h2 : a ≠ c) : own_eq2 a b c = 0 := by unfold own_eq2; rw [if_neg]; rintro (q | q); exact h1 q; exact h2 q
theorem own_eq2_01 (a b c : Addr) : own_eq2 a b c = 0 ∨ own_eq2 a b c = 1 := by unfold own_eq2; split; exact Or.inr rfl; exact Or.inl rfl
theorem own_mod (x n : Int32) (hn : 0 < n.toInt) : 0 ≤ ((x &&& (2147483647 : Int32)) % n).toInt ∧ ((x &&& (2147483647 : Int32)) % n).toInt < n.toInt := by
  have h1 := c_mask x 2147483647 31 (by decide) (by decide)
  have h2 : 0 ≤ (x &&& (2147483647 : Int32)).toInt := by rw [h1]; exact Int.emod_nonneg _ (by decide)
  exact ⟨((c_iremV _ n).1 h2 hn).1, ((c_iremV _ n).1 h2 hn).2.1⟩
theorem own_ne {k : Int32} {n : Int} (h : ¬ k = Int32.ofInt n) (h1 : -2147483648 ≤ n) (h2 : n ≤ 2147483647) : ¬ k.toInt = n := fun q => h (by apply Int32.toInt_inj.mp; rw [q, Int32.toInt_ofInt_of_le h1 (by omega)])

theorem own_last (p1 : Int32) (h0 : ¬ ((p1 &&& (2147483647 : Int32)) % (7 : Int32)) = (0 : Int32)) (h1 : ¬ ((p1 &&& (2147483647 : Int32)) % (7 : Int32)) = (1 : Int32)) (h2 : ¬ ((p1 &&& (2147483647 : Int32)) % (7 : Int32)) = (2 : Int32)) (h3 : ¬ ((p1 &&& (2147483647 : Int32)) % (7 : Int32)) = (3 : Int32)) (h4 : ¬ ((p1 &&& (2147483647 : Int32)) % (7 : Int32)) = (4 : Int32)) (h5 : ¬ ((p1 &&& (2147483647 : Int32)) % (7 : Int32)) = (5 : Int32)) : ((p1 &&& (2147483647 : Int32)) % (7 : Int32)) = (6 : Int32) := by
  obtain ⟨r1, r2⟩ := own_mod p1 7 (by decide)
  generalize ((p1 &&& (2147483647 : Int32)) % (7 : Int32)) = k at *
  have e : (7 : Int32).toInt = 7 := by decide
  have g0 := own_ne (n := 0) h0 (by decide) (by decide)
  have g1 := own_ne (n := 1) h1 (by decide) (by decide)
  have g2 := own_ne (n := 2) h2 (by decide) (by decide)
  have g3 := own_ne (n := 3) h3 (by decide) (by decide)
  have g4 := own_ne (n := 4) h4 (by decide) (by decide)
  have g5 := own_ne (n := 5) h5 (by decide) (by decide)
  apply Int32.toInt_inj.mp
  have e' : (6 : Int32).toInt = 6 := by decide
  omega

theorem d1_0 : decode prog_67_method_5_code 0 = .ok (.aload_n 0, 1) := by decide +kernel
theorem d1_1 : decode prog_67_method_5_code 1 = .ok (.getstatic 10, 3) := by decide +kernel
theorem d1_4 : decode prog_67_method_5_code 4 = .ok (.if_acmp .eq 10, 3) := by decide +kernel
theorem d1_7 : decode prog_67_method_5_code 7 = .ok (.aload_n 0, 1) := by decide +kernel
theorem d1_8 : decode prog_67_method_5_code 8 = .ok (.getstatic 16, 3) := by decide +kernel
theorem d1_11 : decode prog_67_method_5_code 11 = .ok (.if_acmp .ne 7, 3) := by decide +kernel
theorem d1_14 : decode prog_67_method_5_code 14 = .ok (.iconst 1, 1) := by decide +kernel
theorem d1_15 : decode prog_67_method_5_code 15 = .ok (.goto 4, 3) := by decide +kernel
theorem d1_18 : decode prog_67_method_5_code 18 = .ok (.iconst 0, 1) := by decide +kernel
theorem d1_19 : decode prog_67_method_5_code 19 = .ok (.ireturn, 1) := by decide +kernel
theorem pn_1 : plainName "com/example/isolation_anomaly_finder/isolationanomalyfinder/ScenarioStep$Verb" = true := by first | (simp [plainName, overriddenIn]; done) | decide +kernel
theorem ef_1 (m : MethodId) (x0 : Addr) : entryFrame m #[(.ref x0)] 1 = mkF m 0 #[.val (.ref x0)] [] := by first | (simp [entryFrame, mkF, argsToLocals, Value.category]; done) | rfl
def Q1 (Z : State) (a1 : Addr) (x1 : Addr) (x2 : Addr) (h0 : Heap) (n0 : Nat) (v : Option Value) (h : Heap) (L : List Loc) : Prop := v = some (.int (own_eq2 a1 x1 x2)) ∧ Fr n0 L ∧ h = h0
set_option maxRecDepth 65536 in
set_option maxHeartbeats 40000000 in
theorem rm1 (l : Launch) (Z : State) (a0 : Array Value) (hw : ∀ d ∈ tables_1, d.before a0 Z = true) (ws : List Jvm.Cond) (a1 : Addr) (x1 : Addr) (x2 : Addr) (h0 : Heap) (n0 : Nat) (Z0 : n0 ≤ h0.size) (O0 : Old Z n0 h0) (S1 : Sta Z Z.heap "com/example/isolation_anomaly_finder/isolationanomalyfinder/ScenarioStep$Verb" "SELECT" "Lcom/example/isolation_anomaly_finder/isolationanomalyfinder/ScenarioStep$Verb;" (.ref x1)) (S2 : Sta Z Z.heap "com/example/isolation_anomaly_finder/isolationanomalyfinder/ScenarioStep$Verb" "DELETE" "Lcom/example/isolation_anomaly_finder/isolationanomalyfinder/ScenarioStep$Verb;" (.ref x2)) :
    MetFree l (⟨"com/example/isolation_anomaly_finder/isolationanomalyfinder/ScenarioStep$Verb", "byCondition", "()Z"⟩ : MethodName) (head1 (Jvm.Cond.code (⟨"com/example/isolation_anomaly_finder/isolationanomalyfinder/ScenarioStep$Verb", "byCondition", "()Z"⟩ : MethodName) prog_67_method_5_code 1 (some .boolean) :: ws) ({ frames := 0, cells := 0, slots := 0, locals := 0 } : Room)) (fun a U => a = #[(.ref a1)] ∧ Z.Warmed39 U.vm ∧ U.heap = h0) (fun _ _ _ _ _ => True) (fun _ U o U' => ∃ v L, o = .returned v ∧ Q1 Z a1 x1 x2 h0 n0 v U'.heap L ∧ FrameEnd U o U' L ({ frames := 0, cells := 0, slots := 0, locals := 0 } : Room).cells ({ frames := 0, cells := 0, slots := 0, locals := 0 } : Room).slots) := by
  have ww9 := hw _ (List.mem_of_getElem? (i := 9) rfl)
  have ww11 := hw _ (List.mem_of_getElem? (i := 11) rfl)
  refine MetFree.of_bodySF (plainFor_of_name pn_1) hisR ?_
  intro p e s m args below meth c s₁ Bd hml0 hP hK
  obtain ⟨rfl, hZ, hh⟩ := hP
  have hx := Bd.exec
  have hby := Bd.bytes
  have hlk : meth.locks = false := Bd.notSynchronized
  have hret := Bd.returns
  have hml : c.maxLocals = 1 := hml0
  have hown : s.vm.findClass "com/example/isolation_anomaly_finder/isolationanomalyfinder/ScenarioStep$Verb" = some m.cls := findClass_of_methodNamed Bd.named
  have hnm := (name_of_methodNamed Bd.named Bd.method).1
  have X0 : Stand p l e ({ frames := 0, cells := 0, slots := 0, locals := 0 } : Room) s m #[(.ref a1)] below meth c s₁ [] 0 0 := Stand.of_body Bd
  have e0 : s₁.heap = h0 := by rw [← hh, Bd.state]; rfl
  have N0 := Fr.nil n0
  have K0 := Keep.refl h0 []
  show OwnEnd p e below s (Q1 Z a1 x1 x2 h0 n0) ({ frames := 0, cells := 0, slots := 0, locals := 0 } : Room).cells ({ frames := 0, cells := 0, slots := 0, locals := 0 } : Room).slots _
  refine OwnEnd.go (fun _ k => castTop (ef_1 m a1) k) ?_
  show OwnEnd p e below s _ _ _ (s₁.setTop (mkF m 0 #[.val (.ref a1)] []))
  refine OwnEnd.go (fun _ k => XS.aloadN X0.here hx rfl (hb hby d1_0) rfl rfl k) ?_
  show OwnEnd p e below s _ _ _ (s₁.setTop (mkF m 1 #[.val (.ref a1)] [(.ref a1)]))
  obtain ⟨T1, X1, e1, st1⟩ := getS2 X0 hx hZ hown (host := "") (Or.inl ww9) Via.refl e0 (S1.ext O0.2) (g := (mkF m 1 #[.val (.ref a1)] [(.ref a1)])) rfl (hb hby d1_1)
  refine OwnEnd.go (fun _ k => st1 _ k) ?_
  show OwnEnd p e below s _ _ _ (T1.setTop (mkF m 4 #[.val (.ref a1)] [(.ref x1), (.ref a1)]))
  by_cases ha2 : a1 = x1
  · refine OwnEnd.go (fun _ k => Jvm.RoadKit.acmp (g := (mkF m 4 #[.val (.ref a1)] [(.ref x1), (.ref a1)])) X1 hx rfl rfl rfl (pc0 := 4) (pc' := 14) (same := true) rfl (hb hby d1_4) rfl (decide_eq_true (congrArg Value.ref ha2)) (by decide) (by decide) k) ?_
    show OwnEnd p e below s _ _ _ (T1.setTop (mkF m 14 #[.val (.ref a1)] []))
    refine OwnEnd.go (fun _ k => XS.iconst X1.here hx rfl (hb hby d1_14) k) ?_
    show OwnEnd p e below s _ _ _ (T1.setTop (mkF m 15 #[.val (.ref a1)] [(.int (1 : Int32))]))
    refine OwnEnd.go (fun _ k => XS.goto X1.here hx rfl (pc0 := 15) (pc' := 19) rfl (hb hby d1_15) (by decide) (by decide) k) ?_
    show OwnEnd p e below s _ _ _ (T1.setTop (mkF m 19 #[.val (.ref a1)] [(.int (1 : Int32))]))
    refine ownRetZ X1 hx hlk hret (hb hby d1_19) (by decide) (by decide) (1 : Int32) (by decide) ?_
    show Q1 Z a1 x1 x2 h0 n0 _ T1.heap _
    rw [e1]
    refine ⟨?_, N0, rfl⟩
    unfold own_eq2
    rw [if_pos (Or.inl ha2)]
  · refine OwnEnd.go (fun _ k => Jvm.RoadKit.acmp (g := (mkF m 4 #[.val (.ref a1)] [(.ref x1), (.ref a1)])) X1 hx rfl rfl rfl (pc0 := 4) (pc' := 7) (same := false) rfl (hb hby d1_4) rfl (decide_eq_false fun q => ha2 (Value.ref.inj q)) (by decide) (by decide) k) ?_
    show OwnEnd p e below s _ _ _ (T1.setTop (mkF m 7 #[.val (.ref a1)] []))
    refine OwnEnd.go (fun _ k => XS.aloadN X1.here hx rfl (hb hby d1_7) rfl rfl k) ?_
    show OwnEnd p e below s _ _ _ (T1.setTop (mkF m 8 #[.val (.ref a1)] [(.ref a1)]))
    obtain ⟨T3, X3, e3, st3⟩ := getS2 X1 hx hZ hown (host := "") (Or.inl ww11) Via.refl e1 (S2.ext O0.2) (g := (mkF m 8 #[.val (.ref a1)] [(.ref a1)])) rfl (hb hby d1_8)
    refine OwnEnd.go (fun _ k => st3 _ k) ?_
    show OwnEnd p e below s _ _ _ (T3.setTop (mkF m 11 #[.val (.ref a1)] [(.ref x2), (.ref a1)]))
    by_cases ha4 : a1 = x2
    · refine OwnEnd.go (fun _ k => Jvm.RoadKit.acmp (g := (mkF m 11 #[.val (.ref a1)] [(.ref x2), (.ref a1)])) X3 hx rfl rfl rfl (pc0 := 11) (pc' := 14) (same := true) rfl (hb hby d1_11) rfl (decide_eq_true (congrArg Value.ref ha4)) (by decide) (by decide) k) ?_
      show OwnEnd p e below s _ _ _ (T3.setTop (mkF m 14 #[.val (.ref a1)] []))
      refine OwnEnd.go (fun _ k => XS.iconst X3.here hx rfl (hb hby d1_14) k) ?_
      show OwnEnd p e below s _ _ _ (T3.setTop (mkF m 15 #[.val (.ref a1)] [(.int (1 : Int32))]))
      refine OwnEnd.go (fun _ k => XS.goto X3.here hx rfl (pc0 := 15) (pc' := 19) rfl (hb hby d1_15) (by decide) (by decide) k) ?_
      show OwnEnd p e below s _ _ _ (T3.setTop (mkF m 19 #[.val (.ref a1)] [(.int (1 : Int32))]))
      refine ownRetZ X3 hx hlk hret (hb hby d1_19) (by decide) (by decide) (1 : Int32) (by decide) ?_
      show Q1 Z a1 x1 x2 h0 n0 _ T3.heap _
      rw [e3]
      refine ⟨?_, N0, rfl⟩
      unfold own_eq2
      rw [if_pos (Or.inr ha4)]
    · refine OwnEnd.go (fun _ k => Jvm.RoadKit.acmp (g := (mkF m 11 #[.val (.ref a1)] [(.ref x2), (.ref a1)])) X3 hx rfl rfl rfl (pc0 := 11) (pc' := 18) (same := false) rfl (hb hby d1_11) rfl (decide_eq_false fun q => ha4 (Value.ref.inj q)) (by decide) (by decide) k) ?_
      show OwnEnd p e below s _ _ _ (T3.setTop (mkF m 18 #[.val (.ref a1)] []))
      refine OwnEnd.go (fun _ k => XS.iconst X3.here hx rfl (hb hby d1_18) k) ?_
      show OwnEnd p e below s _ _ _ (T3.setTop (mkF m 19 #[.val (.ref a1)] [(.int (0 : Int32))]))
      refine ownRetZ X3 hx hlk hret (hb hby d1_19) (by decide) (by decide) (0 : Int32) (by decide) ?_
      show Q1 Z a1 x1 x2 h0 n0 _ T3.heap _
      rw [e3]
      refine ⟨?_, N0, rfl⟩
      rw [own_eq2_n ha2 ha4]
theorem pn_0 : plainName "com/example/isolation_anomaly_finder/isolationanomalyfinder/VerbByConditionPinLaw" = true := by first | (simp [plainName, overriddenIn]; done) | decide +kernel
theorem pd0_0 : parseMethodDescriptor "()Z" = some ⟨[], some .boolean⟩ := by decide +kernel
theorem ef_0 (m : MethodId) (x0 : Int32) : entryFrame m #[(.int x0)] maxLocals = mkF m 0 #[.val (.int x0), .unset, .unset, .unset] [] := by first | (simp [entryFrame, mkF, argsToLocals, Value.category, maxLocals]; done) | rfl
def Q0 (Z : State) (p1 : Int32) (a_READ : Addr) (a_SELECT : Addr) (a_DELETE : Addr) (a_INSERT : Addr) (a_COMMIT : Addr) (a_ABORT : Addr) (a_WRITE : Addr) (h0 : Heap) (n0 : Nat) (v : Option Value) (h : Heap) (L : List Loc) : Prop := v = some (.int 1) ∧ Fr n0 L
set_option maxRecDepth 65536 in
set_option maxHeartbeats 40000000 in
theorem rm0 (l : Launch) (Z : State) (a0 : Array Value) (hw : ∀ d ∈ tables_1, d.before a0 Z = true) (ws : List Jvm.Cond) (p1 : Int32) (a_READ : Addr) (a_SELECT : Addr) (a_DELETE : Addr) (a_INSERT : Addr) (a_COMMIT : Addr) (a_ABORT : Addr) (a_WRITE : Addr) (h0 : Heap) (n0 : Nat) (Z0 : n0 ≤ h0.size) (O0 : Old Z n0 h0) (S_READ : Sta Z Z.heap "com/example/isolation_anomaly_finder/isolationanomalyfinder/ScenarioStep$Verb" "READ" "Lcom/example/isolation_anomaly_finder/isolationanomalyfinder/ScenarioStep$Verb;" (.ref a_READ)) (S_SELECT : Sta Z Z.heap "com/example/isolation_anomaly_finder/isolationanomalyfinder/ScenarioStep$Verb" "SELECT" "Lcom/example/isolation_anomaly_finder/isolationanomalyfinder/ScenarioStep$Verb;" (.ref a_SELECT)) (S_DELETE : Sta Z Z.heap "com/example/isolation_anomaly_finder/isolationanomalyfinder/ScenarioStep$Verb" "DELETE" "Lcom/example/isolation_anomaly_finder/isolationanomalyfinder/ScenarioStep$Verb;" (.ref a_DELETE)) (S_INSERT : Sta Z Z.heap "com/example/isolation_anomaly_finder/isolationanomalyfinder/ScenarioStep$Verb" "INSERT" "Lcom/example/isolation_anomaly_finder/isolationanomalyfinder/ScenarioStep$Verb;" (.ref a_INSERT)) (S_COMMIT : Sta Z Z.heap "com/example/isolation_anomaly_finder/isolationanomalyfinder/ScenarioStep$Verb" "COMMIT" "Lcom/example/isolation_anomaly_finder/isolationanomalyfinder/ScenarioStep$Verb;" (.ref a_COMMIT)) (S_ABORT : Sta Z Z.heap "com/example/isolation_anomaly_finder/isolationanomalyfinder/ScenarioStep$Verb" "ABORT" "Lcom/example/isolation_anomaly_finder/isolationanomalyfinder/ScenarioStep$Verb;" (.ref a_ABORT)) (S_WRITE : Sta Z Z.heap "com/example/isolation_anomaly_finder/isolationanomalyfinder/ScenarioStep$Verb" "WRITE" "Lcom/example/isolation_anomaly_finder/isolationanomalyfinder/ScenarioStep$Verb;" (.ref a_WRITE)) (E_READ : Exa Z h0 a_READ "com/example/isolation_anomaly_finder/isolationanomalyfinder/ScenarioStep$Verb") (E_SELECT : Exa Z h0 a_SELECT "com/example/isolation_anomaly_finder/isolationanomalyfinder/ScenarioStep$Verb") (E_DELETE : Exa Z h0 a_DELETE "com/example/isolation_anomaly_finder/isolationanomalyfinder/ScenarioStep$Verb") (E_INSERT : Exa Z h0 a_INSERT "com/example/isolation_anomaly_finder/isolationanomalyfinder/ScenarioStep$Verb") (E_COMMIT : Exa Z h0 a_COMMIT "com/example/isolation_anomaly_finder/isolationanomalyfinder/ScenarioStep$Verb") (E_ABORT : Exa Z h0 a_ABORT "com/example/isolation_anomaly_finder/isolationanomalyfinder/ScenarioStep$Verb") (E_WRITE : Exa Z h0 a_WRITE "com/example/isolation_anomaly_finder/isolationanomalyfinder/ScenarioStep$Verb") (n_READ_SELECT : a_READ ≠ a_SELECT) (n_READ_DELETE : a_READ ≠ a_DELETE) (n_SELECT_DELETE : a_SELECT ≠ a_DELETE) (n_INSERT_SELECT : a_INSERT ≠ a_SELECT) (n_INSERT_DELETE : a_INSERT ≠ a_DELETE) (n_COMMIT_SELECT : a_COMMIT ≠ a_SELECT) (n_COMMIT_DELETE : a_COMMIT ≠ a_DELETE) (n_ABORT_SELECT : a_ABORT ≠ a_SELECT) (n_ABORT_DELETE : a_ABORT ≠ a_DELETE) (n_WRITE_SELECT : a_WRITE ≠ a_SELECT) (n_WRITE_DELETE : a_WRITE ≠ a_DELETE) :
    MetFree l x (head1 (Jvm.Cond.code x code maxLocals ret :: ws) room_1) (fun a U => a = #[(.int p1)] ∧ Z.Warmed39 U.vm ∧ U.heap = h0) (fun _ _ _ _ _ => True) (fun _ U o U' => ∃ v L, o = .returned v ∧ Q0 Z p1 a_READ a_SELECT a_DELETE a_INSERT a_COMMIT a_ABORT a_WRITE h0 n0 v U'.heap L ∧ FrameEnd U o U' L room_1.cells room_1.slots) := by
  have ww0 := hw _ (List.mem_of_getElem? (i := 0) rfl)
  have ww1 := hw _ (List.mem_of_getElem? (i := 1) rfl)
  have ww2 := hw _ (List.mem_of_getElem? (i := 2) rfl)
  have ww4 := hw _ (List.mem_of_getElem? (i := 4) rfl)
  have ww5 := hw _ (List.mem_of_getElem? (i := 5) rfl)
  have ww6 := hw _ (List.mem_of_getElem? (i := 6) rfl)
  have ww7 := hw _ (List.mem_of_getElem? (i := 7) rfl)
  have ww8 := hw _ (List.mem_of_getElem? (i := 8) rfl)
  have ww13 := hw _ (List.mem_of_getElem? (i := 13) rfl)
  have ww15 := hw _ (List.mem_of_getElem? (i := 15) rfl)
  have ww17 := hw _ (List.mem_of_getElem? (i := 17) rfl)
  have ww19 := hw _ (List.mem_of_getElem? (i := 19) rfl)
  have ww20 := hw _ (List.mem_of_getElem? (i := 20) rfl)
  have ww21 := hw _ (List.mem_of_getElem? (i := 21) rfl)
  refine MetFree.of_bodySF (plainFor_of_name pn_0) hisR ?_
  intro p e s m args below meth c s₁ Bd hml0 hP hK
  obtain ⟨rfl, hZ, hh⟩ := hP
  have hx := Bd.exec
  have hby := Bd.bytes
  have hlk : meth.locks = false := Bd.notSynchronized
  have hret := Bd.returns
  have hml : c.maxLocals = 4 := hml0
  have hown : s.vm.findClass "com/example/isolation_anomaly_finder/isolationanomalyfinder/VerbByConditionPinLaw" = some m.cls := findClass_of_methodNamed Bd.named
  have hnm := (name_of_methodNamed Bd.named Bd.method).1
  have X0 : Stand p l e room_1 s m #[(.int p1)] below meth c s₁ [] 0 0 := Stand.of_body Bd
  have e0 : s₁.heap = h0 := by rw [← hh, Bd.state]; rfl
  have N0 := Fr.nil n0
  have K0 := Keep.refl h0 []
  show OwnEnd p e below s (Q0 Z p1 a_READ a_SELECT a_DELETE a_INSERT a_COMMIT a_ABORT a_WRITE h0 n0) room_1.cells room_1.slots _
  refine OwnEnd.go (fun _ k => castTop (ef_0 m p1) k) ?_
  show OwnEnd p e below s _ _ _ (s₁.setTop (mkF m 0 #[.val (.int p1), .unset, .unset, .unset] []))
  refine OwnEnd.go (fun _ k => XS.iloadN X0.here hx rfl (hb hby at_0) rfl  k) ?_
  show OwnEnd p e below s _ _ _ (s₁.setTop (mkF m 1 #[.val (.int p1), .unset, .unset, .unset] [(.int p1)]))
  refine OwnEnd.go (fun _ k => X0.ldcI hx hown (mvT hZ ww0) (g := (mkF m 1 #[.val (.int p1), .unset, .unset, .unset] [(.int p1)])) rfl (hb hby at_1) k) ?_
  show OwnEnd p e below s _ _ _ (s₁.setTop (mkF m 3 #[.val (.int p1), .unset, .unset, .unset] [(.int (2147483647 : Int32)), (.int p1)]))
  refine OwnEnd.go (fun _ k => XS.iand X0.here hx rfl (hb hby at_3) rfl k) ?_
  show OwnEnd p e below s _ _ _ (s₁.setTop (mkF m 4 #[.val (.int p1), .unset, .unset, .unset] [(.int (p1 &&& (2147483647 : Int32)))]))
  refine OwnEnd.go (fun _ k => XS.bipush X0.here hx rfl (hb hby at_4) k) ?_
  show OwnEnd p e below s _ _ _ (s₁.setTop (mkF m 6 #[.val (.int p1), .unset, .unset, .unset] [(.int (7 : Int32)), (.int (p1 &&& (2147483647 : Int32)))]))
  refine OwnEnd.go (fun _ k => iremM X0 hx rfl (hb hby at_6) rfl (by decide) k) ?_
  show OwnEnd p e below s _ _ _ (s₁.setTop (mkF m 7 #[.val (.int p1), .unset, .unset, .unset] [(.int ((p1 &&& (2147483647 : Int32)) % (7 : Int32)))]))
  refine OwnEnd.go (fun _ k => XS.istoreN X0.here hx rfl (hb hby at_7) rfl  (l' := #[.val (.int p1), .val (.int ((p1 &&& (2147483647 : Int32)) % (7 : Int32))), .unset, .unset]) rfl k) ?_
  show OwnEnd p e below s _ _ _ (s₁.setTop (mkF m 8 #[.val (.int p1), .val (.int ((p1 &&& (2147483647 : Int32)) % (7 : Int32))), .unset, .unset] []))
  refine OwnEnd.go (fun _ k => XS.iloadN X0.here hx rfl (hb hby at_8) rfl  k) ?_
  show OwnEnd p e below s _ _ _ (s₁.setTop (mkF m 9 #[.val (.int p1), .val (.int ((p1 &&& (2147483647 : Int32)) % (7 : Int32))), .unset, .unset] [(.int ((p1 &&& (2147483647 : Int32)) % (7 : Int32)))]))
  by_cases hc1 : ((p1 &&& (2147483647 : Int32)) % (7 : Int32)) = (0 : Int32)
  · refine OwnEnd.go (fun _ k => XS.ifNo X0.here hx rfl (hb hby at_9) rfl ((if0 _ _).trans (teq hc1).2) k) ?_
    show OwnEnd p e below s _ _ _ (s₁.setTop (mkF m 12 #[.val (.int p1), .val (.int ((p1 &&& (2147483647 : Int32)) % (7 : Int32))), .unset, .unset] []))
    obtain ⟨T2, X2, e2, st2⟩ := getS2 X0 hx hZ hown (host := "") (Or.inl ww1) Via.refl e0 (S_READ.ext O0.2) (g := (mkF m 12 #[.val (.int p1), .val (.int ((p1 &&& (2147483647 : Int32)) % (7 : Int32))), .unset, .unset] [])) rfl (hb hby at_12)
    refine OwnEnd.go (fun _ k => st2 _ k) ?_
    show OwnEnd p e below s _ _ _ (T2.setTop (mkF m 15 #[.val (.int p1), .val (.int ((p1 &&& (2147483647 : Int32)) % (7 : Int32))), .unset, .unset] [(.ref a_READ)]))
    refine OwnEnd.go (fun _ k => XS.astoreN X2.here hx rfl (hb hby at_15) rfl rfl (l' := #[.val (.int p1), .val (.int ((p1 &&& (2147483647 : Int32)) % (7 : Int32))), .val (.ref a_READ), .unset]) rfl k) ?_
    show OwnEnd p e below s _ _ _ (T2.setTop (mkF m 16 #[.val (.int p1), .val (.int ((p1 &&& (2147483647 : Int32)) % (7 : Int32))), .val (.ref a_READ), .unset] []))
    refine OwnEnd.go (fun _ k => XS.iconst X2.here hx rfl (hb hby at_16) k) ?_
    show OwnEnd p e below s _ _ _ (T2.setTop (mkF m 17 #[.val (.int p1), .val (.int ((p1 &&& (2147483647 : Int32)) % (7 : Int32))), .val (.ref a_READ), .unset] [(.int (0 : Int32))]))
    refine OwnEnd.go (fun _ k => XS.istoreN X2.here hx rfl (hb hby at_17) rfl  (l' := #[.val (.int p1), .val (.int ((p1 &&& (2147483647 : Int32)) % (7 : Int32))), .val (.ref a_READ), .val (.int (0 : Int32))]) rfl k) ?_
    show OwnEnd p e below s _ _ _ (T2.setTop (mkF m 18 #[.val (.int p1), .val (.int ((p1 &&& (2147483647 : Int32)) % (7 : Int32))), .val (.ref a_READ), .val (.int (0 : Int32))] []))
    refine OwnEnd.go (fun _ k => XS.goto X2.here hx rfl (pc0 := 18) (pc' := 97) rfl (hb hby at_18) (by decide) (by decide) k) ?_
    show OwnEnd p e below s _ _ _ (T2.setTop (mkF m 97 #[.val (.int p1), .val (.int ((p1 &&& (2147483647 : Int32)) % (7 : Int32))), .val (.ref a_READ), .val (.int (0 : Int32))] []))
    refine OwnEnd.go (fun _ k => XS.aloadN X2.here hx rfl (hb hby at_97) rfl rfl k) ?_
    show OwnEnd p e below s _ _ _ (T2.setTop (mkF m 98 #[.val (.int p1), .val (.int ((p1 &&& (2147483647 : Int32)) % (7 : Int32))), .val (.ref a_READ), .val (.int (0 : Int32))] [(.ref a_READ)]))
    obtain ⟨_, T3, L3, X3, hQ3, st3⟩ := ownCallV X2 hx hZ hown ww4 ww5 ww7 ww6 ww2 ww8 (by decide) (rm1 l Z a0 hw [] a_READ a_SELECT a_DELETE h0 n0 Z0 O0 S_SELECT S_DELETE) e2 E_READ 0 (by decide) (by decide) (by decide) (by decide) (g := (mkF m 98 #[.val (.int p1), .val (.int ((p1 &&& (2147483647 : Int32)) % (7 : Int32))), .val (.ref a_READ), .val (.int (0 : Int32))] [(.ref a_READ)])) rfl (by rw [hml]; rfl) (argsL := []) (rest := []) (lenOf pd0_0 rfl) rfl rfl (by show 2 * 0 + _ ≤ _; exact Nat.le_of_eq rfl) (hb hby at_98)
    obtain ⟨rfl, N3q, e3⟩ := hQ3
    have N3 := Fr.app N0 N3q
    refine OwnEnd.go (fun _ k => st3 _ k) ?_
    show OwnEnd p e below s _ _ _ (T3.setTop (mkF m 101 #[.val (.int p1), .val (.int ((p1 &&& (2147483647 : Int32)) % (7 : Int32))), .val (.ref a_READ), .val (.int (0 : Int32))] [(.int (own_eq2 a_READ a_SELECT a_DELETE))]))
    refine OwnEnd.go (fun _ k => XS.iloadN X3.here hx rfl (hb hby at_101) rfl  k) ?_
    show OwnEnd p e below s _ _ _ (T3.setTop (mkF m 102 #[.val (.int p1), .val (.int ((p1 &&& (2147483647 : Int32)) % (7 : Int32))), .val (.ref a_READ), .val (.int (0 : Int32))] [(.int (0 : Int32)), (.int (own_eq2 a_READ a_SELECT a_DELETE))]))
    refine OwnEnd.go (fun _ k => XS.icmpNo X3.here hx rfl (hb hby at_102) rfl (teq (own_eq2_n n_READ_SELECT n_READ_DELETE)).2 k) ?_
    show OwnEnd p e below s _ _ _ (T3.setTop (mkF m 105 #[.val (.int p1), .val (.int ((p1 &&& (2147483647 : Int32)) % (7 : Int32))), .val (.ref a_READ), .val (.int (0 : Int32))] []))
    refine OwnEnd.go (fun _ k => XS.iconst X3.here hx rfl (hb hby at_105) k) ?_
    show OwnEnd p e below s _ _ _ (T3.setTop (mkF m 106 #[.val (.int p1), .val (.int ((p1 &&& (2147483647 : Int32)) % (7 : Int32))), .val (.ref a_READ), .val (.int (0 : Int32))] [(.int (1 : Int32))]))
    refine OwnEnd.go (fun _ k => XS.goto X3.here hx rfl (pc0 := 106) (pc' := 110) rfl (hb hby at_106) (by decide) (by decide) k) ?_
    show OwnEnd p e below s _ _ _ (T3.setTop (mkF m 110 #[.val (.int p1), .val (.int ((p1 &&& (2147483647 : Int32)) % (7 : Int32))), .val (.ref a_READ), .val (.int (0 : Int32))] [(.int (1 : Int32))]))
    refine ownRetZ X3 hx hlk hret (hb hby at_110) (by decide) (by decide) (1 : Int32) (by decide) ?_
    show Q0 Z p1 a_READ a_SELECT a_DELETE a_INSERT a_COMMIT a_ABORT a_WRITE h0 n0 _ T3.heap _
    rw [e3]
    exact ⟨rfl, N3⟩
  · refine OwnEnd.go (fun _ k => XS.ifYes X0.here hx rfl (pc0 := 9) (pc' := 21) rfl (hb hby at_9) rfl ((if0 _ _).trans (feq hc1).2) (by decide) (by decide) k) ?_
    show OwnEnd p e below s _ _ _ (s₁.setTop (mkF m 21 #[.val (.int p1), .val (.int ((p1 &&& (2147483647 : Int32)) % (7 : Int32))), .unset, .unset] []))
    refine OwnEnd.go (fun _ k => XS.iloadN X0.here hx rfl (hb hby at_21) rfl  k) ?_
    show OwnEnd p e below s _ _ _ (s₁.setTop (mkF m 22 #[.val (.int p1), .val (.int ((p1 &&& (2147483647 : Int32)) % (7 : Int32))), .unset, .unset] [(.int ((p1 &&& (2147483647 : Int32)) % (7 : Int32)))]))
    refine OwnEnd.go (fun _ k => XS.iconst X0.here hx rfl (hb hby at_22) k) ?_
    show OwnEnd p e below s _ _ _ (s₁.setTop (mkF m 23 #[.val (.int p1), .val (.int ((p1 &&& (2147483647 : Int32)) % (7 : Int32))), .unset, .unset] [(.int (1 : Int32)), (.int ((p1 &&& (2147483647 : Int32)) % (7 : Int32)))]))
    by_cases hc4 : ((p1 &&& (2147483647 : Int32)) % (7 : Int32)) = (1 : Int32)
    · refine OwnEnd.go (fun _ k => XS.icmpNo X0.here hx rfl (hb hby at_23) rfl (teq hc4).2 k) ?_
      show OwnEnd p e below s _ _ _ (s₁.setTop (mkF m 26 #[.val (.int p1), .val (.int ((p1 &&& (2147483647 : Int32)) % (7 : Int32))), .unset, .unset] []))
      obtain ⟨T5, X5, e5, st5⟩ := getS2 X0 hx hZ hown (host := "") (Or.inl ww21) Via.refl e0 (S_WRITE.ext O0.2) (g := (mkF m 26 #[.val (.int p1), .val (.int ((p1 &&& (2147483647 : Int32)) % (7 : Int32))), .unset, .unset] [])) rfl (hb hby at_26)
      refine OwnEnd.go (fun _ k => st5 _ k) ?_
      show OwnEnd p e below s _ _ _ (T5.setTop (mkF m 29 #[.val (.int p1), .val (.int ((p1 &&& (2147483647 : Int32)) % (7 : Int32))), .unset, .unset] [(.ref a_WRITE)]))
      refine OwnEnd.go (fun _ k => XS.astoreN X5.here hx rfl (hb hby at_29) rfl rfl (l' := #[.val (.int p1), .val (.int ((p1 &&& (2147483647 : Int32)) % (7 : Int32))), .val (.ref a_WRITE), .unset]) rfl k) ?_
      show OwnEnd p e below s _ _ _ (T5.setTop (mkF m 30 #[.val (.int p1), .val (.int ((p1 &&& (2147483647 : Int32)) % (7 : Int32))), .val (.ref a_WRITE), .unset] []))
      refine OwnEnd.go (fun _ k => XS.iconst X5.here hx rfl (hb hby at_30) k) ?_
      show OwnEnd p e below s _ _ _ (T5.setTop (mkF m 31 #[.val (.int p1), .val (.int ((p1 &&& (2147483647 : Int32)) % (7 : Int32))), .val (.ref a_WRITE), .unset] [(.int (0 : Int32))]))
      refine OwnEnd.go (fun _ k => XS.istoreN X5.here hx rfl (hb hby at_31) rfl  (l' := #[.val (.int p1), .val (.int ((p1 &&& (2147483647 : Int32)) % (7 : Int32))), .val (.ref a_WRITE), .val (.int (0 : Int32))]) rfl k) ?_
      show OwnEnd p e below s _ _ _ (T5.setTop (mkF m 32 #[.val (.int p1), .val (.int ((p1 &&& (2147483647 : Int32)) % (7 : Int32))), .val (.ref a_WRITE), .val (.int (0 : Int32))] []))
      refine OwnEnd.go (fun _ k => XS.goto X5.here hx rfl (pc0 := 32) (pc' := 97) rfl (hb hby at_32) (by decide) (by decide) k) ?_
      show OwnEnd p e below s _ _ _ (T5.setTop (mkF m 97 #[.val (.int p1), .val (.int ((p1 &&& (2147483647 : Int32)) % (7 : Int32))), .val (.ref a_WRITE), .val (.int (0 : Int32))] []))
      refine OwnEnd.go (fun _ k => XS.aloadN X5.here hx rfl (hb hby at_97) rfl rfl k) ?_
      show OwnEnd p e below s _ _ _ (T5.setTop (mkF m 98 #[.val (.int p1), .val (.int ((p1 &&& (2147483647 : Int32)) % (7 : Int32))), .val (.ref a_WRITE), .val (.int (0 : Int32))] [(.ref a_WRITE)]))
      obtain ⟨_, T6, L6, X6, hQ6, st6⟩ := ownCallV X5 hx hZ hown ww4 ww5 ww7 ww6 ww2 ww8 (by decide) (rm1 l Z a0 hw [] a_WRITE a_SELECT a_DELETE h0 n0 Z0 O0 S_SELECT S_DELETE) e5 E_WRITE 0 (by decide) (by decide) (by decide) (by decide) (g := (mkF m 98 #[.val (.int p1), .val (.int ((p1 &&& (2147483647 : Int32)) % (7 : Int32))), .val (.ref a_WRITE), .val (.int (0 : Int32))] [(.ref a_WRITE)])) rfl (by rw [hml]; rfl) (argsL := []) (rest := []) (lenOf pd0_0 rfl) rfl rfl (by show 2 * 0 + _ ≤ _; exact Nat.le_of_eq rfl) (hb hby at_98)
      obtain ⟨rfl, N6q, e6⟩ := hQ6
      have N6 := Fr.app N0 N6q
      refine OwnEnd.go (fun _ k => st6 _ k) ?_
      show OwnEnd p e below s _ _ _ (T6.setTop (mkF m 101 #[.val (.int p1), .val (.int ((p1 &&& (2147483647 : Int32)) % (7 : Int32))), .val (.ref a_WRITE), .val (.int (0 : Int32))] [(.int (own_eq2 a_WRITE a_SELECT a_DELETE))]))
      refine OwnEnd.go (fun _ k => XS.iloadN X6.here hx rfl (hb hby at_101) rfl  k) ?_
      show OwnEnd p e below s _ _ _ (T6.setTop (mkF m 102 #[.val (.int p1), .val (.int ((p1 &&& (2147483647 : Int32)) % (7 : Int32))), .val (.ref a_WRITE), .val (.int (0 : Int32))] [(.int (0 : Int32)), (.int (own_eq2 a_WRITE a_SELECT a_DELETE))]))
      refine OwnEnd.go (fun _ k => XS.icmpNo X6.here hx rfl (hb hby at_102) rfl (teq (own_eq2_n n_WRITE_SELECT n_WRITE_DELETE)).2 k) ?_
      show OwnEnd p e below s _ _ _ (T6.setTop (mkF m 105 #[.val (.int p1), .val (.int ((p1 &&& (2147483647 : Int32)) % (7 : Int32))), .val (.ref a_WRITE), .val (.int (0 : Int32))] []))
      refine OwnEnd.go (fun _ k => XS.iconst X6.here hx rfl (hb hby at_105) k) ?_
      show OwnEnd p e below s _ _ _ (T6.setTop (mkF m 106 #[.val (.int p1), .val (.int ((p1 &&& (2147483647 : Int32)) % (7 : Int32))), .val (.ref a_WRITE), .val (.int (0 : Int32))] [(.int (1 : Int32))]))
      refine OwnEnd.go (fun _ k => XS.goto X6.here hx rfl (pc0 := 106) (pc' := 110) rfl (hb hby at_106) (by decide) (by decide) k) ?_
      show OwnEnd p e below s _ _ _ (T6.setTop (mkF m 110 #[.val (.int p1), .val (.int ((p1 &&& (2147483647 : Int32)) % (7 : Int32))), .val (.ref a_WRITE), .val (.int (0 : Int32))] [(.int (1 : Int32))]))
      refine ownRetZ X6 hx hlk hret (hb hby at_110) (by decide) (by decide) (1 : Int32) (by decide) ?_
      show Q0 Z p1 a_READ a_SELECT a_DELETE a_INSERT a_COMMIT a_ABORT a_WRITE h0 n0 _ T6.heap _
      rw [e6]
      exact ⟨rfl, N6⟩
    · refine OwnEnd.go (fun _ k => XS.icmpYes X0.here hx rfl (pc0 := 23) (pc' := 35) rfl (hb hby at_23) rfl (feq hc4).2 (by decide) (by decide) k) ?_
      show OwnEnd p e below s _ _ _ (s₁.setTop (mkF m 35 #[.val (.int p1), .val (.int ((p1 &&& (2147483647 : Int32)) % (7 : Int32))), .unset, .unset] []))
      refine OwnEnd.go (fun _ k => XS.iloadN X0.here hx rfl (hb hby at_35) rfl  k) ?_
      show OwnEnd p e below s _ _ _ (s₁.setTop (mkF m 36 #[.val (.int p1), .val (.int ((p1 &&& (2147483647 : Int32)) % (7 : Int32))), .unset, .unset] [(.int ((p1 &&& (2147483647 : Int32)) % (7 : Int32)))]))
      refine OwnEnd.go (fun _ k => XS.iconst X0.here hx rfl (hb hby at_36) k) ?_
      show OwnEnd p e below s _ _ _ (s₁.setTop (mkF m 37 #[.val (.int p1), .val (.int ((p1 &&& (2147483647 : Int32)) % (7 : Int32))), .unset, .unset] [(.int (2 : Int32)), (.int ((p1 &&& (2147483647 : Int32)) % (7 : Int32)))]))
      by_cases hc7 : ((p1 &&& (2147483647 : Int32)) % (7 : Int32)) = (2 : Int32)
      · refine OwnEnd.go (fun _ k => XS.icmpNo X0.here hx rfl (hb hby at_37) rfl (teq hc7).2 k) ?_
        show OwnEnd p e below s _ _ _ (s₁.setTop (mkF m 40 #[.val (.int p1), .val (.int ((p1 &&& (2147483647 : Int32)) % (7 : Int32))), .unset, .unset] []))
        obtain ⟨T8, X8, e8, st8⟩ := getS2 X0 hx hZ hown (host := "") (Or.inl ww20) Via.refl e0 (S_SELECT.ext O0.2) (g := (mkF m 40 #[.val (.int p1), .val (.int ((p1 &&& (2147483647 : Int32)) % (7 : Int32))), .unset, .unset] [])) rfl (hb hby at_40)
        refine OwnEnd.go (fun _ k => st8 _ k) ?_
        show OwnEnd p e below s _ _ _ (T8.setTop (mkF m 43 #[.val (.int p1), .val (.int ((p1 &&& (2147483647 : Int32)) % (7 : Int32))), .unset, .unset] [(.ref a_SELECT)]))
        refine OwnEnd.go (fun _ k => XS.astoreN X8.here hx rfl (hb hby at_43) rfl rfl (l' := #[.val (.int p1), .val (.int ((p1 &&& (2147483647 : Int32)) % (7 : Int32))), .val (.ref a_SELECT), .unset]) rfl k) ?_
        show OwnEnd p e below s _ _ _ (T8.setTop (mkF m 44 #[.val (.int p1), .val (.int ((p1 &&& (2147483647 : Int32)) % (7 : Int32))), .val (.ref a_SELECT), .unset] []))
        refine OwnEnd.go (fun _ k => XS.iconst X8.here hx rfl (hb hby at_44) k) ?_
        show OwnEnd p e below s _ _ _ (T8.setTop (mkF m 45 #[.val (.int p1), .val (.int ((p1 &&& (2147483647 : Int32)) % (7 : Int32))), .val (.ref a_SELECT), .unset] [(.int (1 : Int32))]))
        refine OwnEnd.go (fun _ k => XS.istoreN X8.here hx rfl (hb hby at_45) rfl  (l' := #[.val (.int p1), .val (.int ((p1 &&& (2147483647 : Int32)) % (7 : Int32))), .val (.ref a_SELECT), .val (.int (1 : Int32))]) rfl k) ?_
        show OwnEnd p e below s _ _ _ (T8.setTop (mkF m 46 #[.val (.int p1), .val (.int ((p1 &&& (2147483647 : Int32)) % (7 : Int32))), .val (.ref a_SELECT), .val (.int (1 : Int32))] []))
        refine OwnEnd.go (fun _ k => XS.goto X8.here hx rfl (pc0 := 46) (pc' := 97) rfl (hb hby at_46) (by decide) (by decide) k) ?_
        show OwnEnd p e below s _ _ _ (T8.setTop (mkF m 97 #[.val (.int p1), .val (.int ((p1 &&& (2147483647 : Int32)) % (7 : Int32))), .val (.ref a_SELECT), .val (.int (1 : Int32))] []))
        refine OwnEnd.go (fun _ k => XS.aloadN X8.here hx rfl (hb hby at_97) rfl rfl k) ?_
        show OwnEnd p e below s _ _ _ (T8.setTop (mkF m 98 #[.val (.int p1), .val (.int ((p1 &&& (2147483647 : Int32)) % (7 : Int32))), .val (.ref a_SELECT), .val (.int (1 : Int32))] [(.ref a_SELECT)]))
        obtain ⟨_, T9, L9, X9, hQ9, st9⟩ := ownCallV X8 hx hZ hown ww4 ww5 ww7 ww6 ww2 ww8 (by decide) (rm1 l Z a0 hw [] a_SELECT a_SELECT a_DELETE h0 n0 Z0 O0 S_SELECT S_DELETE) e8 E_SELECT 0 (by decide) (by decide) (by decide) (by decide) (g := (mkF m 98 #[.val (.int p1), .val (.int ((p1 &&& (2147483647 : Int32)) % (7 : Int32))), .val (.ref a_SELECT), .val (.int (1 : Int32))] [(.ref a_SELECT)])) rfl (by rw [hml]; rfl) (argsL := []) (rest := []) (lenOf pd0_0 rfl) rfl rfl (by show 2 * 0 + _ ≤ _; exact Nat.le_of_eq rfl) (hb hby at_98)
        obtain ⟨rfl, N9q, e9⟩ := hQ9
        have N9 := Fr.app N0 N9q
        refine OwnEnd.go (fun _ k => st9 _ k) ?_
        show OwnEnd p e below s _ _ _ (T9.setTop (mkF m 101 #[.val (.int p1), .val (.int ((p1 &&& (2147483647 : Int32)) % (7 : Int32))), .val (.ref a_SELECT), .val (.int (1 : Int32))] [(.int (own_eq2 a_SELECT a_SELECT a_DELETE))]))
        refine OwnEnd.go (fun _ k => XS.iloadN X9.here hx rfl (hb hby at_101) rfl  k) ?_
        show OwnEnd p e below s _ _ _ (T9.setTop (mkF m 102 #[.val (.int p1), .val (.int ((p1 &&& (2147483647 : Int32)) % (7 : Int32))), .val (.ref a_SELECT), .val (.int (1 : Int32))] [(.int (1 : Int32)), (.int (own_eq2 a_SELECT a_SELECT a_DELETE))]))
        refine OwnEnd.go (fun _ k => XS.icmpNo X9.here hx rfl (hb hby at_102) rfl (teq (own_eq2_l _ _)).2 k) ?_
        show OwnEnd p e below s _ _ _ (T9.setTop (mkF m 105 #[.val (.int p1), .val (.int ((p1 &&& (2147483647 : Int32)) % (7 : Int32))), .val (.ref a_SELECT), .val (.int (1 : Int32))] []))
        refine OwnEnd.go (fun _ k => XS.iconst X9.here hx rfl (hb hby at_105) k) ?_
        show OwnEnd p e below s _ _ _ (T9.setTop (mkF m 106 #[.val (.int p1), .val (.int ((p1 &&& (2147483647 : Int32)) % (7 : Int32))), .val (.ref a_SELECT), .val (.int (1 : Int32))] [(.int (1 : Int32))]))
        refine OwnEnd.go (fun _ k => XS.goto X9.here hx rfl (pc0 := 106) (pc' := 110) rfl (hb hby at_106) (by decide) (by decide) k) ?_
        show OwnEnd p e below s _ _ _ (T9.setTop (mkF m 110 #[.val (.int p1), .val (.int ((p1 &&& (2147483647 : Int32)) % (7 : Int32))), .val (.ref a_SELECT), .val (.int (1 : Int32))] [(.int (1 : Int32))]))
        refine ownRetZ X9 hx hlk hret (hb hby at_110) (by decide) (by decide) (1 : Int32) (by decide) ?_
        show Q0 Z p1 a_READ a_SELECT a_DELETE a_INSERT a_COMMIT a_ABORT a_WRITE h0 n0 _ T9.heap _
        rw [e9]
        exact ⟨rfl, N9⟩
      · refine OwnEnd.go (fun _ k => XS.icmpYes X0.here hx rfl (pc0 := 37) (pc' := 49) rfl (hb hby at_37) rfl (feq hc7).2 (by decide) (by decide) k) ?_
        show OwnEnd p e below s _ _ _ (s₁.setTop (mkF m 49 #[.val (.int p1), .val (.int ((p1 &&& (2147483647 : Int32)) % (7 : Int32))), .unset, .unset] []))
        refine OwnEnd.go (fun _ k => XS.iloadN X0.here hx rfl (hb hby at_49) rfl  k) ?_
        show OwnEnd p e below s _ _ _ (s₁.setTop (mkF m 50 #[.val (.int p1), .val (.int ((p1 &&& (2147483647 : Int32)) % (7 : Int32))), .unset, .unset] [(.int ((p1 &&& (2147483647 : Int32)) % (7 : Int32)))]))
        refine OwnEnd.go (fun _ k => XS.iconst X0.here hx rfl (hb hby at_50) k) ?_
        show OwnEnd p e below s _ _ _ (s₁.setTop (mkF m 51 #[.val (.int p1), .val (.int ((p1 &&& (2147483647 : Int32)) % (7 : Int32))), .unset, .unset] [(.int (3 : Int32)), (.int ((p1 &&& (2147483647 : Int32)) % (7 : Int32)))]))
        by_cases hc10 : ((p1 &&& (2147483647 : Int32)) % (7 : Int32)) = (3 : Int32)
        · refine OwnEnd.go (fun _ k => XS.icmpNo X0.here hx rfl (hb hby at_51) rfl (teq hc10).2 k) ?_
          show OwnEnd p e below s _ _ _ (s₁.setTop (mkF m 54 #[.val (.int p1), .val (.int ((p1 &&& (2147483647 : Int32)) % (7 : Int32))), .unset, .unset] []))
          obtain ⟨T11, X11, e11, st11⟩ := getS2 X0 hx hZ hown (host := "") (Or.inl ww13) Via.refl e0 (S_INSERT.ext O0.2) (g := (mkF m 54 #[.val (.int p1), .val (.int ((p1 &&& (2147483647 : Int32)) % (7 : Int32))), .unset, .unset] [])) rfl (hb hby at_54)
          refine OwnEnd.go (fun _ k => st11 _ k) ?_
          show OwnEnd p e below s _ _ _ (T11.setTop (mkF m 57 #[.val (.int p1), .val (.int ((p1 &&& (2147483647 : Int32)) % (7 : Int32))), .unset, .unset] [(.ref a_INSERT)]))
          refine OwnEnd.go (fun _ k => XS.astoreN X11.here hx rfl (hb hby at_57) rfl rfl (l' := #[.val (.int p1), .val (.int ((p1 &&& (2147483647 : Int32)) % (7 : Int32))), .val (.ref a_INSERT), .unset]) rfl k) ?_
          show OwnEnd p e below s _ _ _ (T11.setTop (mkF m 58 #[.val (.int p1), .val (.int ((p1 &&& (2147483647 : Int32)) % (7 : Int32))), .val (.ref a_INSERT), .unset] []))
          refine OwnEnd.go (fun _ k => XS.iconst X11.here hx rfl (hb hby at_58) k) ?_
          show OwnEnd p e below s _ _ _ (T11.setTop (mkF m 59 #[.val (.int p1), .val (.int ((p1 &&& (2147483647 : Int32)) % (7 : Int32))), .val (.ref a_INSERT), .unset] [(.int (0 : Int32))]))
          refine OwnEnd.go (fun _ k => XS.istoreN X11.here hx rfl (hb hby at_59) rfl  (l' := #[.val (.int p1), .val (.int ((p1 &&& (2147483647 : Int32)) % (7 : Int32))), .val (.ref a_INSERT), .val (.int (0 : Int32))]) rfl k) ?_
          show OwnEnd p e below s _ _ _ (T11.setTop (mkF m 60 #[.val (.int p1), .val (.int ((p1 &&& (2147483647 : Int32)) % (7 : Int32))), .val (.ref a_INSERT), .val (.int (0 : Int32))] []))
          refine OwnEnd.go (fun _ k => XS.goto X11.here hx rfl (pc0 := 60) (pc' := 97) rfl (hb hby at_60) (by decide) (by decide) k) ?_
          show OwnEnd p e below s _ _ _ (T11.setTop (mkF m 97 #[.val (.int p1), .val (.int ((p1 &&& (2147483647 : Int32)) % (7 : Int32))), .val (.ref a_INSERT), .val (.int (0 : Int32))] []))
          refine OwnEnd.go (fun _ k => XS.aloadN X11.here hx rfl (hb hby at_97) rfl rfl k) ?_
          show OwnEnd p e below s _ _ _ (T11.setTop (mkF m 98 #[.val (.int p1), .val (.int ((p1 &&& (2147483647 : Int32)) % (7 : Int32))), .val (.ref a_INSERT), .val (.int (0 : Int32))] [(.ref a_INSERT)]))
          obtain ⟨_, T12, L12, X12, hQ12, st12⟩ := ownCallV X11 hx hZ hown ww4 ww5 ww7 ww6 ww2 ww8 (by decide) (rm1 l Z a0 hw [] a_INSERT a_SELECT a_DELETE h0 n0 Z0 O0 S_SELECT S_DELETE) e11 E_INSERT 0 (by decide) (by decide) (by decide) (by decide) (g := (mkF m 98 #[.val (.int p1), .val (.int ((p1 &&& (2147483647 : Int32)) % (7 : Int32))), .val (.ref a_INSERT), .val (.int (0 : Int32))] [(.ref a_INSERT)])) rfl (by rw [hml]; rfl) (argsL := []) (rest := []) (lenOf pd0_0 rfl) rfl rfl (by show 2 * 0 + _ ≤ _; exact Nat.le_of_eq rfl) (hb hby at_98)
          obtain ⟨rfl, N12q, e12⟩ := hQ12
          have N12 := Fr.app N0 N12q
          refine OwnEnd.go (fun _ k => st12 _ k) ?_
          show OwnEnd p e below s _ _ _ (T12.setTop (mkF m 101 #[.val (.int p1), .val (.int ((p1 &&& (2147483647 : Int32)) % (7 : Int32))), .val (.ref a_INSERT), .val (.int (0 : Int32))] [(.int (own_eq2 a_INSERT a_SELECT a_DELETE))]))
          refine OwnEnd.go (fun _ k => XS.iloadN X12.here hx rfl (hb hby at_101) rfl  k) ?_
          show OwnEnd p e below s _ _ _ (T12.setTop (mkF m 102 #[.val (.int p1), .val (.int ((p1 &&& (2147483647 : Int32)) % (7 : Int32))), .val (.ref a_INSERT), .val (.int (0 : Int32))] [(.int (0 : Int32)), (.int (own_eq2 a_INSERT a_SELECT a_DELETE))]))
          refine OwnEnd.go (fun _ k => XS.icmpNo X12.here hx rfl (hb hby at_102) rfl (teq (own_eq2_n n_INSERT_SELECT n_INSERT_DELETE)).2 k) ?_
          show OwnEnd p e below s _ _ _ (T12.setTop (mkF m 105 #[.val (.int p1), .val (.int ((p1 &&& (2147483647 : Int32)) % (7 : Int32))), .val (.ref a_INSERT), .val (.int (0 : Int32))] []))
          refine OwnEnd.go (fun _ k => XS.iconst X12.here hx rfl (hb hby at_105) k) ?_
          show OwnEnd p e below s _ _ _ (T12.setTop (mkF m 106 #[.val (.int p1), .val (.int ((p1 &&& (2147483647 : Int32)) % (7 : Int32))), .val (.ref a_INSERT), .val (.int (0 : Int32))] [(.int (1 : Int32))]))
          refine OwnEnd.go (fun _ k => XS.goto X12.here hx rfl (pc0 := 106) (pc' := 110) rfl (hb hby at_106) (by decide) (by decide) k) ?_
          show OwnEnd p e below s _ _ _ (T12.setTop (mkF m 110 #[.val (.int p1), .val (.int ((p1 &&& (2147483647 : Int32)) % (7 : Int32))), .val (.ref a_INSERT), .val (.int (0 : Int32))] [(.int (1 : Int32))]))
          refine ownRetZ X12 hx hlk hret (hb hby at_110) (by decide) (by decide) (1 : Int32) (by decide) ?_
          show Q0 Z p1 a_READ a_SELECT a_DELETE a_INSERT a_COMMIT a_ABORT a_WRITE h0 n0 _ T12.heap _
          rw [e12]
          exact ⟨rfl, N12⟩
        · refine OwnEnd.go (fun _ k => XS.icmpYes X0.here hx rfl (pc0 := 51) (pc' := 63) rfl (hb hby at_51) rfl (feq hc10).2 (by decide) (by decide) k) ?_
          show OwnEnd p e below s _ _ _ (s₁.setTop (mkF m 63 #[.val (.int p1), .val (.int ((p1 &&& (2147483647 : Int32)) % (7 : Int32))), .unset, .unset] []))
          refine OwnEnd.go (fun _ k => XS.iloadN X0.here hx rfl (hb hby at_63) rfl  k) ?_
          show OwnEnd p e below s _ _ _ (s₁.setTop (mkF m 64 #[.val (.int p1), .val (.int ((p1 &&& (2147483647 : Int32)) % (7 : Int32))), .unset, .unset] [(.int ((p1 &&& (2147483647 : Int32)) % (7 : Int32)))]))
          refine OwnEnd.go (fun _ k => XS.iconst X0.here hx rfl (hb hby at_64) k) ?_
          show OwnEnd p e below s _ _ _ (s₁.setTop (mkF m 65 #[.val (.int p1), .val (.int ((p1 &&& (2147483647 : Int32)) % (7 : Int32))), .unset, .unset] [(.int (4 : Int32)), (.int ((p1 &&& (2147483647 : Int32)) % (7 : Int32)))]))
          by_cases hc13 : ((p1 &&& (2147483647 : Int32)) % (7 : Int32)) = (4 : Int32)
          · refine OwnEnd.go (fun _ k => XS.icmpNo X0.here hx rfl (hb hby at_65) rfl (teq hc13).2 k) ?_
            show OwnEnd p e below s _ _ _ (s₁.setTop (mkF m 68 #[.val (.int p1), .val (.int ((p1 &&& (2147483647 : Int32)) % (7 : Int32))), .unset, .unset] []))
            obtain ⟨T14, X14, e14, st14⟩ := getS2 X0 hx hZ hown (host := "") (Or.inl ww19) Via.refl e0 (S_DELETE.ext O0.2) (g := (mkF m 68 #[.val (.int p1), .val (.int ((p1 &&& (2147483647 : Int32)) % (7 : Int32))), .unset, .unset] [])) rfl (hb hby at_68)
            refine OwnEnd.go (fun _ k => st14 _ k) ?_
            show OwnEnd p e below s _ _ _ (T14.setTop (mkF m 71 #[.val (.int p1), .val (.int ((p1 &&& (2147483647 : Int32)) % (7 : Int32))), .unset, .unset] [(.ref a_DELETE)]))
            refine OwnEnd.go (fun _ k => XS.astoreN X14.here hx rfl (hb hby at_71) rfl rfl (l' := #[.val (.int p1), .val (.int ((p1 &&& (2147483647 : Int32)) % (7 : Int32))), .val (.ref a_DELETE), .unset]) rfl k) ?_
            show OwnEnd p e below s _ _ _ (T14.setTop (mkF m 72 #[.val (.int p1), .val (.int ((p1 &&& (2147483647 : Int32)) % (7 : Int32))), .val (.ref a_DELETE), .unset] []))
            refine OwnEnd.go (fun _ k => XS.iconst X14.here hx rfl (hb hby at_72) k) ?_
            show OwnEnd p e below s _ _ _ (T14.setTop (mkF m 73 #[.val (.int p1), .val (.int ((p1 &&& (2147483647 : Int32)) % (7 : Int32))), .val (.ref a_DELETE), .unset] [(.int (1 : Int32))]))
            refine OwnEnd.go (fun _ k => XS.istoreN X14.here hx rfl (hb hby at_73) rfl  (l' := #[.val (.int p1), .val (.int ((p1 &&& (2147483647 : Int32)) % (7 : Int32))), .val (.ref a_DELETE), .val (.int (1 : Int32))]) rfl k) ?_
            show OwnEnd p e below s _ _ _ (T14.setTop (mkF m 74 #[.val (.int p1), .val (.int ((p1 &&& (2147483647 : Int32)) % (7 : Int32))), .val (.ref a_DELETE), .val (.int (1 : Int32))] []))
            refine OwnEnd.go (fun _ k => XS.goto X14.here hx rfl (pc0 := 74) (pc' := 97) rfl (hb hby at_74) (by decide) (by decide) k) ?_
            show OwnEnd p e below s _ _ _ (T14.setTop (mkF m 97 #[.val (.int p1), .val (.int ((p1 &&& (2147483647 : Int32)) % (7 : Int32))), .val (.ref a_DELETE), .val (.int (1 : Int32))] []))
            refine OwnEnd.go (fun _ k => XS.aloadN X14.here hx rfl (hb hby at_97) rfl rfl k) ?_
            show OwnEnd p e below s _ _ _ (T14.setTop (mkF m 98 #[.val (.int p1), .val (.int ((p1 &&& (2147483647 : Int32)) % (7 : Int32))), .val (.ref a_DELETE), .val (.int (1 : Int32))] [(.ref a_DELETE)]))
            obtain ⟨_, T15, L15, X15, hQ15, st15⟩ := ownCallV X14 hx hZ hown ww4 ww5 ww7 ww6 ww2 ww8 (by decide) (rm1 l Z a0 hw [] a_DELETE a_SELECT a_DELETE h0 n0 Z0 O0 S_SELECT S_DELETE) e14 E_DELETE 0 (by decide) (by decide) (by decide) (by decide) (g := (mkF m 98 #[.val (.int p1), .val (.int ((p1 &&& (2147483647 : Int32)) % (7 : Int32))), .val (.ref a_DELETE), .val (.int (1 : Int32))] [(.ref a_DELETE)])) rfl (by rw [hml]; rfl) (argsL := []) (rest := []) (lenOf pd0_0 rfl) rfl rfl (by show 2 * 0 + _ ≤ _; exact Nat.le_of_eq rfl) (hb hby at_98)
            obtain ⟨rfl, N15q, e15⟩ := hQ15
            have N15 := Fr.app N0 N15q
            refine OwnEnd.go (fun _ k => st15 _ k) ?_
            show OwnEnd p e below s _ _ _ (T15.setTop (mkF m 101 #[.val (.int p1), .val (.int ((p1 &&& (2147483647 : Int32)) % (7 : Int32))), .val (.ref a_DELETE), .val (.int (1 : Int32))] [(.int (own_eq2 a_DELETE a_SELECT a_DELETE))]))
            refine OwnEnd.go (fun _ k => XS.iloadN X15.here hx rfl (hb hby at_101) rfl  k) ?_
            show OwnEnd p e below s _ _ _ (T15.setTop (mkF m 102 #[.val (.int p1), .val (.int ((p1 &&& (2147483647 : Int32)) % (7 : Int32))), .val (.ref a_DELETE), .val (.int (1 : Int32))] [(.int (1 : Int32)), (.int (own_eq2 a_DELETE a_SELECT a_DELETE))]))
            refine OwnEnd.go (fun _ k => XS.icmpNo X15.here hx rfl (hb hby at_102) rfl (teq (own_eq2_r _ _)).2 k) ?_
            show OwnEnd p e below s _ _ _ (T15.setTop (mkF m 105 #[.val (.int p1), .val (.int ((p1 &&& (2147483647 : Int32)) % (7 : Int32))), .val (.ref a_DELETE), .val (.int (1 : Int32))] []))
            refine OwnEnd.go (fun _ k => XS.iconst X15.here hx rfl (hb hby at_105) k) ?_
            show OwnEnd p e below s _ _ _ (T15.setTop (mkF m 106 #[.val (.int p1), .val (.int ((p1 &&& (2147483647 : Int32)) % (7 : Int32))), .val (.ref a_DELETE), .val (.int (1 : Int32))] [(.int (1 : Int32))]))
            refine OwnEnd.go (fun _ k => XS.goto X15.here hx rfl (pc0 := 106) (pc' := 110) rfl (hb hby at_106) (by decide) (by decide) k) ?_
            show OwnEnd p e below s _ _ _ (T15.setTop (mkF m 110 #[.val (.int p1), .val (.int ((p1 &&& (2147483647 : Int32)) % (7 : Int32))), .val (.ref a_DELETE), .val (.int (1 : Int32))] [(.int (1 : Int32))]))
            refine ownRetZ X15 hx hlk hret (hb hby at_110) (by decide) (by decide) (1 : Int32) (by decide) ?_
            show Q0 Z p1 a_READ a_SELECT a_DELETE a_INSERT a_COMMIT a_ABORT a_WRITE h0 n0 _ T15.heap _
            rw [e15]
            exact ⟨rfl, N15⟩
          · refine OwnEnd.go (fun _ k => XS.icmpYes X0.here hx rfl (pc0 := 65) (pc' := 77) rfl (hb hby at_65) rfl (feq hc13).2 (by decide) (by decide) k) ?_
            show OwnEnd p e below s _ _ _ (s₁.setTop (mkF m 77 #[.val (.int p1), .val (.int ((p1 &&& (2147483647 : Int32)) % (7 : Int32))), .unset, .unset] []))
            refine OwnEnd.go (fun _ k => XS.iloadN X0.here hx rfl (hb hby at_77) rfl  k) ?_
            show OwnEnd p e below s _ _ _ (s₁.setTop (mkF m 78 #[.val (.int p1), .val (.int ((p1 &&& (2147483647 : Int32)) % (7 : Int32))), .unset, .unset] [(.int ((p1 &&& (2147483647 : Int32)) % (7 : Int32)))]))
            refine OwnEnd.go (fun _ k => XS.iconst X0.here hx rfl (hb hby at_78) k) ?_
            show OwnEnd p e below s _ _ _ (s₁.setTop (mkF m 79 #[.val (.int p1), .val (.int ((p1 &&& (2147483647 : Int32)) % (7 : Int32))), .unset, .unset] [(.int (5 : Int32)), (.int ((p1 &&& (2147483647 : Int32)) % (7 : Int32)))]))
            by_cases hc16 : ((p1 &&& (2147483647 : Int32)) % (7 : Int32)) = (5 : Int32)
            · refine OwnEnd.go (fun _ k => XS.icmpNo X0.here hx rfl (hb hby at_79) rfl (teq hc16).2 k) ?_
              show OwnEnd p e below s _ _ _ (s₁.setTop (mkF m 82 #[.val (.int p1), .val (.int ((p1 &&& (2147483647 : Int32)) % (7 : Int32))), .unset, .unset] []))
              obtain ⟨T17, X17, e17, st17⟩ := getS2 X0 hx hZ hown (host := "") (Or.inl ww15) Via.refl e0 (S_COMMIT.ext O0.2) (g := (mkF m 82 #[.val (.int p1), .val (.int ((p1 &&& (2147483647 : Int32)) % (7 : Int32))), .unset, .unset] [])) rfl (hb hby at_82)
              refine OwnEnd.go (fun _ k => st17 _ k) ?_
              show OwnEnd p e below s _ _ _ (T17.setTop (mkF m 85 #[.val (.int p1), .val (.int ((p1 &&& (2147483647 : Int32)) % (7 : Int32))), .unset, .unset] [(.ref a_COMMIT)]))
              refine OwnEnd.go (fun _ k => XS.astoreN X17.here hx rfl (hb hby at_85) rfl rfl (l' := #[.val (.int p1), .val (.int ((p1 &&& (2147483647 : Int32)) % (7 : Int32))), .val (.ref a_COMMIT), .unset]) rfl k) ?_
              show OwnEnd p e below s _ _ _ (T17.setTop (mkF m 86 #[.val (.int p1), .val (.int ((p1 &&& (2147483647 : Int32)) % (7 : Int32))), .val (.ref a_COMMIT), .unset] []))
              refine OwnEnd.go (fun _ k => XS.iconst X17.here hx rfl (hb hby at_86) k) ?_
              show OwnEnd p e below s _ _ _ (T17.setTop (mkF m 87 #[.val (.int p1), .val (.int ((p1 &&& (2147483647 : Int32)) % (7 : Int32))), .val (.ref a_COMMIT), .unset] [(.int (0 : Int32))]))
              refine OwnEnd.go (fun _ k => XS.istoreN X17.here hx rfl (hb hby at_87) rfl  (l' := #[.val (.int p1), .val (.int ((p1 &&& (2147483647 : Int32)) % (7 : Int32))), .val (.ref a_COMMIT), .val (.int (0 : Int32))]) rfl k) ?_
              show OwnEnd p e below s _ _ _ (T17.setTop (mkF m 88 #[.val (.int p1), .val (.int ((p1 &&& (2147483647 : Int32)) % (7 : Int32))), .val (.ref a_COMMIT), .val (.int (0 : Int32))] []))
              refine OwnEnd.go (fun _ k => XS.goto X17.here hx rfl (pc0 := 88) (pc' := 97) rfl (hb hby at_88) (by decide) (by decide) k) ?_
              show OwnEnd p e below s _ _ _ (T17.setTop (mkF m 97 #[.val (.int p1), .val (.int ((p1 &&& (2147483647 : Int32)) % (7 : Int32))), .val (.ref a_COMMIT), .val (.int (0 : Int32))] []))
              refine OwnEnd.go (fun _ k => XS.aloadN X17.here hx rfl (hb hby at_97) rfl rfl k) ?_
              show OwnEnd p e below s _ _ _ (T17.setTop (mkF m 98 #[.val (.int p1), .val (.int ((p1 &&& (2147483647 : Int32)) % (7 : Int32))), .val (.ref a_COMMIT), .val (.int (0 : Int32))] [(.ref a_COMMIT)]))
              obtain ⟨_, T18, L18, X18, hQ18, st18⟩ := ownCallV X17 hx hZ hown ww4 ww5 ww7 ww6 ww2 ww8 (by decide) (rm1 l Z a0 hw [] a_COMMIT a_SELECT a_DELETE h0 n0 Z0 O0 S_SELECT S_DELETE) e17 E_COMMIT 0 (by decide) (by decide) (by decide) (by decide) (g := (mkF m 98 #[.val (.int p1), .val (.int ((p1 &&& (2147483647 : Int32)) % (7 : Int32))), .val (.ref a_COMMIT), .val (.int (0 : Int32))] [(.ref a_COMMIT)])) rfl (by rw [hml]; rfl) (argsL := []) (rest := []) (lenOf pd0_0 rfl) rfl rfl (by show 2 * 0 + _ ≤ _; exact Nat.le_of_eq rfl) (hb hby at_98)
              obtain ⟨rfl, N18q, e18⟩ := hQ18
              have N18 := Fr.app N0 N18q
              refine OwnEnd.go (fun _ k => st18 _ k) ?_
              show OwnEnd p e below s _ _ _ (T18.setTop (mkF m 101 #[.val (.int p1), .val (.int ((p1 &&& (2147483647 : Int32)) % (7 : Int32))), .val (.ref a_COMMIT), .val (.int (0 : Int32))] [(.int (own_eq2 a_COMMIT a_SELECT a_DELETE))]))
              refine OwnEnd.go (fun _ k => XS.iloadN X18.here hx rfl (hb hby at_101) rfl  k) ?_
              show OwnEnd p e below s _ _ _ (T18.setTop (mkF m 102 #[.val (.int p1), .val (.int ((p1 &&& (2147483647 : Int32)) % (7 : Int32))), .val (.ref a_COMMIT), .val (.int (0 : Int32))] [(.int (0 : Int32)), (.int (own_eq2 a_COMMIT a_SELECT a_DELETE))]))
              refine OwnEnd.go (fun _ k => XS.icmpNo X18.here hx rfl (hb hby at_102) rfl (teq (own_eq2_n n_COMMIT_SELECT n_COMMIT_DELETE)).2 k) ?_
              show OwnEnd p e below s _ _ _ (T18.setTop (mkF m 105 #[.val (.int p1), .val (.int ((p1 &&& (2147483647 : Int32)) % (7 : Int32))), .val (.ref a_COMMIT), .val (.int (0 : Int32))] []))
              refine OwnEnd.go (fun _ k => XS.iconst X18.here hx rfl (hb hby at_105) k) ?_
              show OwnEnd p e below s _ _ _ (T18.setTop (mkF m 106 #[.val (.int p1), .val (.int ((p1 &&& (2147483647 : Int32)) % (7 : Int32))), .val (.ref a_COMMIT), .val (.int (0 : Int32))] [(.int (1 : Int32))]))
              refine OwnEnd.go (fun _ k => XS.goto X18.here hx rfl (pc0 := 106) (pc' := 110) rfl (hb hby at_106) (by decide) (by decide) k) ?_
              show OwnEnd p e below s _ _ _ (T18.setTop (mkF m 110 #[.val (.int p1), .val (.int ((p1 &&& (2147483647 : Int32)) % (7 : Int32))), .val (.ref a_COMMIT), .val (.int (0 : Int32))] [(.int (1 : Int32))]))
              refine ownRetZ X18 hx hlk hret (hb hby at_110) (by decide) (by decide) (1 : Int32) (by decide) ?_
              show Q0 Z p1 a_READ a_SELECT a_DELETE a_INSERT a_COMMIT a_ABORT a_WRITE h0 n0 _ T18.heap _
              rw [e18]
              exact ⟨rfl, N18⟩
            · refine OwnEnd.go (fun _ k => XS.icmpYes X0.here hx rfl (pc0 := 79) (pc' := 91) rfl (hb hby at_79) rfl (feq hc16).2 (by decide) (by decide) k) ?_
              show OwnEnd p e below s _ _ _ (s₁.setTop (mkF m 91 #[.val (.int p1), .val (.int ((p1 &&& (2147483647 : Int32)) % (7 : Int32))), .unset, .unset] []))
              obtain ⟨T19, X19, e19, st19⟩ := getS2 X0 hx hZ hown (host := "") (Or.inl ww17) Via.refl e0 (S_ABORT.ext O0.2) (g := (mkF m 91 #[.val (.int p1), .val (.int ((p1 &&& (2147483647 : Int32)) % (7 : Int32))), .unset, .unset] [])) rfl (hb hby at_91)
              refine OwnEnd.go (fun _ k => st19 _ k) ?_
              show OwnEnd p e below s _ _ _ (T19.setTop (mkF m 94 #[.val (.int p1), .val (.int ((p1 &&& (2147483647 : Int32)) % (7 : Int32))), .unset, .unset] [(.ref a_ABORT)]))
              refine OwnEnd.go (fun _ k => XS.astoreN X19.here hx rfl (hb hby at_94) rfl rfl (l' := #[.val (.int p1), .val (.int ((p1 &&& (2147483647 : Int32)) % (7 : Int32))), .val (.ref a_ABORT), .unset]) rfl k) ?_
              show OwnEnd p e below s _ _ _ (T19.setTop (mkF m 95 #[.val (.int p1), .val (.int ((p1 &&& (2147483647 : Int32)) % (7 : Int32))), .val (.ref a_ABORT), .unset] []))
              refine OwnEnd.go (fun _ k => XS.iconst X19.here hx rfl (hb hby at_95) k) ?_
              show OwnEnd p e below s _ _ _ (T19.setTop (mkF m 96 #[.val (.int p1), .val (.int ((p1 &&& (2147483647 : Int32)) % (7 : Int32))), .val (.ref a_ABORT), .unset] [(.int (0 : Int32))]))
              refine OwnEnd.go (fun _ k => XS.istoreN X19.here hx rfl (hb hby at_96) rfl  (l' := #[.val (.int p1), .val (.int ((p1 &&& (2147483647 : Int32)) % (7 : Int32))), .val (.ref a_ABORT), .val (.int (0 : Int32))]) rfl k) ?_
              show OwnEnd p e below s _ _ _ (T19.setTop (mkF m 97 #[.val (.int p1), .val (.int ((p1 &&& (2147483647 : Int32)) % (7 : Int32))), .val (.ref a_ABORT), .val (.int (0 : Int32))] []))
              refine OwnEnd.go (fun _ k => XS.aloadN X19.here hx rfl (hb hby at_97) rfl rfl k) ?_
              show OwnEnd p e below s _ _ _ (T19.setTop (mkF m 98 #[.val (.int p1), .val (.int ((p1 &&& (2147483647 : Int32)) % (7 : Int32))), .val (.ref a_ABORT), .val (.int (0 : Int32))] [(.ref a_ABORT)]))
              obtain ⟨_, T20, L20, X20, hQ20, st20⟩ := ownCallV X19 hx hZ hown ww4 ww5 ww7 ww6 ww2 ww8 (by decide) (rm1 l Z a0 hw [] a_ABORT a_SELECT a_DELETE h0 n0 Z0 O0 S_SELECT S_DELETE) e19 E_ABORT 0 (by decide) (by decide) (by decide) (by decide) (g := (mkF m 98 #[.val (.int p1), .val (.int ((p1 &&& (2147483647 : Int32)) % (7 : Int32))), .val (.ref a_ABORT), .val (.int (0 : Int32))] [(.ref a_ABORT)])) rfl (by rw [hml]; rfl) (argsL := []) (rest := []) (lenOf pd0_0 rfl) rfl rfl (by show 2 * 0 + _ ≤ _; exact Nat.le_of_eq rfl) (hb hby at_98)
              obtain ⟨rfl, N20q, e20⟩ := hQ20
              have N20 := Fr.app N0 N20q
              refine OwnEnd.go (fun _ k => st20 _ k) ?_
              show OwnEnd p e below s _ _ _ (T20.setTop (mkF m 101 #[.val (.int p1), .val (.int ((p1 &&& (2147483647 : Int32)) % (7 : Int32))), .val (.ref a_ABORT), .val (.int (0 : Int32))] [(.int (own_eq2 a_ABORT a_SELECT a_DELETE))]))
              refine OwnEnd.go (fun _ k => XS.iloadN X20.here hx rfl (hb hby at_101) rfl  k) ?_
              show OwnEnd p e below s _ _ _ (T20.setTop (mkF m 102 #[.val (.int p1), .val (.int ((p1 &&& (2147483647 : Int32)) % (7 : Int32))), .val (.ref a_ABORT), .val (.int (0 : Int32))] [(.int (0 : Int32)), (.int (own_eq2 a_ABORT a_SELECT a_DELETE))]))
              refine OwnEnd.go (fun _ k => XS.icmpNo X20.here hx rfl (hb hby at_102) rfl (teq (own_eq2_n n_ABORT_SELECT n_ABORT_DELETE)).2 k) ?_
              show OwnEnd p e below s _ _ _ (T20.setTop (mkF m 105 #[.val (.int p1), .val (.int ((p1 &&& (2147483647 : Int32)) % (7 : Int32))), .val (.ref a_ABORT), .val (.int (0 : Int32))] []))
              refine OwnEnd.go (fun _ k => XS.iconst X20.here hx rfl (hb hby at_105) k) ?_
              show OwnEnd p e below s _ _ _ (T20.setTop (mkF m 106 #[.val (.int p1), .val (.int ((p1 &&& (2147483647 : Int32)) % (7 : Int32))), .val (.ref a_ABORT), .val (.int (0 : Int32))] [(.int (1 : Int32))]))
              refine OwnEnd.go (fun _ k => XS.goto X20.here hx rfl (pc0 := 106) (pc' := 110) rfl (hb hby at_106) (by decide) (by decide) k) ?_
              show OwnEnd p e below s _ _ _ (T20.setTop (mkF m 110 #[.val (.int p1), .val (.int ((p1 &&& (2147483647 : Int32)) % (7 : Int32))), .val (.ref a_ABORT), .val (.int (0 : Int32))] [(.int (1 : Int32))]))
              refine ownRetZ X20 hx hlk hret (hb hby at_110) (by decide) (by decide) (1 : Int32) (by decide) ?_
              show Q0 Z p1 a_READ a_SELECT a_DELETE a_INSERT a_COMMIT a_ABORT a_WRITE h0 n0 _ T20.heap _
              rw [e20]
              exact ⟨rfl, N20⟩
set_option maxRecDepth 65536 in
set_option maxHeartbeats 40000000 in
theorem comes_1 {Post : Tables → Env → Array Value → State → Outcome → State → Prop} (hpost : ∀ tb e args s v u, (limb_1_1.after args s (.returned v) u = true ∧ limb_1_2.after args s (.returned v) u = true ∧ True) → FrameEnd s (.returned v) u (Jvm.fieldLocs frame_1_writes args s ++ Jvm.arrayLocs frame_1_arrays args s ++ Jvm.staticLocs frame_1_statics s) 0 0 → Post tb e args s (.returned v) u) :
    ArmFor flags0 classFile x code maxLocals ret World_1 tables_1 room_1 Calls_1 rest_1 Pre_1 Post := by
  intro l hfl _ _ p e ha hc hk s m args below hf hA hF happ hP
  obtain ⟨hcalls, hrest, hpre⟩ := hP
  obtain ⟨-, -, -, hnamed, -, -, -, hat⟩ := (Spec.applies_iff hf).mp happ
  obtain ⟨hg, hn⟩ := and_e (Cond.before_iff.mp (show (Jvm.Cond.and given_1 narrow_1).before args s = true from hpre))
  obtain ⟨hcount, hg⟩ := and_e hg
  have hv0 := hg
  obtain ⟨w0, rfl⟩ : ∃ w0 : Value, args = #[w0] := by
    have hs : args.size = 1 := by simpa [Cond.value, given_1] using hcount
    obtain ⟨L⟩ := args
    match L, hs with
    | [w0], _ => exact ⟨w0, rfl⟩
  have hw := fun d (hd : d ∈ tables_1) => atoms_spec (ws := Jvm.Cond.code x code maxLocals ret :: tables_1) hat d (List.mem_cons_of_mem _ hd)
  have hfit : Fit s := fun {y c} hc i hi => by
    obtain ⟨ha, rfl⟩ := Array.getElem?_eq_some_iff.mp hc
    have q := List.all_eq_true.mp ((Array.all_eq_true_iff_forall_mem.mp hF) _ (Array.getElem_mem ha)) i (List.mem_range.mpr hi)
    simpa [Array.getElem?_eq_getElem hi] using q
  obtain ⟨i0, ei0⟩ := is_v hv0
  obtain rfl : w0 = (.int i0) := Option.some.inj ei0
  have ww2 := hw _ (List.mem_of_getElem? (i := 2) rfl)
  have ww3 := hw _ (List.mem_of_getElem? (i := 3) rfl)
  have ww10 := hw _ (List.mem_of_getElem? (i := 10) rfl)
  have ww12 := hw _ (List.mem_of_getElem? (i := 12) rfl)
  have ww14 := hw _ (List.mem_of_getElem? (i := 14) rfl)
  have ww16 := hw _ (List.mem_of_getElem? (i := 16) rfl)
  have ww18 := hw _ (List.mem_of_getElem? (i := 18) rfl)
  have ww22 := hw _ (List.mem_of_getElem? (i := 22) rfl)
  obtain ⟨na1, nb1⟩ := and_e hn
  obtain ⟨na2, nb2⟩ := and_e nb1
  obtain ⟨na3, nb3⟩ := and_e nb2
  obtain ⟨na4, nb4⟩ := and_e nb3
  obtain ⟨na5, nb5⟩ := and_e nb4
  obtain ⟨na6, nb6⟩ := and_e nb5
  obtain ⟨na7, nb7⟩ := and_e nb6
  obtain ⟨na8, nb8⟩ := and_e nb7
  obtain ⟨na9, nb9⟩ := and_e nb8
  obtain ⟨na10, nb10⟩ := and_e nb9
  obtain ⟨na11, nb11⟩ := and_e nb10
  obtain ⟨na12, nb12⟩ := and_e nb11
  obtain ⟨na13, nb13⟩ := and_e nb12
  obtain ⟨a_READ, ev_READ⟩ := exa_v na1
  have E_READ := Exa.start ev_READ na1
  have S_READ := Sta.start ev_READ (Or.inr ⟨ww2, ww3⟩)
  obtain ⟨a_SELECT, ev_SELECT⟩ := exa_v na2
  have E_SELECT := Exa.start ev_SELECT na2
  have S_SELECT := Sta.start ev_SELECT (Or.inr ⟨ww2, ww10⟩)
  obtain ⟨a_DELETE, ev_DELETE⟩ := exa_v na5
  have E_DELETE := Exa.start ev_DELETE na5
  have S_DELETE := Sta.start ev_DELETE (Or.inr ⟨ww2, ww12⟩)
  obtain ⟨a_INSERT, ev_INSERT⟩ := exa_v na7
  have E_INSERT := Exa.start ev_INSERT na7
  have S_INSERT := Sta.start ev_INSERT (Or.inr ⟨ww2, ww14⟩)
  obtain ⟨a_COMMIT, ev_COMMIT⟩ := exa_v na9
  have E_COMMIT := Exa.start ev_COMMIT na9
  have S_COMMIT := Sta.start ev_COMMIT (Or.inr ⟨ww2, ww16⟩)
  obtain ⟨a_ABORT, ev_ABORT⟩ := exa_v na11
  have E_ABORT := Exa.start ev_ABORT na11
  have S_ABORT := Sta.start ev_ABORT (Or.inr ⟨ww2, ww18⟩)
  obtain ⟨a_WRITE, ev_WRITE⟩ := exa_v na13
  have E_WRITE := Exa.start ev_WRITE na13
  have S_WRITE := Sta.start ev_WRITE (Or.inr ⟨ww2, ww22⟩)
  have D_READ : Fld s s.heap a_READ "java/lang/Enum" "ordinal" "I" (.int (0 : Int32)) := ownOrd ev_READ na3
  have D_SELECT : Fld s s.heap a_SELECT "java/lang/Enum" "ordinal" "I" (.int (2 : Int32)) := ownOrd ev_SELECT na4
  have D_DELETE : Fld s s.heap a_DELETE "java/lang/Enum" "ordinal" "I" (.int (4 : Int32)) := ownOrd ev_DELETE na6
  have D_INSERT : Fld s s.heap a_INSERT "java/lang/Enum" "ordinal" "I" (.int (3 : Int32)) := ownOrd ev_INSERT na8
  have D_COMMIT : Fld s s.heap a_COMMIT "java/lang/Enum" "ordinal" "I" (.int (5 : Int32)) := ownOrd ev_COMMIT na10
  have D_ABORT : Fld s s.heap a_ABORT "java/lang/Enum" "ordinal" "I" (.int (6 : Int32)) := ownOrd ev_ABORT na12
  have D_WRITE : Fld s s.heap a_WRITE "java/lang/Enum" "ordinal" "I" (.int (1 : Int32)) := ownOrd ev_WRITE nb13
  have n_READ_SELECT : a_READ ≠ a_SELECT := Fld.ne D_READ D_SELECT (by decide)
  have n_READ_DELETE : a_READ ≠ a_DELETE := Fld.ne D_READ D_DELETE (by decide)
  have n_SELECT_DELETE : a_SELECT ≠ a_DELETE := Fld.ne D_SELECT D_DELETE (by decide)
  have n_INSERT_SELECT : a_INSERT ≠ a_SELECT := Fld.ne D_INSERT D_SELECT (by decide)
  have n_INSERT_DELETE : a_INSERT ≠ a_DELETE := Fld.ne D_INSERT D_DELETE (by decide)
  have n_COMMIT_SELECT : a_COMMIT ≠ a_SELECT := Fld.ne D_COMMIT D_SELECT (by decide)
  have n_COMMIT_DELETE : a_COMMIT ≠ a_DELETE := Fld.ne D_COMMIT D_DELETE (by decide)
  have n_ABORT_SELECT : a_ABORT ≠ a_SELECT := Fld.ne D_ABORT D_SELECT (by decide)
  have n_ABORT_DELETE : a_ABORT ≠ a_DELETE := Fld.ne D_ABORT D_DELETE (by decide)
  have n_WRITE_SELECT : a_WRITE ≠ a_SELECT := Fld.ne D_WRITE D_SELECT (by decide)
  have n_WRITE_DELETE : a_WRITE ≠ a_DELETE := Fld.ne D_WRITE D_DELETE (by decide)
  obtain ⟨n, o, h1, h2, h3, _, L, rfl, ⟨rfl, N⟩, hq⟩ := rm0 l s _ hw tables_1 i0 a_READ a_SELECT a_DELETE a_INSERT a_COMMIT a_ABORT a_WRITE s.heap s.heap.size (Nat.le_refl _) (Old.start s) S_READ S_SELECT S_DELETE S_INSERT S_COMMIT S_ABORT S_WRITE E_READ E_SELECT E_DELETE E_INSERT E_COMMIT E_ABORT E_WRITE n_READ_SELECT n_READ_DELETE n_SELECT_DELETE n_INSERT_SELECT n_INSERT_DELETE n_COMMIT_SELECT n_COMMIT_DELETE n_ABORT_SELECT n_ABORT_DELETE n_WRITE_SELECT n_WRITE_DELETE p e ha hc hk s m _ below hf ((Spec.applies_iff_loose hf).mp happ).1 ⟨rfl, State.Warmed39.refl s, rfl⟩ trivial
  refine ⟨n, _, h1, h2, h3, hpost _ _ _ _ _ _ ⟨Cond.after_iff.mpr rfl, Cond.after_iff.mpr (eq_i res_at (Term.int_eval (1)) rfl), trivial⟩ ⟨hq.1, hq.2.1, (hq.2.2.sift fun y hy => Or.inr (N y hy)).mono (by decide) (by decide)⟩⟩
theorem main_1_1 : Claimed_1_1 := comes_1 fun _ _ _ _ _ _ h hF => ⟨h.1, hF⟩
theorem main_1_2 : Claimed_1_2 := comes_1 fun _ _ _ _ _ _ h hF => ⟨h.2.1, hF⟩
end Jvm.Pilot.@@N@@
namespace Jvm.Pilot.@@N@@
open Jvm Jvm.ClassFile Sem Op Lib Jvm.Free Jvm.Stand Jvm.Pilot.@@N@@.Jvm.D
/-! MADE BY PROGRAM (witnessworld.py) out of the Statement's table words and the real class files: 12 classes; the members and pool entries that the words name. The judged class is class 1, her method 1. -/
namespace start1
open Jvm.ClassFile
def u (s : String) : CpInfo := .utf8 (stringToUtf16 s)
/-- a pool by its gaps: so many unusable entries, then the entry; so many at the end -/
def gap : Nat → List CpInfo → List CpInfo
  | 0, r => r
  | n + 1, r => .unusable :: gap n r
def poolList (es : List (Nat × CpInfo)) (last : Nat) : List CpInfo := es.foldr (fun e r => gap e.1 (e.2 :: r)) (gap last [])
def pool (es : List (Nat × CpInfo)) (last : Nat) : Array CpInfo := ⟨poolList es last⟩
def fileOf (pool : Array CpInfo) (this : Nat) (attrs : Array Attribute := #[]) (ms : Array MethodInfo := #[]) (fl : Nat := 33) (sup : Nat := 0) (ifs : Array Nat := #[]) (fds : Array FieldInfo := #[]) : ClassFile where
  minorVersion := 0
  majorVersion := 65
  constantPool := pool
  accessFlags := fl
  thisClass := this
  superClass := sup
  interfaces := ifs
  fields := fds
  methods := ms
  attributes := attrs
def plain (name : String) (sup : Option ClassId) : Class where
  name := name
  kind := .ordinary
  loader := none
  accessFlags := 33
  super := sup
  interfaces := #[]
  cf := none
  fields := #[]
  methods := #[]
  instanceTypes := #[]
  staticTypes := #[]
  resolved := #[]
  callSites := []
  init := .initialized
  statics := none
  mirror := none

def pool0 : Array CpInfo := pool [(5, u "<init>"), (0, u "()V"), (1, .class_ 10), (1, u "java/lang/Object")] 113

def k0m0 : Method := { name := "<init>", desc := "()V", sig := { parameters := [], returnType := none }, accessFlags := 1, code := none }
/-- java/lang/Object -/
def k0 : Class := { plain "java/lang/Object" none with
  accessFlags := 33
  interfaces := #[]
  cf := some (fileOf pool0 8 #[] #[{ accessFlags := 1, nameIndex := 5, descriptorIndex := 6, attributes := #[] }] 33 0 #[] #[])
  fields := #[]
  methods := #[k0m0]
  instanceTypes := #[]
  staticTypes := #[]
  resolved := Array.replicate 124 none
  statics := none }

def pool1 : Array CpInfo := pool [(2, .class_ 4), (1, u "java/lang/Object"), (0, u "<init>"), (0, u "()V"), (0, .integer 2147483647), (0, .fieldref 9 10), (0, .class_ 11), (0, .nameAndType 12 13), (0, u "com/example/isolation_anomaly_finder/isolationanomalyfinder/ScenarioStep$Verb"), (0, u "READ"), (0, u "Lcom/example/isolation_anomaly_finder/isolationanomalyfinder/ScenarioStep$Verb;"), (0, .fieldref 9 15), (0, .nameAndType 16 13), (0, u "WRITE"), (0, .fieldref 9 18), (0, .nameAndType 19 13), (0, u "SELECT"), (0, .fieldref 9 21), (0, .nameAndType 22 13), (0, u "INSERT"), (0, .fieldref 9 24), (0, .nameAndType 25 13), (0, u "DELETE"), (0, .fieldref 9 27), (0, .nameAndType 28 13), (0, u "COMMIT"), (0, .fieldref 9 30), (0, .nameAndType 31 13), (0, u "ABORT"), (0, .methodref 9 33), (0, .nameAndType 34 35), (0, u "byCondition"), (0, u "()Z"), (0, .class_ 37), (0, u "com/example/isolation_anomaly_finder/isolationanomalyfinder/VerbByConditionPinLaw"), (2, u "law"), (0, u "(I)Z")] 7

def k1m0 : Method := { name := "<init>", desc := "()V", sig := { parameters := [], returnType := none }, accessFlags := 1, code := none }
def k1c1 : Code := { maxStack := 2, maxLocals := 4, code := code, exceptionTable := #[], attributes := #[] }
def k1m1 : Method := { name := "law", desc := "(I)Z", sig := { parameters := [.int], returnType := some .boolean }, accessFlags := 9, code := some k1c1 }
/-- com/example/isolation_anomaly_finder/isolationanomalyfinder/VerbByConditionPinLaw -/
def k1 : Class := { plain "com/example/isolation_anomaly_finder/isolationanomalyfinder/VerbByConditionPinLaw" (some 0) with
  accessFlags := 49
  interfaces := #[]
  cf := some (fileOf pool1 36 #[] #[{ accessFlags := 1, nameIndex := 5, descriptorIndex := 6, attributes := #[] }, { accessFlags := 9, nameIndex := 40, descriptorIndex := 41, attributes := #[] }] 49 2 #[] #[])
  fields := #[]
  methods := #[k1m0, k1m1]
  instanceTypes := #[]
  staticTypes := #[]
  resolved := Array.replicate 49 none
  statics := none }

def pool2 : Array CpInfo := pool [(1, .class_ 2), (0, u "java/lang/constant/Constable"), (0, .class_ 4), (0, u "java/lang/Object")] 6

/-- java/lang/constant/Constable -/
def k2 : Class := { plain "java/lang/constant/Constable" (some 0) with
  accessFlags := 1537
  interfaces := #[]
  cf := some (fileOf pool2 1 #[] #[] 1537 3 #[] #[])
  fields := #[]
  methods := #[]
  instanceTypes := #[]
  staticTypes := #[]
  resolved := Array.replicate 11 none
  statics := none }

def pool3 : Array CpInfo := pool [(1, .class_ 2), (0, u "java/lang/Comparable"), (0, .class_ 4), (0, u "java/lang/Object")] 7

/-- java/lang/Comparable -/
def k3 : Class := { plain "java/lang/Comparable" (some 0) with
  accessFlags := 1537
  interfaces := #[]
  cf := some (fileOf pool3 1 #[] #[] 1537 3 #[] #[])
  fields := #[]
  methods := #[]
  instanceTypes := #[]
  staticTypes := #[]
  resolved := Array.replicate 12 none
  statics := none }

def pool4 : Array CpInfo := pool [(1, .class_ 2), (0, u "java/io/Serializable"), (0, .class_ 4), (0, u "java/lang/Object")] 2

/-- java/io/Serializable -/
def k4 : Class := { plain "java/io/Serializable" (some 0) with
  accessFlags := 1537
  interfaces := #[]
  cf := some (fileOf pool4 1 #[] #[] 1537 3 #[] #[])
  fields := #[]
  methods := #[]
  instanceTypes := #[]
  staticTypes := #[]
  resolved := Array.replicate 7 none
  statics := none }

def pool5 : Array CpInfo := pool [(2, .class_ 4), (1, u "java/lang/Enum"), (0, u "name"), (0, u "Ljava/lang/String;"), (2, u "ordinal"), (0, u "I"), (1, .class_ 14), (1, u "java/lang/Object"), (4, u "hash"), (86, .class_ 108), (1, u "java/lang/Enum$EnumDesc"), (2, .class_ 112), (0, u "java/lang/constant/Constable"), (0, .class_ 114), (0, u "java/lang/Comparable"), (0, .class_ 116), (0, u "java/io/Serializable")] 87

/-- java/lang/Enum -/
def k5 : Class := { plain "java/lang/Enum" (some 0) with
  accessFlags := 1057
  interfaces := #[2, 3, 4]
  cf := some (fileOf pool5 2 #[.nestMembers #[106]] #[] 1057 12 #[111, 113, 115] #[{ accessFlags := 18, nameIndex := 5, descriptorIndex := 6, attributes := #[] }, { accessFlags := 18, nameIndex := 9, descriptorIndex := 10, attributes := #[] }, { accessFlags := 2, nameIndex := 19, descriptorIndex := 10, attributes := #[] }])
  fields := #[{ name := "name", type := (.object "java/lang/String"), accessFlags := 18, slot := 0, constantValue := 0 }, { name := "ordinal", type := .int, accessFlags := 18, slot := 1, constantValue := 0 }, { name := "hash", type := .int, accessFlags := 2, slot := 2, constantValue := 0 }]
  methods := #[]
  instanceTypes := #[(.object "java/lang/String"), .int, .int]
  staticTypes := #[]
  resolved := Array.replicate 204 none
  statics := none }

def pool6 : Array CpInfo := pool [(1, .class_ 2), (0, u "com/example/isolation_anomaly_finder/isolationanomalyfinder/ScenarioStep$Verb"), (2, u "READ"), (0, u "Lcom/example/isolation_anomaly_finder/isolationanomalyfinder/ScenarioStep$Verb;"), (2, u "WRITE"), (0, .fieldref 1 11), (0, .nameAndType 12 6), (0, u "SELECT"), (2, u "INSERT"), (0, .fieldref 1 17), (0, .nameAndType 18 6), (0, u "DELETE"), (2, u "COMMIT"), (2, u "ABORT"), (2, u "$VALUES"), (0, u "[Lcom/example/isolation_anomaly_finder/isolationanomalyfinder/ScenarioStep$Verb;"), (6, .class_ 37), (1, u "java/lang/Enum"), (8, u "word"), (0, u "Ljava/lang/String;"), (2, u "operands"), (5, u "()Z"), (57, u "byCondition"), (10, .class_ 126), (0, u "com/example/isolation_anomaly_finder/isolationanomalyfinder/ScenarioStep")] 18

def k6c0 : Code := { maxStack := 2, maxLocals := 1, code := prog_67_method_5_code, exceptionTable := #[], attributes := #[] }
def k6m0 : Method := { name := "byCondition", desc := "()Z", sig := { parameters := [], returnType := some .boolean }, accessFlags := 0, code := some k6c0 }
/-- com/example/isolation_anomaly_finder/isolationanomalyfinder/ScenarioStep$Verb -/
def k6 : Class := { plain "com/example/isolation_anomaly_finder/isolationanomalyfinder/ScenarioStep$Verb" (some 5) with
  accessFlags := 16432
  interfaces := #[]
  cf := some (fileOf pool6 1 #[.nestHost 125] #[{ accessFlags := 0, nameIndex := 114, descriptorIndex := 56, attributes := #[] }] 16432 35 #[] #[{ accessFlags := 16409, nameIndex := 5, descriptorIndex := 6, attributes := #[] }, { accessFlags := 16409, nameIndex := 9, descriptorIndex := 6, attributes := #[] }, { accessFlags := 16409, nameIndex := 12, descriptorIndex := 6, attributes := #[] }, { accessFlags := 16409, nameIndex := 15, descriptorIndex := 6, attributes := #[] }, { accessFlags := 16409, nameIndex := 18, descriptorIndex := 6, attributes := #[] }, { accessFlags := 16409, nameIndex := 21, descriptorIndex := 6, attributes := #[] }, { accessFlags := 16409, nameIndex := 24, descriptorIndex := 6, attributes := #[] }, { accessFlags := 18, nameIndex := 46, descriptorIndex := 47, attributes := #[] }, { accessFlags := 18, nameIndex := 50, descriptorIndex := 47, attributes := #[] }, { accessFlags := 4122, nameIndex := 27, descriptorIndex := 28, attributes := #[] }])
  fields := #[{ name := "READ", type := (.object "com/example/isolation_anomaly_finder/isolationanomalyfinder/ScenarioStep$Verb"), accessFlags := 16409, slot := 0, constantValue := 0 }, { name := "WRITE", type := (.object "com/example/isolation_anomaly_finder/isolationanomalyfinder/ScenarioStep$Verb"), accessFlags := 16409, slot := 1, constantValue := 0 }, { name := "SELECT", type := (.object "com/example/isolation_anomaly_finder/isolationanomalyfinder/ScenarioStep$Verb"), accessFlags := 16409, slot := 2, constantValue := 0 }, { name := "INSERT", type := (.object "com/example/isolation_anomaly_finder/isolationanomalyfinder/ScenarioStep$Verb"), accessFlags := 16409, slot := 3, constantValue := 0 }, { name := "DELETE", type := (.object "com/example/isolation_anomaly_finder/isolationanomalyfinder/ScenarioStep$Verb"), accessFlags := 16409, slot := 4, constantValue := 0 }, { name := "COMMIT", type := (.object "com/example/isolation_anomaly_finder/isolationanomalyfinder/ScenarioStep$Verb"), accessFlags := 16409, slot := 5, constantValue := 0 }, { name := "ABORT", type := (.object "com/example/isolation_anomaly_finder/isolationanomalyfinder/ScenarioStep$Verb"), accessFlags := 16409, slot := 6, constantValue := 0 }, { name := "word", type := (.object "java/lang/String"), accessFlags := 18, slot := 3, constantValue := 0 }, { name := "operands", type := (.object "java/lang/String"), accessFlags := 18, slot := 4, constantValue := 0 }, { name := "$VALUES", type := (.array (.object "com/example/isolation_anomaly_finder/isolationanomalyfinder/ScenarioStep$Verb")), accessFlags := 4122, slot := 7, constantValue := 0 }]
  methods := #[k6m0]
  instanceTypes := #[(.object "java/lang/String"), .int, .int, (.object "java/lang/String"), (.object "java/lang/String")]
  staticTypes := #[(.object "com/example/isolation_anomaly_finder/isolationanomalyfinder/ScenarioStep$Verb"), (.object "com/example/isolation_anomaly_finder/isolationanomalyfinder/ScenarioStep$Verb"), (.object "com/example/isolation_anomaly_finder/isolationanomalyfinder/ScenarioStep$Verb"), (.object "com/example/isolation_anomaly_finder/isolationanomalyfinder/ScenarioStep$Verb"), (.object "com/example/isolation_anomaly_finder/isolationanomalyfinder/ScenarioStep$Verb"), (.object "com/example/isolation_anomaly_finder/isolationanomalyfinder/ScenarioStep$Verb"), (.object "com/example/isolation_anomaly_finder/isolationanomalyfinder/ScenarioStep$Verb"), (.array (.object "com/example/isolation_anomaly_finder/isolationanomalyfinder/ScenarioStep$Verb"))]
  resolved := Array.replicate 145 none
  statics := some 0 }

def pool7 : Array CpInfo := pool [(1, u "java/lang/Cloneable"), (0, .class_ 1), (0, u "java/lang/Object"), (0, .class_ 3)] 3

/-- java/lang/Cloneable -/
def k7 : Class := { plain "java/lang/Cloneable" (some 0) with
  accessFlags := 1537
  interfaces := #[]
  cf := some (fileOf pool7 2 #[] #[] 1537 4 #[] #[])
  fields := #[]
  methods := #[]
  instanceTypes := #[]
  staticTypes := #[]
  resolved := Array.replicate 8 none
  statics := none }

/-- the primitive byte -/
def k8 : Class := { plain "byte" none with kind := .primitive 'B', accessFlags := 0x411 }
/-- [B -/
def k9 : Class := { plain "[B" (some 0) with kind := .array 8 .byte, interfaces := #[7, 4], accessFlags := 1041 }

/-- the primitive int -/
def k10 : Class := { plain "int" none with kind := .primitive 'I', accessFlags := 0x411 }
/-- [I -/
def k11 : Class := { plain "[I" (some 0) with kind := .array 10 .int, interfaces := #[7, 4], accessFlags := 1041 }

def heap : Heap := #[{ cls := 6, slots := #[.ref 1, .ref 7, .ref 2, .ref 4, .ref 3, .ref 5, .ref 6, .null], vm := .statics 6 },
  { cls := 6, slots := #[.null, .int 0, .int 0, .null, .null], vm := .none },
  { cls := 6, slots := #[.null, .int 2, .int 0, .null, .null], vm := .none },
  { cls := 6, slots := #[.null, .int 4, .int 0, .null, .null], vm := .none },
  { cls := 6, slots := #[.null, .int 3, .int 0, .null, .null], vm := .none },
  { cls := 6, slots := #[.null, .int 5, .int 0, .null, .null], vm := .none },
  { cls := 6, slots := #[.null, .int 6, .int 0, .null, .null], vm := .none },
  { cls := 6, slots := #[.null, .int 1, .int 0, .null, .null], vm := .none }]
def classes : Array Class := #[k0, k1, k2, k3, k4, k5, k6, k7, k8, k9, k10, k11]
def interned : List (Array UInt16 × Addr) := []
def slotsUsed : Nat := 43
def theMethod : MethodId := ⟨1, 1⟩
def args0 : Array Value := #[.int 3]
def aboutOver (below : List Frame) : State where
  vm := { classes := classes, interned := interned.toArray }
  heap := heap
  slotsUsed := slotsUsed
  threads := #[{ frames := .invoking theMethod args0 :: below }]
def below0 : List Frame := [.native { method := ⟨0, 0⟩, args := #[] }]
def about1 : State := aboutOver below0
def p0 : Program := .bare "" "" ""
def e0 : Env := launch0.env 0 0 0
theorem w_frames : about1.frames = Frame.invoking theMethod args0 :: below0 := rfl
set_option maxRecDepth 65536 in
theorem w_args : argsFit about1.vm theMethod args0 = true := by decide +kernel
set_option maxRecDepth 65536 in
theorem w_heap : heapFits about1 = true := by decide +kernel
set_option maxRecDepth 65536 in
theorem w_runnable : about1.curStatus? = some .runnable := by decide +kernel
set_option maxRecDepth 65536 in
theorem w_alone : about1.alone = true := by decide +kernel
set_option maxRecDepth 65536 in
theorem w_named : about1.methodNamed? x = some theMethod := by decide +kernel
set_option maxRecDepth 65536 in
theorem w_hears : about1.hears theMethod below0 = true := by decide +kernel
set_option maxRecDepth 65536 in
theorem w_ripe : about1.ripe theMethod args0 below0 = true := by decide +kernel
theorem w_running : about1.status = .running := rfl
set_option maxRecDepth 65536 in
theorem w_room : about1.hasRoom e0.platform room_1 = true :=
  launch0.hasRoom_least _ room_1 (by decide +kernel) (by decide +kernel) (by decide +kernel) (by decide +kernel) (by decide +kernel) (by decide +kernel)
theorem allAtoms_all (ts : List Jvm.Cond) (a : Array Jvm.Value) (st : Jvm.State) : (allAtoms ts).before a st = ts.all (fun c => c.before a st) := by
  induction ts with
  | nil => rfl
  | cons c t ih =>
    show (Jvm.Cond.and c (allAtoms t)).before a st = _
    rw [Jvm.Cond.before_and, ih, List.all_cons]
def words1 : List Jvm.Cond := Jvm.Cond.code x code maxLocals ret :: tables_1
/-- a 'code' word, met by the world's own term for the bytes: nothing is compared byte by byte -/
theorem code_word {y : MethodName} {bytes : ByteArray} {mx : Nat} {rt : Option FieldType} {a : Array Value} {s : State} {m : MethodId} {meth : Method} {c : Code} (h1 : s.methodNamed? y = some m) (h2 : s.vm.method? m = some meth) (h3 : meth.code = some c) (h4 : c.code = bytes)
    (h5 : (c.maxLocals == mx && c.exceptionTable.isEmpty && decide (c.maxStack ≤ mostOperands) && decide (meth.sig.returnType = rt) && !meth.locks && decide (parseMethodDescriptor y.desc = some meth.sig)) = true) : (Jvm.Cond.code y bytes mx rt).before a s = true := by
  simp only [Bool.and_eq_true, beq_iff_eq, Bool.not_eq_true', decide_eq_true_eq] at h5
  obtain ⟨⟨⟨⟨⟨g1, g2⟩, g3⟩, g4⟩, g5⟩, g6⟩ := h5
  simp [Cond.before, Cond.holds, Cond.value, h1, h2, h3, h4, g1, g2, g3, g4, g5, g6]
def isCode : Jvm.Cond → Bool
  | .code _ _ _ _ => true
  | _ => false
theorem all_split {L : List Jvm.Cond} {P : Jvm.Cond → Bool} (h1 : L.all (fun c => isCode c || P c) = true) (h2 : ∀ c ∈ L.filter isCode, P c = true) : L.all P = true := by
  refine List.all_eq_true.mpr fun c hc => ?_
  have h := List.all_eq_true.mp h1 c hc
  rcases Bool.eq_false_or_eq_true (isCode c) with hi | hi
  · exact h2 c (List.mem_filter.mpr ⟨hc, hi⟩)
  · simpa [hi] using h
set_option maxRecDepth 65536 in
theorem w_c0 : (Jvm.Cond.code x code maxLocals ret).before args0 about1 = true := code_word (m := ⟨1, 1⟩) (meth := k1m1) (c := k1c1) (by decide +kernel) rfl rfl rfl (by decide +kernel)
set_option maxRecDepth 65536 in
theorem w_c1 : (Jvm.Cond.code ({ cls := "com/example/isolation_anomaly_finder/isolationanomalyfinder/ScenarioStep$Verb", name := "byCondition", desc := "()Z" } : Jvm.MethodName) prog_67_method_5_code (1 : Nat) (Option.some Jvm.ClassFile.FieldType.boolean)).before args0 about1 = true := code_word (m := ⟨6, 0⟩) (meth := k6m0) (c := k6c0) (by decide +kernel) rfl rfl rfl (by decide +kernel)
def codes1 : List Jvm.Cond := [Jvm.Cond.code x code maxLocals ret, Jvm.Cond.code ({ cls := "com/example/isolation_anomaly_finder/isolationanomalyfinder/ScenarioStep$Verb", name := "byCondition", desc := "()Z" } : Jvm.MethodName) prog_67_method_5_code (1 : Nat) (Option.some Jvm.ClassFile.FieldType.boolean)]
set_option maxRecDepth 65536 in
theorem codes_eq : words1.filter isCode = codes1 := rfl
theorem w_codes : ∀ c ∈ words1.filter isCode, c.before args0 about1 = true := by
  rw [codes_eq]
  intro c hc
  simp only [codes1, List.mem_cons, List.not_mem_nil, or_false] at hc
  rcases hc with rfl | rfl
  · exact w_c0
  · exact w_c1
set_option maxRecDepth 65536 in
theorem w_t1 : words1.all (fun c => isCode c || c.before args0 about1) = true := by decide +kernel
theorem w_tables : (allAtoms (Jvm.Cond.code x code maxLocals ret :: tables_1)).before args0 about1 = true := by
  rw [allAtoms_all]
  show words1.all (fun c => c.before args0 about1) = true
  refine all_split ?_ w_codes
  rw [w_t1]
set_option maxRecDepth 65536 in
theorem w_case : (Jvm.Cond.and given_1 narrow_1).before args0 about1 = true := by decide +kernel
theorem w_applies : (headSpec (Jvm.Cond.code x code maxLocals ret :: tables_1) room_1).applies x e0.platform about1 = true :=
  (Spec.applies_iff w_frames).mpr ⟨w_running, w_runnable, w_alone, w_named, w_hears, w_ripe, w_room, w_tables⟩
theorem atStart : AtStart classFile x code maxLocals ret World_1 tables_1 room_1 Calls_1 rest_1 Pre_1 launch0 p0 e0 about1 theMethod args0 below0 :=
  ⟨lists_1, trivial, launch0.admits_env _ _ _, launch0.least_env, fairChoices_fair.cas, fairChoices_fair.clock, w_frames, w_args, w_heap, w_applies, trivial, trivial, w_case⟩
end start1
theorem witness_1 : WitnessClaimed_1 := ⟨start1.p0, start1.e0, start1.about1, start1.theMethod, start1.args0, start1.below0, start1.atStart⟩
end Jvm.Pilot.@@N@@
