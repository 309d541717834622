import JvmDerived
import JvmDerived.Pilot.@@N@@Statement
import JvmDerived.Pilot.@@N@@Code
set_option linter.unusedVariables false
set_option linter.unusedSimpArgs false
namespace Jvm.Pilot.@@N@@
open Jvm Jvm.ClassFile Sem Op Lib Jvm.Free Jvm.Stand Jvm.LawKit Jvm.RoadKit Bundle Jvm.Pilot.@@N@@.Jvm.D
section Own
variable {p : Program} {l : Launch} {e : Env} {R : Room} {s : State} {m : MethodId} {args : Array Value} {below : List Frame} {meth : Method} {c : Code} {T : State} {locs : List Loc} {cells slots : Nat} {Z : State} {a0 : Array Value} {h : Heap}
/-- the run from A ends by returning, Q holds of what it returned and of the heap, and no more than k cells and n slots are new -/
def OwnEnd (p : Program) (e : Env) (below : List Frame) (s : State) (Q : Option Value → Heap → List Loc → Prop) (k n : Nat) (A : State) : Prop :=
  ∃ t o, Steps p.tables e below A t ∧ t.status = .running ∧ Ended t below o ∧ ∃ v L, o = .returned v ∧ Q v t.heap L ∧ FrameEnd s o t L k n
theorem OwnEnd.go {Q : Option Value → Heap → List Loc → Prop} {k n : Nat} {A B : State} (st : ∀ t, Steps p.tables e below B t → Steps p.tables e below A t) (K : OwnEnd p e below s Q k n B) : OwnEnd p e below s Q k n A := by
  obtain ⟨t, o, h1, h2⟩ := K
  exact ⟨t, o, st t h1, h2⟩
theorem OwnEnd.stop {Q : Option Value → Heap → List Loc → Prop} {k n : Nat} {A : State} (X : Stand p l e R s m args below meth c T locs cells slots) (hlk : meth.locks = false) {v : Option Value} (hv : meth.sig.returnType = none → v = none)
    (st : ∀ fs, (∀ (f : JFrame) (acts : List Action), f.method = m → f.locked = none → f.entered = [] → (doReturn e (T.setTop f) acts v).1 = T.setFrames fs) → Steps p.tables e below A (T.setFrames fs))
    (hk : cells ≤ k) (hn : slots ≤ n) (hQ : Q v T.heap locs) : OwnEnd p e below s Q k n A := by
  obtain ⟨fs, hr, hrun, hended, hW, hsame⟩ := X.leave hv hlk
  exact ⟨_, _, st fs hr, hrun, hended, _, _, rfl, hQ, ⟨_, rfl⟩, hW, hsame.mono hk hn⟩
theorem OwnEnd.weak {Q Q' : Option Value → Heap → List Loc → Prop} {k n : Nat} {A : State} (K : OwnEnd p e below s Q k n A) (q : ∀ v h L, Q v h L → Q' v h L) : OwnEnd p e below s Q' k n A := by
  obtain ⟨t, o, h1, h2, h3, v, L, h4, h5, h6⟩ := K
  exact ⟨t, o, h1, h2, h3, v, L, h4, q _ _ _ h5, h6⟩
/-- the returns -/
theorem ownRetI {Q : Option Value → Heap → List Loc → Prop} {k n : Nat} (X : Stand p l e R s m args below meth c T locs cells slots) (hx : p.tables.exec = Jvm.exec) (hlk : meth.locks = false) {pc : Nat} {Ls : Array Slot} {z : Int32} {rest : List Value} (hret : meth.sig.returnType = some .int) (hd : decode c.code pc = .ok (.ireturn, 1))
    (hk : cells ≤ k) (hn : slots ≤ n) (hQ : Q (some (.int z)) T.heap locs) : OwnEnd p e below s Q k n (T.setTop (mkF m pc Ls (.int z :: rest))) :=
  OwnEnd.stop X hlk (fun q => by rw [hret] at q; cases q) (fun fs hr => retOut X hx hret rfl (Or.inl ⟨rfl, Or.inl rfl, z, rfl⟩) hd hr) hk hn hQ
theorem ownRetZ {Q : Option Value → Heap → List Loc → Prop} {k n : Nat} (X : Stand p l e R s m args below meth c T locs cells slots) (hx : p.tables.exec = Jvm.exec) (hlk : meth.locks = false) {pc : Nat} {Ls : Array Slot} {z : Int32} {rest : List Value} (hret : meth.sig.returnType = some .boolean) (hd : decode c.code pc = .ok (.ireturn, 1))
    (hk : cells ≤ k) (hn : slots ≤ n) (w : Int32) (hw : nar .boolean z = w) (hQ : Q (some (.int w)) T.heap locs) : OwnEnd p e below s Q k n (T.setTop (mkF m pc Ls (.int z :: rest))) :=
  OwnEnd.stop X hlk (fun q => by rw [hret] at q; cases q) (fun fs hr => retN X hx (t := .boolean) hret (by simp) hd (by rw [hw]; exact hr)) hk hn hQ
theorem ownRetJ {Q : Option Value → Heap → List Loc → Prop} {k n : Nat} (X : Stand p l e R s m args below meth c T locs cells slots) (hx : p.tables.exec = Jvm.exec) (hlk : meth.locks = false) {pc : Nat} {Ls : Array Slot} {z : Int64} {rest : List Value} (hret : meth.sig.returnType = some .long) (hd : decode c.code pc = .ok (.lreturn, 1))
    (hk : cells ≤ k) (hn : slots ≤ n) (hQ : Q (some (.long z)) T.heap locs) : OwnEnd p e below s Q k n (T.setTop (mkF m pc Ls (.long z :: rest))) :=
  OwnEnd.stop X hlk (fun q => by rw [hret] at q; cases q) (fun fs hr => retOut X hx hret rfl (Or.inr (Or.inl ⟨rfl, rfl, z, rfl⟩)) hd hr) hk hn hQ
theorem ownRetA {Q : Option Value → Heap → List Loc → Prop} {k n : Nat} (X : Stand p l e R s m args below meth c T locs cells slots) (hx : p.tables.exec = Jvm.exec) (hlk : meth.locks = false) {pc : Nat} {Ls : Array Slot} {w : Value} {rest : List Value} {t : FieldType} (hret : meth.sig.returnType = some t) (ht : t.isReference = true) (hw : w.isRef = true) (hn' : narrow t w = w) (hd : decode c.code pc = .ok (.areturn, 1))
    (hk : cells ≤ k) (hn : slots ≤ n) (hQ : Q (some w) T.heap locs) : OwnEnd p e below s Q k n (T.setTop (mkF m pc Ls (w :: rest))) :=
  OwnEnd.stop X hlk (fun q => by rw [hret] at q; cases q) (fun fs hr => retOut X hx hret hn' (Or.inr (Or.inr (Or.inr (Or.inr ⟨rfl, ht, hw⟩)))) hd hr) hk hn hQ
theorem ownRetV {Q : Option Value → Heap → List Loc → Prop} {k n : Nat} (X : Stand p l e R s m args below meth c T locs cells slots) (hx : p.tables.exec = Jvm.exec) (hlk : meth.locks = false) {pc : Nat} {Ls : Array Slot} (hret : meth.sig.returnType = none) (hd : decode c.code pc = .ok (.return_, 1))
    (hk : cells ≤ k) (hn : slots ≤ n) (hQ : Q none T.heap locs) : OwnEnd p e below s Q k n (T.setTop (mkF m pc Ls [])) :=
  OwnEnd.stop X hlk (fun _ => rfl) (fun fs hr => X.returnOut hx hret hd hr) hk hn hQ
/-- the calls, each by the callee's own theorem -/
theorem ownCallS (X : Stand p l e R s m args below meth c T locs cells slots) (hx : p.tables.exec = Jvm.exec) (hZ : Z.Warmed39 s.vm) {own : String} {index : Nat} {y : MethodName} {bytes : ByteArray} {maxL : Nat} {ret : Option FieldType} {rm : Room} {as' : Array Value} {Q : Option Value → Heap → List Loc → Prop} (hown : s.vm.findClass own = some m.cls)
    (w1 : (Cond.methodLink own index y).before a0 Z = true) (w2 : (Cond.static y).before a0 Z = true) (w3 : (Cond.initialized y.cls).before a0 Z = true) (w4 : (Cond.code y bytes maxL ret).before a0 Z = true) (hy : y.cls ≠ "java/lang/invoke/MethodHandle" ∧ y.cls ≠ "java/lang/invoke/VarHandle")
    (hM : MetFree l y (head1 [Cond.code y bytes maxL ret] rm) (fun a U => a = as' ∧ Z.Warmed39 U.vm ∧ U.heap = h) (fun _ _ _ _ _ => True) (fun _ U o U' => ∃ v L, o = .returned v ∧ Q v U'.heap L ∧ FrameEnd U o U' L rm.cells rm.slots)) (eT : T.heap = h)
    (W : Nat) (hf : rm.frames + 1 ≤ R.frames) (hl : W + (maxL + 11) + rm.locals ≤ R.locals) (hc : cells + rm.cells ≤ R.cells) (hs : slots + rm.slots ≤ R.slots) {g : JFrame} (hg : g.method = m) (hsize : g.locals.size = c.maxLocals) {argsL rest : List Value} (hlen : ∀ sig, parseMethodDescriptor y.desc = some sig → argsL.length = sig.parameters.length)
    (hstack : g.stack = argsL.reverse ++ rest) (has : argsL.toArray = as') (hW : 2 * g.monitorRoom + (rest.map fun v => v.category).sum ≤ W) (hdg : decode c.code g.pc = .ok (.invokestatic index, 3)) :
    ∃ (v : Option Value) (T' : State) (L : List Loc), Stand p l e R s m args below meth c T' (locs ++ L) (cells + rm.cells) (slots + rm.slots) ∧ Q v T'.heap L ∧ ∀ target, Steps p.tables e below (T'.setTop { g with pc := g.pc + 3, stack := v.toList ++ rest }) target → Steps p.tables e below (T.setTop g) target := by
  obtain ⟨v, vm₁, ⟨T', L', k', n'⟩, -, X', ⟨L, hQ, l', y', z'⟩, st⟩ := Jvm.LawKit.callS X hx hown (mvT hZ w1) (mvT hZ w2) (mvT hZ w3) (mvT hZ w4) hy (backOf (W := W) hM hZ w4 w3 hf hl) hg hsize hlen hstack hW hdg (fun _ _ => ⟨has, eT, hc, hs⟩)
  dsimp only [Pt.U, Pt.locs, Pt.cells, Pt.slots] at X' l' y' z' st hQ
  subst l' y' z'
  exact ⟨v, T', L, X', hQ, st⟩
theorem ownCallV (X : Stand p l e R s m args below meth c T locs cells slots) (hx : p.tables.exec = Jvm.exec) (hZ : Z.Warmed39 s.vm) {own C : String} {index : Nat} {y : MethodName} {bytes : ByteArray} {maxL : Nat} {ret : Option FieldType} {rm : Room} {as' : Array Value} {Q : Option Value → Heap → List Loc → Prop} (hown : s.vm.findClass own = some m.cls)
    (w1 : (Cond.methodLink own index y).before a0 Z = true) (w2 : (Cond.declares y).before a0 Z = true) (w5 : (Cond.selects C y y).before a0 Z = true) (w6 : (Cond.instanceMethod y).before a0 Z = true) (w3 : (Cond.initialized y.cls).before a0 Z = true) (w4 : (Cond.code y bytes maxL ret).before a0 Z = true) (hy : y.cls ≠ "java/lang/invoke/MethodHandle" ∧ y.cls ≠ "java/lang/invoke/VarHandle")
    (hM : MetFree l y (head1 [Cond.code y bytes maxL ret] rm) (fun a U => a = as' ∧ Z.Warmed39 U.vm ∧ U.heap = h) (fun _ _ _ _ _ => True) (fun _ U o U' => ∃ v L, o = .returned v ∧ Q v U'.heap L ∧ FrameEnd U o U' L rm.cells rm.slots)) (eT : T.heap = h) {b : Addr} (E : Exa Z h b C)
    (W : Nat) (hf : rm.frames + 1 ≤ R.frames) (hl : W + (maxL + 11) + rm.locals ≤ R.locals) (hc : cells + rm.cells ≤ R.cells) (hs : slots + rm.slots ≤ R.slots) {g : JFrame} (hg : g.method = m) (hsize : g.locals.size = c.maxLocals) {argsL rest : List Value} (hlen : ∀ sig, parseMethodDescriptor y.desc = some sig → argsL.length = sig.parameters.length)
    (hstack : g.stack = argsL.reverse ++ .ref b :: rest) (has : (.ref b :: argsL).toArray = as') (hW : 2 * g.monitorRoom + (rest.map fun v => v.category).sum ≤ W) (hdg : decode c.code g.pc = .ok (.invokevirtual index, 3)) :
    ∃ (v : Option Value) (T' : State) (L : List Loc), Stand p l e R s m args below meth c T' (locs ++ L) (cells + rm.cells) (slots + rm.slots) ∧ Q v T'.heap L ∧ ∀ target, Steps p.tables e below (T'.setTop { g with pc := g.pc + 3, stack := v.toList ++ rest }) target → Steps p.tables e below (T.setTop g) target := by
  obtain ⟨cq, kq, qa, qb, qc⟩ := isOf hZ eT E
  obtain ⟨v, vm₁, ⟨T', L', k', n'⟩, -, X', ⟨L, hQ, l', y', z'⟩, st⟩ := X.virtualBack hx hown (mvT hZ w1) (mvT hZ w2) (notFace_of_selects (args := #[]) (mvT hZ w5)) (mvT hZ w5) (mvT hZ w6) hy (backOf (W := W) hM hZ w4 w3 hf hl) qa qc hg hsize (Steps.refl _) hlen hstack hW hdg (fun _ _ => ⟨has, eT, hc, hs⟩)
  dsimp only [Pt.U, Pt.locs, Pt.cells, Pt.slots] at X' l' y' z' st hQ
  subst l' y' z'
  exact ⟨v, T', L, X', hQ, fun _ k => st.trans k⟩
theorem ownCallI (X : Stand p l e R s m args below meth c T locs cells slots) (hx : p.tables.exec = Jvm.exec) (hZ : Z.Warmed39 s.vm) {own : String} {index : Nat} {y : MethodName} {bytes : ByteArray} {maxL : Nat} {rm : Room} {as' : Array Value} {Q : Option Value → Heap → List Loc → Prop} (hown : s.vm.findClass own = some m.cls) (hy1 : y.name = "<init>")
    (w1 : (Cond.methodLink own index y).before a0 Z = true) (w6 : (Cond.instanceMethod y).before a0 Z = true) (w3 : (Cond.initialized y.cls).before a0 Z = true) (w4 : (Cond.code y bytes maxL none).before a0 Z = true) (hy : y.cls ≠ "java/lang/invoke/MethodHandle" ∧ y.cls ≠ "java/lang/invoke/VarHandle")
    (hM : MetFree l y (head1 [Cond.code y bytes maxL none] rm) (fun a U => a = as' ∧ Z.Warmed39 U.vm ∧ U.heap = h) (fun _ _ _ _ _ => True) (fun _ U o U' => ∃ v L, o = .returned v ∧ Q v U'.heap L ∧ FrameEnd U o U' L rm.cells rm.slots)) (eT : T.heap = h) {b : Addr}
    (W : Nat) (hf : rm.frames + 1 ≤ R.frames) (hl : W + (maxL + 11) + rm.locals ≤ R.locals) (hc : cells + rm.cells ≤ R.cells) (hs : slots + rm.slots ≤ R.slots) {g : JFrame} (hg : g.method = m) (hsize : g.locals.size = c.maxLocals) {argsL rest : List Value} (hlen : ∀ sig, parseMethodDescriptor y.desc = some sig → argsL.length = sig.parameters.length)
    (hstack : g.stack = argsL.reverse ++ .ref b :: rest) (has : (.ref b :: argsL).toArray = as') (hW : 2 * g.monitorRoom + (rest.map fun v => v.category).sum ≤ W) (hdg : decode c.code g.pc = .ok (.invokespecial index, 3)) :
    ∃ (v : Option Value) (T' : State) (L : List Loc), Stand p l e R s m args below meth c T' (locs ++ L) (cells + rm.cells) (slots + rm.slots) ∧ Q v T'.heap L ∧ ∀ target, Steps p.tables e below (T'.setTop { g with pc := g.pc + 3, stack := v.toList ++ rest }) target → Steps p.tables e below (T.setTop g) target := by
  obtain ⟨v, vm₁, ⟨T', L', k', n'⟩, -, X', ⟨L, hQ, l', y', z'⟩, st⟩ := X.specialBack hx hy1 hown (mvT hZ w1) (mvT hZ w6) (mvT hZ w4) hy (backOf (W := W) hM hZ w4 w3 hf hl) hg hsize (Steps.refl _) hlen hstack hW hdg (fun _ _ => ⟨has, eT, hc, hs⟩)
  dsimp only [Pt.U, Pt.locs, Pt.cells, Pt.slots] at X' l' y' z' st hQ
  subst l' y' z'
  exact ⟨v, T', L, X', hQ, fun _ k => st.trans k⟩
end Own
section Own2
variable {p : Program} {l : Launch} {e : Env} {R : Room} {s : State} {m : MethodId} {args : Array Value} {below : List Frame} {meth : Method} {c : Code} {T : State} {locs : List Loc} {cells slots : Nat} {Z : State} {a0 : Array Value} {h : Heap}
/-- branches behind lcmp -/
theorem ownLt {x y : Int64} (q : x < y) : ifCond.holds .lt (lcmpW x y) = true ∧ ifCond.holds .ge (lcmpW x y) = false ∧ ifCond.holds .gt (lcmpW y x) = true ∧ ifCond.holds .le (lcmpW y x) = false := by
  simp only [if0]
  have h1 : lcmpW x y < 0 := by rw [lcW]; exact (lc_lt x y).2 q
  have h2 : 0 < lcmpW y x := by rw [lcW]; exact (lc_gt y x).2 q
  exact ⟨(tlt h1).1, (tlt h1).2.1, (tlt h2).2.2.1, (tlt h2).2.2.2⟩
theorem ownNlt {x y : Int64} (q : ¬ x < y) : ifCond.holds .lt (lcmpW x y) = false ∧ ifCond.holds .ge (lcmpW x y) = true ∧ ifCond.holds .gt (lcmpW y x) = false ∧ ifCond.holds .le (lcmpW y x) = true := by
  simp only [if0]
  have h1 : ¬ lcmpW x y < 0 := by rw [lcW]; exact fun z => q ((lc_lt x y).1 z)
  have h2 : ¬ 0 < lcmpW y x := by rw [lcW]; exact fun z => q ((lc_gt y x).1 z)
  exact ⟨(flt h1).1, (flt h1).2.1, (flt h2).2.2.1, (flt h2).2.2.2⟩
theorem ownEq {x y : Int64} (q : x = y) : ifCond.holds .eq (lcmpW x y) = true ∧ ifCond.holds .ne (lcmpW x y) = false := by
  simp only [if0]
  have h1 : lcmpW x y = 0 := by rw [lcW]; exact (lc_eq x y).2 q
  exact teq h1
theorem ownNeq {x y : Int64} (q : ¬ x = y) : ifCond.holds .eq (lcmpW x y) = false ∧ ifCond.holds .ne (lcmpW x y) = true := by
  simp only [if0]
  have h1 : ¬ lcmpW x y = 0 := by rw [lcW]; exact fun z => q ((lc_eq x y).1 z)
  exact feq h1
theorem ownLrem {tb : Tables} [Ours tb] {e : Env} {below : List Frame} {T target : State} {m : MethodId} {c : Code} {g : JFrame} (h : At T m c below) (hx : tb.exec = Jvm.exec) (hg : g.method = m) {x y : Int64} {rest : List Value} (hd : decode c.code g.pc = .ok (.lrem, 1)) (hs : g.stack = .long y :: .long x :: rest) (hy : y ≠ 0)
    (hr : Steps tb e below (T.setTop { g with pc := g.pc + 1, stack := .long (x % y) :: rest }) target) : Steps tb e below (T.setTop g) target :=
  XS.lrem h hx hg hd hs hy (by rw [lrem_mod]; exact hr)
theorem ownLen (X : Stand p l e R s m args below meth c T locs cells slots) (hx : p.tables.exec = Jvm.exec) (hZ : Z.Warmed39 s.vm) (eT : T.heap = h) {a : Addr} {cl : Cell} {ty : FieldType} {z : Int32} (A : Arr Z h a cl ty) (S : cl.slots.size = z.toNatClampNeg) (q : ¬ z < 0) {g : JFrame} (hg : g.method = m) {rest : List Value} (hs : g.stack = .ref a :: rest) (hd : decode c.code g.pc = .ok (.arraylength, 1)) :
    ∀ target, Steps p.tables e below (T.setTop { g with pc := g.pc + 1, stack := .int z :: rest }) target → Steps p.tables e below (T.setTop g) target := fun target k =>
  X.arraylength hx (by rw [eT]; exact A.1) (State.isArrayOf_alike hZ.alike A.2.1) hg hs hd target (by rw [len_of S q]; exact k)
theorem ownOrd {C f d : String} {a : Addr} {v : Int32} {args : Array Value} (ev : (Term.static C f d).eval args Z none [] Z = some (.ref a)) (hq : (Jvm.Cond.eq (Term.field (Term.static C f d) "java/lang/Enum" "ordinal" "I") (Term.int v)).value args Z none Z [] = some true) : Fld Z Z.heap a "java/lang/Enum" "ordinal" "I" (.int v) := by
  obtain ⟨x, y, h1, h2, h3, h4⟩ := cmp_v (Or.inl hq)
  rw [fld_at ev] at h1
  cases h2
  obtain ⟨z, rfl⟩ := h4
  have h5 : (Term.field (Term.static C f d) "java/lang/Enum" "ordinal" "I").eval args Z none [] Z = some (.int z) := by rw [fld_at ev]; exact h1
  have : z = v := gotT (Cond.eq_ints h5 (Term.int_eval v)) hq
  subst this
  exact Fld.start h1
end Own2
section Own3
variable {p : Program} {l : Launch} {e : Env} {R : Room} {s : State} {m : MethodId} {args : Array Value} {below : List Frame} {meth : Method} {c : Code} {T : State} {locs : List Loc} {cells slots : Nat} {Z : State} {a0 : Array Value} {h : Heap}
/-- two ways that come to one place, the heap as it was -/
def ownDia {α : Type} (X : Stand p l e R s m args below meth c T locs cells slots) (h : Heap) (P : α → Prop) (f : α → JFrame) (g : JFrame) : Prop :=
  ∃ (T' : State) (v : α), Stand p l e R s m args below meth c T' locs cells slots ∧ T'.heap = h ∧ P v ∧ ∀ t, Steps p.tables e below (T'.setTop (f v)) t → Steps p.tables e below (T.setTop g) t
end Own3

def own_eq2 (a b c : Addr) : Int32 := if a = b ∨ a = c then 1 else 0
theorem own_eq2_l (a c : Addr) : own_eq2 a a c = 1 := by unfold own_eq2; rw [if_pos (Or.inl rfl)]
theorem own_eq2_r (a b : Addr) : own_eq2 a b a = 1 := by unfold own_eq2; rw [if_pos (Or.inr rfl)]
theorem own_eq2_n {a b c : Addr} (h1 : a ≠ b) (h2 : a ≠ c) : own_eq2 a b c = 0 := by unfold own_eq2; rw [if_neg]; rintro (q | q); exact h1 q; exact h2 q
theorem own_eq2_01 (a b c : Addr) : own_eq2 a b c = 0 ∨ own_eq2 a b c = 1 := by unfold own_eq2; split; exact Or.inr rfl; exact Or.inl rfl
theorem own_mod (x n : Int32) (hn : 0 < n.toInt) : 0 ≤ ((x &&& (2147483647 : Int32)) % n).toInt ∧ ((x &&& (2147483647 : Int32)) % n).toInt < n.toInt := by
  have h1 := c_mask x 2147483647 31 (by decide) (by decide)
  have h2 : 0 ≤ (x &&& (2147483647 : Int32)).toInt := by rw [h1]; exact Int.emod_nonneg _ (by decide)
  exact ⟨((c_iremV _ n).1 h2 hn).1, ((c_iremV _ n).1 h2 hn).2.1⟩
theorem own_ne {k : Int32} {n : Int} (h : ¬ k = Int32.ofInt n) (h1 : -2147483648 ≤ n) (h2 : n ≤ 2147483647) : ¬ k.toInt = n := fun q => h (by apply Int32.toInt_inj.mp; rw [q, Int32.toInt_ofInt_of_le h1 (by omega)])

theorem own_last (p1 : Int32) (h0 : ¬ ((p1 &&& (2147483647 : Int32)) % (7 : Int32)) = (0 : Int32)) (h1 : ¬ ((p1 &&& (2147483647 : Int32)) % (7 : Int32)) = (1 : Int32)) (h2 : ¬ ((p1 &&& (2147483647 : Int32)) % (7 : Int32)) = (2 : Int32)) (h3 : ¬ ((p1 &&& (2147483647 : Int32)) % (7 : Int32)) = (3 : Int32)) (h4 : ¬ ((p1 &&& (2147483647 : Int32)) % (7 : Int32)) = (4 : Int32)) (h5 : ¬ ((p1 &&& (2147483647 : Int32)) % (7 : Int32)) = (5 : Int32)) : ((p1 &&& (2147483647 : Int32)) % (7 : Int32)) = (6 : Int32) := by
  obtain ⟨r1, r2⟩ := own_mod p1 7 (by decide)
  generalize ((p1 &&& (2147483647 : Int32)) % (7 : Int32)) = k at *
  have e : (7 : Int32).toInt = 7 := by decide
  have g0 := own_ne (n := 0) h0 (by decide) (by decide)
  have g1 := own_ne (n := 1) h1 (by decide) (by decide)
  have g2 := own_ne (n := 2) h2 (by decide) (by decide)
  have g3 := own_ne (n := 3) h3 (by decide) (by decide)
  have g4 := own_ne (n := 4) h4 (by decide) (by decide)
  have g5 := own_ne (n := 5) h5 (by decide) (by decide)
  apply Int32.toInt_inj.mp
  have e' : (6 : Int32).toInt = 6 := by decide
  omega
def own_verb (k : Int32) (a_READ a_WRITE a_SELECT a_INSERT a_DELETE a_COMMIT a_ABORT : Addr) : Addr := if k = 0 then a_READ else if k = 1 then a_WRITE else if k = 2 then a_SELECT else if k = 3 then a_INSERT else if k = 4 then a_DELETE else if k = 5 then a_COMMIT else a_ABORT
theorem own_verb_P {P : Addr → Prop} (k : Int32) {a_READ a_WRITE a_SELECT a_INSERT a_DELETE a_COMMIT a_ABORT : Addr} (h0 : P a_READ) (h1 : P a_WRITE) (h2 : P a_SELECT) (h3 : P a_INSERT) (h4 : P a_DELETE) (h5 : P a_COMMIT) (h6 : P a_ABORT) : P (own_verb k a_READ a_WRITE a_SELECT a_INSERT a_DELETE a_COMMIT a_ABORT) := by
  unfold own_verb
  by_cases q0 : k = 0
  · rw [if_pos q0]; exact h0
  rw [if_neg q0]
  by_cases q1 : k = 1
  · rw [if_pos q1]; exact h1
  rw [if_neg q1]
  by_cases q2 : k = 2
  · rw [if_pos q2]; exact h2
  rw [if_neg q2]
  by_cases q3 : k = 3
  · rw [if_pos q3]; exact h3
  rw [if_neg q3]
  by_cases q4 : k = 4
  · rw [if_pos q4]; exact h4
  rw [if_neg q4]
  by_cases q5 : k = 5
  · rw [if_pos q5]; exact h5
  rw [if_neg q5]
  exact h6
theorem own_m3_5 {k : Int32} (a_READ a_WRITE a_SELECT a_INSERT a_DELETE a_COMMIT a_ABORT : Addr) (h : k = 5) : own_eq2 (own_verb k a_READ a_WRITE a_SELECT a_INSERT a_DELETE a_COMMIT a_ABORT) a_COMMIT a_ABORT = 1 := by
  subst h
  have e : own_verb 5 a_READ a_WRITE a_SELECT a_INSERT a_DELETE a_COMMIT a_ABORT = a_COMMIT := by simp [own_verb]
  rw [e]; exact own_eq2_l _ _
theorem own_m3_6 {k : Int32} (a_READ a_WRITE a_SELECT a_INSERT a_DELETE a_COMMIT a_ABORT : Addr) (h : k = 6) : own_eq2 (own_verb k a_READ a_WRITE a_SELECT a_INSERT a_DELETE a_COMMIT a_ABORT) a_COMMIT a_ABORT = 1 := by
  subst h
  have e : own_verb 6 a_READ a_WRITE a_SELECT a_INSERT a_DELETE a_COMMIT a_ABORT = a_ABORT := by simp [own_verb]
  rw [e]; exact own_eq2_r _ _
theorem own_m3_0 (p1 : Int32) {a_READ a_WRITE a_SELECT a_INSERT a_DELETE a_COMMIT a_ABORT : Addr} (h5 : ¬ ((p1 &&& (2147483647 : Int32)) % (7 : Int32)) = (5 : Int32)) (h6 : ¬ ((p1 &&& (2147483647 : Int32)) % (7 : Int32)) = (6 : Int32)) (n0 : a_READ ≠ a_COMMIT) (m0 : a_READ ≠ a_ABORT) (n1 : a_WRITE ≠ a_COMMIT) (m1 : a_WRITE ≠ a_ABORT) (n2 : a_SELECT ≠ a_COMMIT) (m2 : a_SELECT ≠ a_ABORT) (n3 : a_INSERT ≠ a_COMMIT) (m3 : a_INSERT ≠ a_ABORT) (n4 : a_DELETE ≠ a_COMMIT) (m4 : a_DELETE ≠ a_ABORT) : own_eq2 (own_verb ((p1 &&& (2147483647 : Int32)) % (7 : Int32)) a_READ a_WRITE a_SELECT a_INSERT a_DELETE a_COMMIT a_ABORT) a_COMMIT a_ABORT = 0 := by
  by_cases z5 : ((p1 &&& (2147483647 : Int32)) % (7 : Int32)) = (0 : Int32) ∨ ((p1 &&& (2147483647 : Int32)) % (7 : Int32)) = (1 : Int32) ∨ ((p1 &&& (2147483647 : Int32)) % (7 : Int32)) = (2 : Int32) ∨ ((p1 &&& (2147483647 : Int32)) % (7 : Int32)) = (3 : Int32) ∨ ((p1 &&& (2147483647 : Int32)) % (7 : Int32)) = (4 : Int32)
  · generalize ((p1 &&& (2147483647 : Int32)) % (7 : Int32)) = k at *
    rcases z5 with rfl | rfl | rfl | rfl | rfl
    · have e : own_verb 0 a_READ a_WRITE a_SELECT a_INSERT a_DELETE a_COMMIT a_ABORT = a_READ := by simp [own_verb]
      rw [e]; exact own_eq2_n n0 m0
    · have e : own_verb 1 a_READ a_WRITE a_SELECT a_INSERT a_DELETE a_COMMIT a_ABORT = a_WRITE := by simp [own_verb]
      rw [e]; exact own_eq2_n n1 m1
    · have e : own_verb 2 a_READ a_WRITE a_SELECT a_INSERT a_DELETE a_COMMIT a_ABORT = a_SELECT := by simp [own_verb]
      rw [e]; exact own_eq2_n n2 m2
    · have e : own_verb 3 a_READ a_WRITE a_SELECT a_INSERT a_DELETE a_COMMIT a_ABORT = a_INSERT := by simp [own_verb]
      rw [e]; exact own_eq2_n n3 m3
    · have e : own_verb 4 a_READ a_WRITE a_SELECT a_INSERT a_DELETE a_COMMIT a_ABORT = a_DELETE := by simp [own_verb]
      rw [e]; exact own_eq2_n n4 m4
  · exact absurd (own_last p1 (fun q => z5 (Or.inl q)) (fun q => z5 (Or.inr (Or.inl q))) (fun q => z5 (Or.inr (Or.inr (Or.inl q)))) (fun q => z5 (Or.inr (Or.inr (Or.inr (Or.inl q))))) (fun q => z5 (Or.inr (Or.inr (Or.inr (Or.inr q))))) h5) h6

theorem d1_0 : decode method_2_code 0 = .ok (.iload_n 0, 1) := by decide +kernel
theorem d1_1 : decode method_2_code 1 = .ok (.ifCond .ne 7, 3) := by decide +kernel
theorem d1_4 : decode method_2_code 4 = .ok (.getstatic 7, 3) := by decide +kernel
theorem d1_7 : decode method_2_code 7 = .ok (.areturn, 1) := by decide +kernel
theorem d1_8 : decode method_2_code 8 = .ok (.iload_n 0, 1) := by decide +kernel
theorem d1_9 : decode method_2_code 9 = .ok (.iconst 1, 1) := by decide +kernel
theorem d1_10 : decode method_2_code 10 = .ok (.if_icmp .ne 7, 3) := by decide +kernel
theorem d1_13 : decode method_2_code 13 = .ok (.getstatic 13, 3) := by decide +kernel
theorem d1_16 : decode method_2_code 16 = .ok (.areturn, 1) := by decide +kernel
theorem d1_17 : decode method_2_code 17 = .ok (.iload_n 0, 1) := by decide +kernel
theorem d1_18 : decode method_2_code 18 = .ok (.iconst 2, 1) := by decide +kernel
theorem d1_19 : decode method_2_code 19 = .ok (.if_icmp .ne 7, 3) := by decide +kernel
theorem d1_22 : decode method_2_code 22 = .ok (.getstatic 16, 3) := by decide +kernel
theorem d1_25 : decode method_2_code 25 = .ok (.areturn, 1) := by decide +kernel
theorem d1_26 : decode method_2_code 26 = .ok (.iload_n 0, 1) := by decide +kernel
theorem d1_27 : decode method_2_code 27 = .ok (.iconst 3, 1) := by decide +kernel
theorem d1_28 : decode method_2_code 28 = .ok (.if_icmp .ne 7, 3) := by decide +kernel
theorem d1_31 : decode method_2_code 31 = .ok (.getstatic 19, 3) := by decide +kernel
theorem d1_34 : decode method_2_code 34 = .ok (.areturn, 1) := by decide +kernel
theorem d1_35 : decode method_2_code 35 = .ok (.iload_n 0, 1) := by decide +kernel
theorem d1_36 : decode method_2_code 36 = .ok (.iconst 4, 1) := by decide +kernel
theorem d1_37 : decode method_2_code 37 = .ok (.if_icmp .ne 7, 3) := by decide +kernel
theorem d1_40 : decode method_2_code 40 = .ok (.getstatic 22, 3) := by decide +kernel
theorem d1_43 : decode method_2_code 43 = .ok (.areturn, 1) := by decide +kernel
theorem d1_44 : decode method_2_code 44 = .ok (.iload_n 0, 1) := by decide +kernel
theorem d1_45 : decode method_2_code 45 = .ok (.iconst 5, 1) := by decide +kernel
theorem d1_46 : decode method_2_code 46 = .ok (.if_icmp .ne 7, 3) := by decide +kernel
theorem d1_49 : decode method_2_code 49 = .ok (.getstatic 25, 3) := by decide +kernel
theorem d1_52 : decode method_2_code 52 = .ok (.areturn, 1) := by decide +kernel
theorem d1_53 : decode method_2_code 53 = .ok (.getstatic 28, 3) := by decide +kernel
theorem d1_56 : decode method_2_code 56 = .ok (.areturn, 1) := by decide +kernel
theorem pn_1 : plainName "com/example/isolation_anomaly_finder/isolationanomalyfinder/VerbEndsTransactionPinLaw" = true := by first | (simp [plainName, overriddenIn]; done) | decide +kernel
theorem ef_1 (m : MethodId) (x0 : Int32) : entryFrame m #[(.int x0)] 1 = mkF m 0 #[.val (.int x0)] [] := by first | (simp [entryFrame, mkF, argsToLocals, Value.category]; done) | rfl
def Q1 (Z : State) (p1 : Int32) (a_READ : Addr) (a_WRITE : Addr) (a_SELECT : Addr) (a_INSERT : Addr) (a_DELETE : Addr) (a_COMMIT : Addr) (a_ABORT : Addr) (h0 : Heap) (n0 : Nat) (v : Option Value) (h : Heap) (L : List Loc) : Prop := v = some (.ref (own_verb p1 a_READ a_WRITE a_SELECT a_INSERT a_DELETE a_COMMIT a_ABORT)) ∧ Fr n0 L ∧ h = h0
set_option maxRecDepth 65536 in
set_option maxHeartbeats 40000000 in
theorem rm1 (l : Launch) (Z : State) (a0 : Array Value) (hw : ∀ d ∈ tables_1, d.before a0 Z = true) (ws : List Jvm.Cond) (p1 : Int32) (a_READ : Addr) (a_WRITE : Addr) (a_SELECT : Addr) (a_INSERT : Addr) (a_DELETE : Addr) (a_COMMIT : Addr) (a_ABORT : Addr) (h0 : Heap) (n0 : Nat) (Z0 : n0 ≤ h0.size) (O0 : Old Z n0 h0) (S_READ : Sta Z Z.heap "com/example/isolation_anomaly_finder/isolationanomalyfinder/ScenarioStep$Verb" "READ" "Lcom/example/isolation_anomaly_finder/isolationanomalyfinder/ScenarioStep$Verb;" (.ref a_READ)) (S_WRITE : Sta Z Z.heap "com/example/isolation_anomaly_finder/isolationanomalyfinder/ScenarioStep$Verb" "WRITE" "Lcom/example/isolation_anomaly_finder/isolationanomalyfinder/ScenarioStep$Verb;" (.ref a_WRITE)) (S_SELECT : Sta Z Z.heap "com/example/isolation_anomaly_finder/isolationanomalyfinder/ScenarioStep$Verb" "SELECT" "Lcom/example/isolation_anomaly_finder/isolationanomalyfinder/ScenarioStep$Verb;" (.ref a_SELECT)) (S_INSERT : Sta Z Z.heap "com/example/isolation_anomaly_finder/isolationanomalyfinder/ScenarioStep$Verb" "INSERT" "Lcom/example/isolation_anomaly_finder/isolationanomalyfinder/ScenarioStep$Verb;" (.ref a_INSERT)) (S_DELETE : Sta Z Z.heap "com/example/isolation_anomaly_finder/isolationanomalyfinder/ScenarioStep$Verb" "DELETE" "Lcom/example/isolation_anomaly_finder/isolationanomalyfinder/ScenarioStep$Verb;" (.ref a_DELETE)) (S_COMMIT : Sta Z Z.heap "com/example/isolation_anomaly_finder/isolationanomalyfinder/ScenarioStep$Verb" "COMMIT" "Lcom/example/isolation_anomaly_finder/isolationanomalyfinder/ScenarioStep$Verb;" (.ref a_COMMIT)) (S_ABORT : Sta Z Z.heap "com/example/isolation_anomaly_finder/isolationanomalyfinder/ScenarioStep$Verb" "ABORT" "Lcom/example/isolation_anomaly_finder/isolationanomalyfinder/ScenarioStep$Verb;" (.ref a_ABORT)) :
    MetFree l (⟨"com/example/isolation_anomaly_finder/isolationanomalyfinder/VerbEndsTransactionPinLaw", "verbAt", "(I)Lcom/example/isolation_anomaly_finder/isolationanomalyfinder/ScenarioStep$Verb;"⟩ : MethodName) (head1 (Jvm.Cond.code (⟨"com/example/isolation_anomaly_finder/isolationanomalyfinder/VerbEndsTransactionPinLaw", "verbAt", "(I)Lcom/example/isolation_anomaly_finder/isolationanomalyfinder/ScenarioStep$Verb;"⟩ : MethodName) method_2_code 1 (some (.object "com/example/isolation_anomaly_finder/isolationanomalyfinder/ScenarioStep$Verb")) :: ws) ({ frames := 0, cells := 0, slots := 0, locals := 0 } : Room)) (fun a U => a = #[(.int p1)] ∧ Z.Warmed39 U.vm ∧ U.heap = h0) (fun _ _ _ _ _ => True) (fun _ U o U' => ∃ v L, o = .returned v ∧ Q1 Z p1 a_READ a_WRITE a_SELECT a_INSERT a_DELETE a_COMMIT a_ABORT h0 n0 v U'.heap L ∧ FrameEnd U o U' L ({ frames := 0, cells := 0, slots := 0, locals := 0 } : Room).cells ({ frames := 0, cells := 0, slots := 0, locals := 0 } : Room).slots) := by
  have ww5 := hw _ (List.mem_of_getElem? (i := 5) rfl)
  have ww17 := hw _ (List.mem_of_getElem? (i := 17) rfl)
  have ww19 := hw _ (List.mem_of_getElem? (i := 19) rfl)
  have ww20 := hw _ (List.mem_of_getElem? (i := 20) rfl)
  have ww21 := hw _ (List.mem_of_getElem? (i := 21) rfl)
  have ww23 := hw _ (List.mem_of_getElem? (i := 23) rfl)
  have ww25 := hw _ (List.mem_of_getElem? (i := 25) rfl)
  refine MetFree.of_bodySF (plainFor_of_name pn_1) hisR ?_
  intro p e s m args below meth c s₁ Bd hml0 hP hK
  obtain ⟨rfl, hZ, hh⟩ := hP
  have hx := Bd.exec
  have hby := Bd.bytes
  have hlk : meth.locks = false := Bd.notSynchronized
  have hret := Bd.returns
  have hml : c.maxLocals = 1 := hml0
  have hown : s.vm.findClass "com/example/isolation_anomaly_finder/isolationanomalyfinder/VerbEndsTransactionPinLaw" = some m.cls := findClass_of_methodNamed Bd.named
  have hnm := (name_of_methodNamed Bd.named Bd.method).1
  have X0 : Stand p l e ({ frames := 0, cells := 0, slots := 0, locals := 0 } : Room) s m #[(.int p1)] below meth c s₁ [] 0 0 := Stand.of_body Bd
  have e0 : s₁.heap = h0 := by rw [← hh, Bd.state]; rfl
  have N0 := Fr.nil n0
  have K0 := Keep.refl h0 []
  show OwnEnd p e below s (Q1 Z p1 a_READ a_WRITE a_SELECT a_INSERT a_DELETE a_COMMIT a_ABORT h0 n0) ({ frames := 0, cells := 0, slots := 0, locals := 0 } : Room).cells ({ frames := 0, cells := 0, slots := 0, locals := 0 } : Room).slots _
  refine OwnEnd.go (fun _ k => castTop (ef_1 m p1) k) ?_
  show OwnEnd p e below s _ _ _ (s₁.setTop (mkF m 0 #[.val (.int p1)] []))
  refine OwnEnd.go (fun _ k => XS.iloadN X0.here hx rfl (hb hby d1_0) rfl  k) ?_
  show OwnEnd p e below s _ _ _ (s₁.setTop (mkF m 1 #[.val (.int p1)] [(.int p1)]))
  by_cases hc1 : p1 = (0 : Int32)
  · refine OwnEnd.go (fun _ k => XS.ifNo X0.here hx rfl (hb hby d1_1) rfl ((if0 _ _).trans (teq hc1).2) k) ?_
    show OwnEnd p e below s _ _ _ (s₁.setTop (mkF m 4 #[.val (.int p1)] []))
    obtain ⟨T2, X2, e2, st2⟩ := getS2 X0 hx hZ hown (host := "") (Or.inl ww5) Via.refl e0 (S_READ.ext O0.2) (g := (mkF m 4 #[.val (.int p1)] [])) rfl (hb hby d1_4)
    refine OwnEnd.go (fun _ k => st2 _ k) ?_
    show OwnEnd p e below s _ _ _ (T2.setTop (mkF m 7 #[.val (.int p1)] [(.ref a_READ)]))
    refine ownRetA X2 hx hlk hret rfl rfl rfl (hb hby d1_7) (by decide) (by decide) ?_
    show Q1 Z p1 a_READ a_WRITE a_SELECT a_INSERT a_DELETE a_COMMIT a_ABORT h0 n0 _ T2.heap _
    rw [e2]
    refine ⟨?_, N0, rfl⟩
    unfold own_verb
    rw [if_pos hc1]
  · refine OwnEnd.go (fun _ k => XS.ifYes X0.here hx rfl (pc0 := 1) (pc' := 8) rfl (hb hby d1_1) rfl ((if0 _ _).trans (feq hc1).2) (by decide) (by decide) k) ?_
    show OwnEnd p e below s _ _ _ (s₁.setTop (mkF m 8 #[.val (.int p1)] []))
    refine OwnEnd.go (fun _ k => XS.iloadN X0.here hx rfl (hb hby d1_8) rfl  k) ?_
    show OwnEnd p e below s _ _ _ (s₁.setTop (mkF m 9 #[.val (.int p1)] [(.int p1)]))
    refine OwnEnd.go (fun _ k => XS.iconst X0.here hx rfl (hb hby d1_9) k) ?_
    show OwnEnd p e below s _ _ _ (s₁.setTop (mkF m 10 #[.val (.int p1)] [(.int (1 : Int32)), (.int p1)]))
    by_cases hc3 : p1 = (1 : Int32)
    · refine OwnEnd.go (fun _ k => XS.icmpNo X0.here hx rfl (hb hby d1_10) rfl (teq hc3).2 k) ?_
      show OwnEnd p e below s _ _ _ (s₁.setTop (mkF m 13 #[.val (.int p1)] []))
      obtain ⟨T4, X4, e4, st4⟩ := getS2 X0 hx hZ hown (host := "") (Or.inl ww25) Via.refl e0 (S_WRITE.ext O0.2) (g := (mkF m 13 #[.val (.int p1)] [])) rfl (hb hby d1_13)
      refine OwnEnd.go (fun _ k => st4 _ k) ?_
      show OwnEnd p e below s _ _ _ (T4.setTop (mkF m 16 #[.val (.int p1)] [(.ref a_WRITE)]))
      refine ownRetA X4 hx hlk hret rfl rfl rfl (hb hby d1_16) (by decide) (by decide) ?_
      show Q1 Z p1 a_READ a_WRITE a_SELECT a_INSERT a_DELETE a_COMMIT a_ABORT h0 n0 _ T4.heap _
      rw [e4]
      refine ⟨?_, N0, rfl⟩
      unfold own_verb
      rw [if_neg hc1, if_pos hc3]
    · refine OwnEnd.go (fun _ k => XS.icmpYes X0.here hx rfl (pc0 := 10) (pc' := 17) rfl (hb hby d1_10) rfl (feq hc3).2 (by decide) (by decide) k) ?_
      show OwnEnd p e below s _ _ _ (s₁.setTop (mkF m 17 #[.val (.int p1)] []))
      refine OwnEnd.go (fun _ k => XS.iloadN X0.here hx rfl (hb hby d1_17) rfl  k) ?_
      show OwnEnd p e below s _ _ _ (s₁.setTop (mkF m 18 #[.val (.int p1)] [(.int p1)]))
      refine OwnEnd.go (fun _ k => XS.iconst X0.here hx rfl (hb hby d1_18) k) ?_
      show OwnEnd p e below s _ _ _ (s₁.setTop (mkF m 19 #[.val (.int p1)] [(.int (2 : Int32)), (.int p1)]))
      by_cases hc5 : p1 = (2 : Int32)
      · refine OwnEnd.go (fun _ k => XS.icmpNo X0.here hx rfl (hb hby d1_19) rfl (teq hc5).2 k) ?_
        show OwnEnd p e below s _ _ _ (s₁.setTop (mkF m 22 #[.val (.int p1)] []))
        obtain ⟨T6, X6, e6, st6⟩ := getS2 X0 hx hZ hown (host := "") (Or.inl ww23) Via.refl e0 (S_SELECT.ext O0.2) (g := (mkF m 22 #[.val (.int p1)] [])) rfl (hb hby d1_22)
        refine OwnEnd.go (fun _ k => st6 _ k) ?_
        show OwnEnd p e below s _ _ _ (T6.setTop (mkF m 25 #[.val (.int p1)] [(.ref a_SELECT)]))
        refine ownRetA X6 hx hlk hret rfl rfl rfl (hb hby d1_25) (by decide) (by decide) ?_
        show Q1 Z p1 a_READ a_WRITE a_SELECT a_INSERT a_DELETE a_COMMIT a_ABORT h0 n0 _ T6.heap _
        rw [e6]
        refine ⟨?_, N0, rfl⟩
        unfold own_verb
        rw [if_neg hc1, if_neg hc3, if_pos hc5]
      · refine OwnEnd.go (fun _ k => XS.icmpYes X0.here hx rfl (pc0 := 19) (pc' := 26) rfl (hb hby d1_19) rfl (feq hc5).2 (by decide) (by decide) k) ?_
        show OwnEnd p e below s _ _ _ (s₁.setTop (mkF m 26 #[.val (.int p1)] []))
        refine OwnEnd.go (fun _ k => XS.iloadN X0.here hx rfl (hb hby d1_26) rfl  k) ?_
        show OwnEnd p e below s _ _ _ (s₁.setTop (mkF m 27 #[.val (.int p1)] [(.int p1)]))
        refine OwnEnd.go (fun _ k => XS.iconst X0.here hx rfl (hb hby d1_27) k) ?_
        show OwnEnd p e below s _ _ _ (s₁.setTop (mkF m 28 #[.val (.int p1)] [(.int (3 : Int32)), (.int p1)]))
        by_cases hc7 : p1 = (3 : Int32)
        · refine OwnEnd.go (fun _ k => XS.icmpNo X0.here hx rfl (hb hby d1_28) rfl (teq hc7).2 k) ?_
          show OwnEnd p e below s _ _ _ (s₁.setTop (mkF m 31 #[.val (.int p1)] []))
          obtain ⟨T8, X8, e8, st8⟩ := getS2 X0 hx hZ hown (host := "") (Or.inl ww17) Via.refl e0 (S_INSERT.ext O0.2) (g := (mkF m 31 #[.val (.int p1)] [])) rfl (hb hby d1_31)
          refine OwnEnd.go (fun _ k => st8 _ k) ?_
          show OwnEnd p e below s _ _ _ (T8.setTop (mkF m 34 #[.val (.int p1)] [(.ref a_INSERT)]))
          refine ownRetA X8 hx hlk hret rfl rfl rfl (hb hby d1_34) (by decide) (by decide) ?_
          show Q1 Z p1 a_READ a_WRITE a_SELECT a_INSERT a_DELETE a_COMMIT a_ABORT h0 n0 _ T8.heap _
          rw [e8]
          refine ⟨?_, N0, rfl⟩
          unfold own_verb
          rw [if_neg hc1, if_neg hc3, if_neg hc5, if_pos hc7]
        · refine OwnEnd.go (fun _ k => XS.icmpYes X0.here hx rfl (pc0 := 28) (pc' := 35) rfl (hb hby d1_28) rfl (feq hc7).2 (by decide) (by decide) k) ?_
          show OwnEnd p e below s _ _ _ (s₁.setTop (mkF m 35 #[.val (.int p1)] []))
          refine OwnEnd.go (fun _ k => XS.iloadN X0.here hx rfl (hb hby d1_35) rfl  k) ?_
          show OwnEnd p e below s _ _ _ (s₁.setTop (mkF m 36 #[.val (.int p1)] [(.int p1)]))
          refine OwnEnd.go (fun _ k => XS.iconst X0.here hx rfl (hb hby d1_36) k) ?_
          show OwnEnd p e below s _ _ _ (s₁.setTop (mkF m 37 #[.val (.int p1)] [(.int (4 : Int32)), (.int p1)]))
          by_cases hc9 : p1 = (4 : Int32)
          · refine OwnEnd.go (fun _ k => XS.icmpNo X0.here hx rfl (hb hby d1_37) rfl (teq hc9).2 k) ?_
            show OwnEnd p e below s _ _ _ (s₁.setTop (mkF m 40 #[.val (.int p1)] []))
            obtain ⟨T10, X10, e10, st10⟩ := getS2 X0 hx hZ hown (host := "") (Or.inl ww21) Via.refl e0 (S_DELETE.ext O0.2) (g := (mkF m 40 #[.val (.int p1)] [])) rfl (hb hby d1_40)
            refine OwnEnd.go (fun _ k => st10 _ k) ?_
            show OwnEnd p e below s _ _ _ (T10.setTop (mkF m 43 #[.val (.int p1)] [(.ref a_DELETE)]))
            refine ownRetA X10 hx hlk hret rfl rfl rfl (hb hby d1_43) (by decide) (by decide) ?_
            show Q1 Z p1 a_READ a_WRITE a_SELECT a_INSERT a_DELETE a_COMMIT a_ABORT h0 n0 _ T10.heap _
            rw [e10]
            refine ⟨?_, N0, rfl⟩
            unfold own_verb
            rw [if_neg hc1, if_neg hc3, if_neg hc5, if_neg hc7, if_pos hc9]
          · refine OwnEnd.go (fun _ k => XS.icmpYes X0.here hx rfl (pc0 := 37) (pc' := 44) rfl (hb hby d1_37) rfl (feq hc9).2 (by decide) (by decide) k) ?_
            show OwnEnd p e below s _ _ _ (s₁.setTop (mkF m 44 #[.val (.int p1)] []))
            refine OwnEnd.go (fun _ k => XS.iloadN X0.here hx rfl (hb hby d1_44) rfl  k) ?_
            show OwnEnd p e below s _ _ _ (s₁.setTop (mkF m 45 #[.val (.int p1)] [(.int p1)]))
            refine OwnEnd.go (fun _ k => XS.iconst X0.here hx rfl (hb hby d1_45) k) ?_
            show OwnEnd p e below s _ _ _ (s₁.setTop (mkF m 46 #[.val (.int p1)] [(.int (5 : Int32)), (.int p1)]))
            by_cases hc11 : p1 = (5 : Int32)
            · refine OwnEnd.go (fun _ k => XS.icmpNo X0.here hx rfl (hb hby d1_46) rfl (teq hc11).2 k) ?_
              show OwnEnd p e below s _ _ _ (s₁.setTop (mkF m 49 #[.val (.int p1)] []))
              obtain ⟨T12, X12, e12, st12⟩ := getS2 X0 hx hZ hown (host := "") (Or.inl ww19) Via.refl e0 (S_COMMIT.ext O0.2) (g := (mkF m 49 #[.val (.int p1)] [])) rfl (hb hby d1_49)
              refine OwnEnd.go (fun _ k => st12 _ k) ?_
              show OwnEnd p e below s _ _ _ (T12.setTop (mkF m 52 #[.val (.int p1)] [(.ref a_COMMIT)]))
              refine ownRetA X12 hx hlk hret rfl rfl rfl (hb hby d1_52) (by decide) (by decide) ?_
              show Q1 Z p1 a_READ a_WRITE a_SELECT a_INSERT a_DELETE a_COMMIT a_ABORT h0 n0 _ T12.heap _
              rw [e12]
              refine ⟨?_, N0, rfl⟩
              unfold own_verb
              rw [if_neg hc1, if_neg hc3, if_neg hc5, if_neg hc7, if_neg hc9, if_pos hc11]
            · refine OwnEnd.go (fun _ k => XS.icmpYes X0.here hx rfl (pc0 := 46) (pc' := 53) rfl (hb hby d1_46) rfl (feq hc11).2 (by decide) (by decide) k) ?_
              show OwnEnd p e below s _ _ _ (s₁.setTop (mkF m 53 #[.val (.int p1)] []))
              obtain ⟨T13, X13, e13, st13⟩ := getS2 X0 hx hZ hown (host := "") (Or.inl ww20) Via.refl e0 (S_ABORT.ext O0.2) (g := (mkF m 53 #[.val (.int p1)] [])) rfl (hb hby d1_53)
              refine OwnEnd.go (fun _ k => st13 _ k) ?_
              show OwnEnd p e below s _ _ _ (T13.setTop (mkF m 56 #[.val (.int p1)] [(.ref a_ABORT)]))
              refine ownRetA X13 hx hlk hret rfl rfl rfl (hb hby d1_56) (by decide) (by decide) ?_
              show Q1 Z p1 a_READ a_WRITE a_SELECT a_INSERT a_DELETE a_COMMIT a_ABORT h0 n0 _ T13.heap _
              rw [e13]
              refine ⟨?_, N0, rfl⟩
              unfold own_verb
              rw [if_neg hc1, if_neg hc3, if_neg hc5, if_neg hc7, if_neg hc9, if_neg hc11]

theorem d2_0 : decode prog_67_method_6_code 0 = .ok (.aload_n 0, 1) := by decide +kernel
theorem d2_1 : decode prog_67_method_6_code 1 = .ok (.getstatic 19, 3) := by decide +kernel
theorem d2_4 : decode prog_67_method_6_code 4 = .ok (.if_acmp .eq 10, 3) := by decide +kernel
theorem d2_7 : decode prog_67_method_6_code 7 = .ok (.aload_n 0, 1) := by decide +kernel
theorem d2_8 : decode prog_67_method_6_code 8 = .ok (.getstatic 22, 3) := by decide +kernel
theorem d2_11 : decode prog_67_method_6_code 11 = .ok (.if_acmp .ne 7, 3) := by decide +kernel
theorem d2_14 : decode prog_67_method_6_code 14 = .ok (.iconst 1, 1) := by decide +kernel
theorem d2_15 : decode prog_67_method_6_code 15 = .ok (.goto 4, 3) := by decide +kernel
theorem d2_18 : decode prog_67_method_6_code 18 = .ok (.iconst 0, 1) := by decide +kernel
theorem d2_19 : decode prog_67_method_6_code 19 = .ok (.ireturn, 1) := by decide +kernel
theorem pn_2 : plainName "com/example/isolation_anomaly_finder/isolationanomalyfinder/ScenarioStep$Verb" = true := by first | (simp [plainName, overriddenIn]; done) | decide +kernel
theorem ef_2 (m : MethodId) (x0 : Addr) : entryFrame m #[(.ref x0)] 1 = mkF m 0 #[.val (.ref x0)] [] := by first | (simp [entryFrame, mkF, argsToLocals, Value.category]; done) | rfl
def Q2 (Z : State) (a1 : Addr) (x1 : Addr) (x2 : Addr) (h0 : Heap) (n0 : Nat) (v : Option Value) (h : Heap) (L : List Loc) : Prop := v = some (.int (own_eq2 a1 x1 x2)) ∧ Fr n0 L ∧ h = h0
set_option maxRecDepth 65536 in
set_option maxHeartbeats 40000000 in
theorem rm2 (l : Launch) (Z : State) (a0 : Array Value) (hw : ∀ d ∈ tables_1, d.before a0 Z = true) (ws : List Jvm.Cond) (a1 : Addr) (x1 : Addr) (x2 : Addr) (h0 : Heap) (n0 : Nat) (Z0 : n0 ≤ h0.size) (O0 : Old Z n0 h0) (S1 : Sta Z Z.heap "com/example/isolation_anomaly_finder/isolationanomalyfinder/ScenarioStep$Verb" "COMMIT" "Lcom/example/isolation_anomaly_finder/isolationanomalyfinder/ScenarioStep$Verb;" (.ref x1)) (S2 : Sta Z Z.heap "com/example/isolation_anomaly_finder/isolationanomalyfinder/ScenarioStep$Verb" "ABORT" "Lcom/example/isolation_anomaly_finder/isolationanomalyfinder/ScenarioStep$Verb;" (.ref x2)) :
    MetFree l (⟨"com/example/isolation_anomaly_finder/isolationanomalyfinder/ScenarioStep$Verb", "endsTransaction", "()Z"⟩ : MethodName) (head1 (Jvm.Cond.code (⟨"com/example/isolation_anomaly_finder/isolationanomalyfinder/ScenarioStep$Verb", "endsTransaction", "()Z"⟩ : MethodName) prog_67_method_6_code 1 (some .boolean) :: ws) ({ frames := 0, cells := 0, slots := 0, locals := 0 } : Room)) (fun a U => a = #[(.ref a1)] ∧ Z.Warmed39 U.vm ∧ U.heap = h0) (fun _ _ _ _ _ => True) (fun _ U o U' => ∃ v L, o = .returned v ∧ Q2 Z a1 x1 x2 h0 n0 v U'.heap L ∧ FrameEnd U o U' L ({ frames := 0, cells := 0, slots := 0, locals := 0 } : Room).cells ({ frames := 0, cells := 0, slots := 0, locals := 0 } : Room).slots) := by
  have ww13 := hw _ (List.mem_of_getElem? (i := 13) rfl)
  have ww15 := hw _ (List.mem_of_getElem? (i := 15) rfl)
  refine MetFree.of_bodySF (plainFor_of_name pn_2) hisR ?_
  intro p e s m args below meth c s₁ Bd hml0 hP hK
  obtain ⟨rfl, hZ, hh⟩ := hP
  have hx := Bd.exec
  have hby := Bd.bytes
  have hlk : meth.locks = false := Bd.notSynchronized
  have hret := Bd.returns
  have hml : c.maxLocals = 1 := hml0
  have hown : s.vm.findClass "com/example/isolation_anomaly_finder/isolationanomalyfinder/ScenarioStep$Verb" = some m.cls := findClass_of_methodNamed Bd.named
  have hnm := (name_of_methodNamed Bd.named Bd.method).1
  have X0 : Stand p l e ({ frames := 0, cells := 0, slots := 0, locals := 0 } : Room) s m #[(.ref a1)] below meth c s₁ [] 0 0 := Stand.of_body Bd
  have e0 : s₁.heap = h0 := by rw [← hh, Bd.state]; rfl
  have N0 := Fr.nil n0
  have K0 := Keep.refl h0 []
  show OwnEnd p e below s (Q2 Z a1 x1 x2 h0 n0) ({ frames := 0, cells := 0, slots := 0, locals := 0 } : Room).cells ({ frames := 0, cells := 0, slots := 0, locals := 0 } : Room).slots _
  refine OwnEnd.go (fun _ k => castTop (ef_2 m a1) k) ?_
  show OwnEnd p e below s _ _ _ (s₁.setTop (mkF m 0 #[.val (.ref a1)] []))
  refine OwnEnd.go (fun _ k => XS.aloadN X0.here hx rfl (hb hby d2_0) rfl rfl k) ?_
  show OwnEnd p e below s _ _ _ (s₁.setTop (mkF m 1 #[.val (.ref a1)] [(.ref a1)]))
  obtain ⟨T1, X1, e1, st1⟩ := getS2 X0 hx hZ hown (host := "") (Or.inl ww13) Via.refl e0 (S1.ext O0.2) (g := (mkF m 1 #[.val (.ref a1)] [(.ref a1)])) rfl (hb hby d2_1)
  refine OwnEnd.go (fun _ k => st1 _ k) ?_
  show OwnEnd p e below s _ _ _ (T1.setTop (mkF m 4 #[.val (.ref a1)] [(.ref x1), (.ref a1)]))
  by_cases ha2 : a1 = x1
  · refine OwnEnd.go (fun _ k => Jvm.RoadKit.acmp (g := (mkF m 4 #[.val (.ref a1)] [(.ref x1), (.ref a1)])) X1 hx rfl rfl rfl (pc0 := 4) (pc' := 14) (same := true) rfl (hb hby d2_4) rfl (decide_eq_true (congrArg Value.ref ha2)) (by decide) (by decide) k) ?_
    show OwnEnd p e below s _ _ _ (T1.setTop (mkF m 14 #[.val (.ref a1)] []))
    refine OwnEnd.go (fun _ k => XS.iconst X1.here hx rfl (hb hby d2_14) k) ?_
    show OwnEnd p e below s _ _ _ (T1.setTop (mkF m 15 #[.val (.ref a1)] [(.int (1 : Int32))]))
    refine OwnEnd.go (fun _ k => XS.goto X1.here hx rfl (pc0 := 15) (pc' := 19) rfl (hb hby d2_15) (by decide) (by decide) k) ?_
    show OwnEnd p e below s _ _ _ (T1.setTop (mkF m 19 #[.val (.ref a1)] [(.int (1 : Int32))]))
    refine ownRetZ X1 hx hlk hret (hb hby d2_19) (by decide) (by decide) (1 : Int32) (by decide) ?_
    show Q2 Z a1 x1 x2 h0 n0 _ T1.heap _
    rw [e1]
    refine ⟨?_, N0, rfl⟩
    unfold own_eq2
    rw [if_pos (Or.inl ha2)]
  · refine OwnEnd.go (fun _ k => Jvm.RoadKit.acmp (g := (mkF m 4 #[.val (.ref a1)] [(.ref x1), (.ref a1)])) X1 hx rfl rfl rfl (pc0 := 4) (pc' := 7) (same := false) rfl (hb hby d2_4) rfl (decide_eq_false fun q => ha2 (Value.ref.inj q)) (by decide) (by decide) k) ?_
    show OwnEnd p e below s _ _ _ (T1.setTop (mkF m 7 #[.val (.ref a1)] []))
    refine OwnEnd.go (fun _ k => XS.aloadN X1.here hx rfl (hb hby d2_7) rfl rfl k) ?_
    show OwnEnd p e below s _ _ _ (T1.setTop (mkF m 8 #[.val (.ref a1)] [(.ref a1)]))
    obtain ⟨T3, X3, e3, st3⟩ := getS2 X1 hx hZ hown (host := "") (Or.inl ww15) Via.refl e1 (S2.ext O0.2) (g := (mkF m 8 #[.val (.ref a1)] [(.ref a1)])) rfl (hb hby d2_8)
    refine OwnEnd.go (fun _ k => st3 _ k) ?_
    show OwnEnd p e below s _ _ _ (T3.setTop (mkF m 11 #[.val (.ref a1)] [(.ref x2), (.ref a1)]))
    by_cases ha4 : a1 = x2
    · refine OwnEnd.go (fun _ k => Jvm.RoadKit.acmp (g := (mkF m 11 #[.val (.ref a1)] [(.ref x2), (.ref a1)])) X3 hx rfl rfl rfl (pc0 := 11) (pc' := 14) (same := true) rfl (hb hby d2_11) rfl (decide_eq_true (congrArg Value.ref ha4)) (by decide) (by decide) k) ?_
      show OwnEnd p e below s _ _ _ (T3.setTop (mkF m 14 #[.val (.ref a1)] []))
      refine OwnEnd.go (fun _ k => XS.iconst X3.here hx rfl (hb hby d2_14) k) ?_
      show OwnEnd p e below s _ _ _ (T3.setTop (mkF m 15 #[.val (.ref a1)] [(.int (1 : Int32))]))
      refine OwnEnd.go (fun _ k => XS.goto X3.here hx rfl (pc0 := 15) (pc' := 19) rfl (hb hby d2_15) (by decide) (by decide) k) ?_
      show OwnEnd p e below s _ _ _ (T3.setTop (mkF m 19 #[.val (.ref a1)] [(.int (1 : Int32))]))
      refine ownRetZ X3 hx hlk hret (hb hby d2_19) (by decide) (by decide) (1 : Int32) (by decide) ?_
      show Q2 Z a1 x1 x2 h0 n0 _ T3.heap _
      rw [e3]
      refine ⟨?_, N0, rfl⟩
      unfold own_eq2
      rw [if_pos (Or.inr ha4)]
    · refine OwnEnd.go (fun _ k => Jvm.RoadKit.acmp (g := (mkF m 11 #[.val (.ref a1)] [(.ref x2), (.ref a1)])) X3 hx rfl rfl rfl (pc0 := 11) (pc' := 18) (same := false) rfl (hb hby d2_11) rfl (decide_eq_false fun q => ha4 (Value.ref.inj q)) (by decide) (by decide) k) ?_
      show OwnEnd p e below s _ _ _ (T3.setTop (mkF m 18 #[.val (.ref a1)] []))
      refine OwnEnd.go (fun _ k => XS.iconst X3.here hx rfl (hb hby d2_18) k) ?_
      show OwnEnd p e below s _ _ _ (T3.setTop (mkF m 19 #[.val (.ref a1)] [(.int (0 : Int32))]))
      refine ownRetZ X3 hx hlk hret (hb hby d2_19) (by decide) (by decide) (0 : Int32) (by decide) ?_
      show Q2 Z a1 x1 x2 h0 n0 _ T3.heap _
      rw [e3]
      refine ⟨?_, N0, rfl⟩
      rw [own_eq2_n ha2 ha4]
theorem pn_0 : plainName "com/example/isolation_anomaly_finder/isolationanomalyfinder/VerbEndsTransactionPinLaw" = true := by first | (simp [plainName, overriddenIn]; done) | decide +kernel
theorem pd0_0 : parseMethodDescriptor "(I)Lcom/example/isolation_anomaly_finder/isolationanomalyfinder/ScenarioStep$Verb;" = some ⟨[.int], some (.object "com/example/isolation_anomaly_finder/isolationanomalyfinder/ScenarioStep$Verb")⟩ := by decide +kernel
theorem pd0_1 : parseMethodDescriptor "()Z" = some ⟨[], some .boolean⟩ := by decide +kernel
theorem ef_0 (m : MethodId) (x0 : Int32) : entryFrame m #[(.int x0)] maxLocals = mkF m 0 #[.val (.int x0), .unset, .unset, .unset] [] := by first | (simp [entryFrame, mkF, argsToLocals, Value.category, maxLocals]; done) | rfl
def Q0 (Z : State) (p1 : Int32) (a_READ : Addr) (a_COMMIT : Addr) (a_ABORT : Addr) (a_INSERT : Addr) (a_DELETE : Addr) (a_SELECT : Addr) (a_WRITE : Addr) (h0 : Heap) (n0 : Nat) (v : Option Value) (h : Heap) (L : List Loc) : Prop := v = some (.int 1) ∧ Fr n0 L
set_option maxRecDepth 65536 in
set_option maxHeartbeats 40000000 in
theorem rm0 (l : Launch) (Z : State) (a0 : Array Value) (hw : ∀ d ∈ tables_1, d.before a0 Z = true) (ws : List Jvm.Cond) (p1 : Int32) (a_READ : Addr) (a_COMMIT : Addr) (a_ABORT : Addr) (a_INSERT : Addr) (a_DELETE : Addr) (a_SELECT : Addr) (a_WRITE : Addr) (h0 : Heap) (n0 : Nat) (Z0 : n0 ≤ h0.size) (O0 : Old Z n0 h0) (S_READ : Sta Z Z.heap "com/example/isolation_anomaly_finder/isolationanomalyfinder/ScenarioStep$Verb" "READ" "Lcom/example/isolation_anomaly_finder/isolationanomalyfinder/ScenarioStep$Verb;" (.ref a_READ)) (S_COMMIT : Sta Z Z.heap "com/example/isolation_anomaly_finder/isolationanomalyfinder/ScenarioStep$Verb" "COMMIT" "Lcom/example/isolation_anomaly_finder/isolationanomalyfinder/ScenarioStep$Verb;" (.ref a_COMMIT)) (S_ABORT : Sta Z Z.heap "com/example/isolation_anomaly_finder/isolationanomalyfinder/ScenarioStep$Verb" "ABORT" "Lcom/example/isolation_anomaly_finder/isolationanomalyfinder/ScenarioStep$Verb;" (.ref a_ABORT)) (S_INSERT : Sta Z Z.heap "com/example/isolation_anomaly_finder/isolationanomalyfinder/ScenarioStep$Verb" "INSERT" "Lcom/example/isolation_anomaly_finder/isolationanomalyfinder/ScenarioStep$Verb;" (.ref a_INSERT)) (S_DELETE : Sta Z Z.heap "com/example/isolation_anomaly_finder/isolationanomalyfinder/ScenarioStep$Verb" "DELETE" "Lcom/example/isolation_anomaly_finder/isolationanomalyfinder/ScenarioStep$Verb;" (.ref a_DELETE)) (S_SELECT : Sta Z Z.heap "com/example/isolation_anomaly_finder/isolationanomalyfinder/ScenarioStep$Verb" "SELECT" "Lcom/example/isolation_anomaly_finder/isolationanomalyfinder/ScenarioStep$Verb;" (.ref a_SELECT)) (S_WRITE : Sta Z Z.heap "com/example/isolation_anomaly_finder/isolationanomalyfinder/ScenarioStep$Verb" "WRITE" "Lcom/example/isolation_anomaly_finder/isolationanomalyfinder/ScenarioStep$Verb;" (.ref a_WRITE)) (E_READ : Exa Z h0 a_READ "com/example/isolation_anomaly_finder/isolationanomalyfinder/ScenarioStep$Verb") (E_COMMIT : Exa Z h0 a_COMMIT "com/example/isolation_anomaly_finder/isolationanomalyfinder/ScenarioStep$Verb") (E_ABORT : Exa Z h0 a_ABORT "com/example/isolation_anomaly_finder/isolationanomalyfinder/ScenarioStep$Verb") (E_INSERT : Exa Z h0 a_INSERT "com/example/isolation_anomaly_finder/isolationanomalyfinder/ScenarioStep$Verb") (E_DELETE : Exa Z h0 a_DELETE "com/example/isolation_anomaly_finder/isolationanomalyfinder/ScenarioStep$Verb") (E_SELECT : Exa Z h0 a_SELECT "com/example/isolation_anomaly_finder/isolationanomalyfinder/ScenarioStep$Verb") (E_WRITE : Exa Z h0 a_WRITE "com/example/isolation_anomaly_finder/isolationanomalyfinder/ScenarioStep$Verb") (n_READ_COMMIT : a_READ ≠ a_COMMIT) (n_READ_ABORT : a_READ ≠ a_ABORT) (n_COMMIT_ABORT : a_COMMIT ≠ a_ABORT) (n_INSERT_COMMIT : a_INSERT ≠ a_COMMIT) (n_INSERT_ABORT : a_INSERT ≠ a_ABORT) (n_DELETE_COMMIT : a_DELETE ≠ a_COMMIT) (n_DELETE_ABORT : a_DELETE ≠ a_ABORT) (n_SELECT_COMMIT : a_SELECT ≠ a_COMMIT) (n_SELECT_ABORT : a_SELECT ≠ a_ABORT) (n_WRITE_COMMIT : a_WRITE ≠ a_COMMIT) (n_WRITE_ABORT : a_WRITE ≠ a_ABORT) :
    MetFree l x (head1 (Jvm.Cond.code x code maxLocals ret :: ws) room_1) (fun a U => a = #[(.int p1)] ∧ Z.Warmed39 U.vm ∧ U.heap = h0) (fun _ _ _ _ _ => True) (fun _ U o U' => ∃ v L, o = .returned v ∧ Q0 Z p1 a_READ a_COMMIT a_ABORT a_INSERT a_DELETE a_SELECT a_WRITE h0 n0 v U'.heap L ∧ FrameEnd U o U' L room_1.cells room_1.slots) := by
  have ww0 := hw _ (List.mem_of_getElem? (i := 0) rfl)
  have ww1 := hw _ (List.mem_of_getElem? (i := 1) rfl)
  have ww2 := hw _ (List.mem_of_getElem? (i := 2) rfl)
  have ww3 := hw _ (List.mem_of_getElem? (i := 3) rfl)
  have ww4 := hw _ (List.mem_of_getElem? (i := 4) rfl)
  have ww6 := hw _ (List.mem_of_getElem? (i := 6) rfl)
  have ww8 := hw _ (List.mem_of_getElem? (i := 8) rfl)
  have ww9 := hw _ (List.mem_of_getElem? (i := 9) rfl)
  have ww10 := hw _ (List.mem_of_getElem? (i := 10) rfl)
  have ww11 := hw _ (List.mem_of_getElem? (i := 11) rfl)
  have ww12 := hw _ (List.mem_of_getElem? (i := 12) rfl)
  refine MetFree.of_bodySF (plainFor_of_name pn_0) hisR ?_
  intro p e s m args below meth c s₁ Bd hml0 hP hK
  obtain ⟨rfl, hZ, hh⟩ := hP
  have hx := Bd.exec
  have hby := Bd.bytes
  have hlk : meth.locks = false := Bd.notSynchronized
  have hret := Bd.returns
  have hml : c.maxLocals = 4 := hml0
  have hown : s.vm.findClass "com/example/isolation_anomaly_finder/isolationanomalyfinder/VerbEndsTransactionPinLaw" = some m.cls := findClass_of_methodNamed Bd.named
  have hnm := (name_of_methodNamed Bd.named Bd.method).1
  have X0 : Stand p l e room_1 s m #[(.int p1)] below meth c s₁ [] 0 0 := Stand.of_body Bd
  have e0 : s₁.heap = h0 := by rw [← hh, Bd.state]; rfl
  have N0 := Fr.nil n0
  have K0 := Keep.refl h0 []
  show OwnEnd p e below s (Q0 Z p1 a_READ a_COMMIT a_ABORT a_INSERT a_DELETE a_SELECT a_WRITE h0 n0) room_1.cells room_1.slots _
  refine OwnEnd.go (fun _ k => castTop (ef_0 m p1) k) ?_
  show OwnEnd p e below s _ _ _ (s₁.setTop (mkF m 0 #[.val (.int p1), .unset, .unset, .unset] []))
  refine OwnEnd.go (fun _ k => XS.iloadN X0.here hx rfl (hb hby at_0) rfl  k) ?_
  show OwnEnd p e below s _ _ _ (s₁.setTop (mkF m 1 #[.val (.int p1), .unset, .unset, .unset] [(.int p1)]))
  refine OwnEnd.go (fun _ k => X0.ldcI hx hown (mvT hZ ww0) (g := (mkF m 1 #[.val (.int p1), .unset, .unset, .unset] [(.int p1)])) rfl (hb hby at_1) k) ?_
  show OwnEnd p e below s _ _ _ (s₁.setTop (mkF m 3 #[.val (.int p1), .unset, .unset, .unset] [(.int (2147483647 : Int32)), (.int p1)]))
  refine OwnEnd.go (fun _ k => XS.iand X0.here hx rfl (hb hby at_3) rfl k) ?_
  show OwnEnd p e below s _ _ _ (s₁.setTop (mkF m 4 #[.val (.int p1), .unset, .unset, .unset] [(.int (p1 &&& (2147483647 : Int32)))]))
  refine OwnEnd.go (fun _ k => XS.bipush X0.here hx rfl (hb hby at_4) k) ?_
  show OwnEnd p e below s _ _ _ (s₁.setTop (mkF m 6 #[.val (.int p1), .unset, .unset, .unset] [(.int (7 : Int32)), (.int (p1 &&& (2147483647 : Int32)))]))
  refine OwnEnd.go (fun _ k => iremM X0 hx rfl (hb hby at_6) rfl (by decide) k) ?_
  show OwnEnd p e below s _ _ _ (s₁.setTop (mkF m 7 #[.val (.int p1), .unset, .unset, .unset] [(.int ((p1 &&& (2147483647 : Int32)) % (7 : Int32)))]))
  refine OwnEnd.go (fun _ k => XS.istoreN X0.here hx rfl (hb hby at_7) rfl  (l' := #[.val (.int p1), .val (.int ((p1 &&& (2147483647 : Int32)) % (7 : Int32))), .unset, .unset]) rfl k) ?_
  show OwnEnd p e below s _ _ _ (s₁.setTop (mkF m 8 #[.val (.int p1), .val (.int ((p1 &&& (2147483647 : Int32)) % (7 : Int32))), .unset, .unset] []))
  refine OwnEnd.go (fun _ k => XS.iloadN X0.here hx rfl (hb hby at_8) rfl  k) ?_
  show OwnEnd p e below s _ _ _ (s₁.setTop (mkF m 9 #[.val (.int p1), .val (.int ((p1 &&& (2147483647 : Int32)) % (7 : Int32))), .unset, .unset] [(.int ((p1 &&& (2147483647 : Int32)) % (7 : Int32)))]))
  obtain ⟨_, T1, L1, X1, hQ1, st1⟩ := ownCallS X0 hx hZ hown ww1 ww2 ww3 ww4 (by decide) (rm1 l Z a0 hw [] ((p1 &&& (2147483647 : Int32)) % (7 : Int32)) a_READ a_WRITE a_SELECT a_INSERT a_DELETE a_COMMIT a_ABORT h0 n0 Z0 O0 S_READ S_WRITE S_SELECT S_INSERT S_DELETE S_COMMIT S_ABORT) e0 0 (by decide) (by decide) (by decide) (by decide) (g := (mkF m 9 #[.val (.int p1), .val (.int ((p1 &&& (2147483647 : Int32)) % (7 : Int32))), .unset, .unset] [(.int ((p1 &&& (2147483647 : Int32)) % (7 : Int32)))])) rfl (by rw [hml]; rfl) (argsL := [(.int ((p1 &&& (2147483647 : Int32)) % (7 : Int32)))]) (rest := []) (lenOf pd0_0 rfl) rfl rfl (by show 2 * 0 + _ ≤ _; exact Nat.le_of_eq rfl) (hb hby at_9)
  obtain ⟨rfl, N1q, e1⟩ := hQ1
  have N1 := Fr.app N0 N1q
  refine OwnEnd.go (fun _ k => st1 _ k) ?_
  have E_v : Exa Z h0 (own_verb ((p1 &&& (2147483647 : Int32)) % (7 : Int32)) a_READ a_WRITE a_SELECT a_INSERT a_DELETE a_COMMIT a_ABORT) "com/example/isolation_anomaly_finder/isolationanomalyfinder/ScenarioStep$Verb" := own_verb_P (P := fun a => Exa Z h0 a "com/example/isolation_anomaly_finder/isolationanomalyfinder/ScenarioStep$Verb") _ E_READ E_WRITE E_SELECT E_INSERT E_DELETE E_COMMIT E_ABORT
  show OwnEnd p e below s _ _ _ (T1.setTop (mkF m 12 #[.val (.int p1), .val (.int ((p1 &&& (2147483647 : Int32)) % (7 : Int32))), .unset, .unset] [(.ref (own_verb ((p1 &&& (2147483647 : Int32)) % (7 : Int32)) a_READ a_WRITE a_SELECT a_INSERT a_DELETE a_COMMIT a_ABORT))]))
  refine OwnEnd.go (fun _ k => XS.astoreN X1.here hx rfl (hb hby at_12) rfl rfl (l' := #[.val (.int p1), .val (.int ((p1 &&& (2147483647 : Int32)) % (7 : Int32))), .val (.ref (own_verb ((p1 &&& (2147483647 : Int32)) % (7 : Int32)) a_READ a_WRITE a_SELECT a_INSERT a_DELETE a_COMMIT a_ABORT)), .unset]) rfl k) ?_
  show OwnEnd p e below s _ _ _ (T1.setTop (mkF m 13 #[.val (.int p1), .val (.int ((p1 &&& (2147483647 : Int32)) % (7 : Int32))), .val (.ref (own_verb ((p1 &&& (2147483647 : Int32)) % (7 : Int32)) a_READ a_WRITE a_SELECT a_INSERT a_DELETE a_COMMIT a_ABORT)), .unset] []))
  refine OwnEnd.go (fun _ k => XS.iloadN X1.here hx rfl (hb hby at_13) rfl  k) ?_
  show OwnEnd p e below s _ _ _ (T1.setTop (mkF m 14 #[.val (.int p1), .val (.int ((p1 &&& (2147483647 : Int32)) % (7 : Int32))), .val (.ref (own_verb ((p1 &&& (2147483647 : Int32)) % (7 : Int32)) a_READ a_WRITE a_SELECT a_INSERT a_DELETE a_COMMIT a_ABORT)), .unset] [(.int ((p1 &&& (2147483647 : Int32)) % (7 : Int32)))]))
  refine OwnEnd.go (fun _ k => XS.iconst X1.here hx rfl (hb hby at_14) k) ?_
  show OwnEnd p e below s _ _ _ (T1.setTop (mkF m 15 #[.val (.int p1), .val (.int ((p1 &&& (2147483647 : Int32)) % (7 : Int32))), .val (.ref (own_verb ((p1 &&& (2147483647 : Int32)) % (7 : Int32)) a_READ a_WRITE a_SELECT a_INSERT a_DELETE a_COMMIT a_ABORT)), .unset] [(.int (5 : Int32)), (.int ((p1 &&& (2147483647 : Int32)) % (7 : Int32)))]))
  by_cases hc2 : ((p1 &&& (2147483647 : Int32)) % (7 : Int32)) = (5 : Int32)
  · refine OwnEnd.go (fun _ k => XS.icmpYes X1.here hx rfl (pc0 := 15) (pc' := 24) rfl (hb hby at_15) rfl (teq hc2).1 (by decide) (by decide) k) ?_
    show OwnEnd p e below s _ _ _ (T1.setTop (mkF m 24 #[.val (.int p1), .val (.int ((p1 &&& (2147483647 : Int32)) % (7 : Int32))), .val (.ref (own_verb ((p1 &&& (2147483647 : Int32)) % (7 : Int32)) a_READ a_WRITE a_SELECT a_INSERT a_DELETE a_COMMIT a_ABORT)), .unset] []))
    refine OwnEnd.go (fun _ k => XS.iconst X1.here hx rfl (hb hby at_24) k) ?_
    show OwnEnd p e below s _ _ _ (T1.setTop (mkF m 25 #[.val (.int p1), .val (.int ((p1 &&& (2147483647 : Int32)) % (7 : Int32))), .val (.ref (own_verb ((p1 &&& (2147483647 : Int32)) % (7 : Int32)) a_READ a_WRITE a_SELECT a_INSERT a_DELETE a_COMMIT a_ABORT)), .unset] [(.int (1 : Int32))]))
    refine OwnEnd.go (fun _ k => XS.goto X1.here hx rfl (pc0 := 25) (pc' := 29) rfl (hb hby at_25) (by decide) (by decide) k) ?_
    show OwnEnd p e below s _ _ _ (T1.setTop (mkF m 29 #[.val (.int p1), .val (.int ((p1 &&& (2147483647 : Int32)) % (7 : Int32))), .val (.ref (own_verb ((p1 &&& (2147483647 : Int32)) % (7 : Int32)) a_READ a_WRITE a_SELECT a_INSERT a_DELETE a_COMMIT a_ABORT)), .unset] [(.int (1 : Int32))]))
    refine OwnEnd.go (fun _ k => XS.istoreN X1.here hx rfl (hb hby at_29) rfl  (l' := #[.val (.int p1), .val (.int ((p1 &&& (2147483647 : Int32)) % (7 : Int32))), .val (.ref (own_verb ((p1 &&& (2147483647 : Int32)) % (7 : Int32)) a_READ a_WRITE a_SELECT a_INSERT a_DELETE a_COMMIT a_ABORT)), .val (.int (1 : Int32))]) rfl k) ?_
    show OwnEnd p e below s _ _ _ (T1.setTop (mkF m 30 #[.val (.int p1), .val (.int ((p1 &&& (2147483647 : Int32)) % (7 : Int32))), .val (.ref (own_verb ((p1 &&& (2147483647 : Int32)) % (7 : Int32)) a_READ a_WRITE a_SELECT a_INSERT a_DELETE a_COMMIT a_ABORT)), .val (.int (1 : Int32))] []))
    refine OwnEnd.go (fun _ k => XS.aloadN X1.here hx rfl (hb hby at_30) rfl rfl k) ?_
    show OwnEnd p e below s _ _ _ (T1.setTop (mkF m 31 #[.val (.int p1), .val (.int ((p1 &&& (2147483647 : Int32)) % (7 : Int32))), .val (.ref (own_verb ((p1 &&& (2147483647 : Int32)) % (7 : Int32)) a_READ a_WRITE a_SELECT a_INSERT a_DELETE a_COMMIT a_ABORT)), .val (.int (1 : Int32))] [(.ref (own_verb ((p1 &&& (2147483647 : Int32)) % (7 : Int32)) a_READ a_WRITE a_SELECT a_INSERT a_DELETE a_COMMIT a_ABORT))]))
    obtain ⟨_, T3, L3, X3, hQ3, st3⟩ := ownCallV X1 hx hZ hown ww8 ww9 ww11 ww10 ww6 ww12 (by decide) (rm2 l Z a0 hw [] (own_verb ((p1 &&& (2147483647 : Int32)) % (7 : Int32)) a_READ a_WRITE a_SELECT a_INSERT a_DELETE a_COMMIT a_ABORT) a_COMMIT a_ABORT h0 n0 Z0 O0 S_COMMIT S_ABORT) e1 E_v 0 (by decide) (by decide) (by decide) (by decide) (g := (mkF m 31 #[.val (.int p1), .val (.int ((p1 &&& (2147483647 : Int32)) % (7 : Int32))), .val (.ref (own_verb ((p1 &&& (2147483647 : Int32)) % (7 : Int32)) a_READ a_WRITE a_SELECT a_INSERT a_DELETE a_COMMIT a_ABORT)), .val (.int (1 : Int32))] [(.ref (own_verb ((p1 &&& (2147483647 : Int32)) % (7 : Int32)) a_READ a_WRITE a_SELECT a_INSERT a_DELETE a_COMMIT a_ABORT))])) rfl (by rw [hml]; rfl) (argsL := []) (rest := []) (lenOf pd0_1 rfl) rfl rfl (by show 2 * 0 + _ ≤ _; exact Nat.le_of_eq rfl) (hb hby at_31)
    obtain ⟨rfl, N3q, e3⟩ := hQ3
    have N3 := Fr.app N1 N3q
    refine OwnEnd.go (fun _ k => st3 _ k) ?_
    show OwnEnd p e below s _ _ _ (T3.setTop (mkF m 34 #[.val (.int p1), .val (.int ((p1 &&& (2147483647 : Int32)) % (7 : Int32))), .val (.ref (own_verb ((p1 &&& (2147483647 : Int32)) % (7 : Int32)) a_READ a_WRITE a_SELECT a_INSERT a_DELETE a_COMMIT a_ABORT)), .val (.int (1 : Int32))] [(.int (own_eq2 (own_verb ((p1 &&& (2147483647 : Int32)) % (7 : Int32)) a_READ a_WRITE a_SELECT a_INSERT a_DELETE a_COMMIT a_ABORT) a_COMMIT a_ABORT))]))
    refine OwnEnd.go (fun _ k => XS.iloadN X3.here hx rfl (hb hby at_34) rfl  k) ?_
    show OwnEnd p e below s _ _ _ (T3.setTop (mkF m 35 #[.val (.int p1), .val (.int ((p1 &&& (2147483647 : Int32)) % (7 : Int32))), .val (.ref (own_verb ((p1 &&& (2147483647 : Int32)) % (7 : Int32)) a_READ a_WRITE a_SELECT a_INSERT a_DELETE a_COMMIT a_ABORT)), .val (.int (1 : Int32))] [(.int (1 : Int32)), (.int (own_eq2 (own_verb ((p1 &&& (2147483647 : Int32)) % (7 : Int32)) a_READ a_WRITE a_SELECT a_INSERT a_DELETE a_COMMIT a_ABORT) a_COMMIT a_ABORT))]))
    refine OwnEnd.go (fun _ k => XS.icmpNo X3.here hx rfl (hb hby at_35) rfl (teq (own_m3_5 a_READ a_WRITE a_SELECT a_INSERT a_DELETE a_COMMIT a_ABORT hc2)).2 k) ?_
    show OwnEnd p e below s _ _ _ (T3.setTop (mkF m 38 #[.val (.int p1), .val (.int ((p1 &&& (2147483647 : Int32)) % (7 : Int32))), .val (.ref (own_verb ((p1 &&& (2147483647 : Int32)) % (7 : Int32)) a_READ a_WRITE a_SELECT a_INSERT a_DELETE a_COMMIT a_ABORT)), .val (.int (1 : Int32))] []))
    refine OwnEnd.go (fun _ k => XS.iconst X3.here hx rfl (hb hby at_38) k) ?_
    show OwnEnd p e below s _ _ _ (T3.setTop (mkF m 39 #[.val (.int p1), .val (.int ((p1 &&& (2147483647 : Int32)) % (7 : Int32))), .val (.ref (own_verb ((p1 &&& (2147483647 : Int32)) % (7 : Int32)) a_READ a_WRITE a_SELECT a_INSERT a_DELETE a_COMMIT a_ABORT)), .val (.int (1 : Int32))] [(.int (1 : Int32))]))
    refine OwnEnd.go (fun _ k => XS.goto X3.here hx rfl (pc0 := 39) (pc' := 43) rfl (hb hby at_39) (by decide) (by decide) k) ?_
    show OwnEnd p e below s _ _ _ (T3.setTop (mkF m 43 #[.val (.int p1), .val (.int ((p1 &&& (2147483647 : Int32)) % (7 : Int32))), .val (.ref (own_verb ((p1 &&& (2147483647 : Int32)) % (7 : Int32)) a_READ a_WRITE a_SELECT a_INSERT a_DELETE a_COMMIT a_ABORT)), .val (.int (1 : Int32))] [(.int (1 : Int32))]))
    refine ownRetZ X3 hx hlk hret (hb hby at_43) (by decide) (by decide) (1 : Int32) (by decide) ?_
    show Q0 Z p1 a_READ a_COMMIT a_ABORT a_INSERT a_DELETE a_SELECT a_WRITE h0 n0 _ T3.heap _
    rw [e3]
    exact ⟨rfl, N3⟩
  · refine OwnEnd.go (fun _ k => XS.icmpNo X1.here hx rfl (hb hby at_15) rfl (feq hc2).1 k) ?_
    show OwnEnd p e below s _ _ _ (T1.setTop (mkF m 18 #[.val (.int p1), .val (.int ((p1 &&& (2147483647 : Int32)) % (7 : Int32))), .val (.ref (own_verb ((p1 &&& (2147483647 : Int32)) % (7 : Int32)) a_READ a_WRITE a_SELECT a_INSERT a_DELETE a_COMMIT a_ABORT)), .unset] []))
    refine OwnEnd.go (fun _ k => XS.iloadN X1.here hx rfl (hb hby at_18) rfl  k) ?_
    show OwnEnd p e below s _ _ _ (T1.setTop (mkF m 19 #[.val (.int p1), .val (.int ((p1 &&& (2147483647 : Int32)) % (7 : Int32))), .val (.ref (own_verb ((p1 &&& (2147483647 : Int32)) % (7 : Int32)) a_READ a_WRITE a_SELECT a_INSERT a_DELETE a_COMMIT a_ABORT)), .unset] [(.int ((p1 &&& (2147483647 : Int32)) % (7 : Int32)))]))
    refine OwnEnd.go (fun _ k => XS.bipush X1.here hx rfl (hb hby at_19) k) ?_
    show OwnEnd p e below s _ _ _ (T1.setTop (mkF m 21 #[.val (.int p1), .val (.int ((p1 &&& (2147483647 : Int32)) % (7 : Int32))), .val (.ref (own_verb ((p1 &&& (2147483647 : Int32)) % (7 : Int32)) a_READ a_WRITE a_SELECT a_INSERT a_DELETE a_COMMIT a_ABORT)), .unset] [(.int (6 : Int32)), (.int ((p1 &&& (2147483647 : Int32)) % (7 : Int32)))]))
    by_cases hc4 : ((p1 &&& (2147483647 : Int32)) % (7 : Int32)) = (6 : Int32)
    · refine OwnEnd.go (fun _ k => XS.icmpNo X1.here hx rfl (hb hby at_21) rfl (teq hc4).2 k) ?_
      show OwnEnd p e below s _ _ _ (T1.setTop (mkF m 24 #[.val (.int p1), .val (.int ((p1 &&& (2147483647 : Int32)) % (7 : Int32))), .val (.ref (own_verb ((p1 &&& (2147483647 : Int32)) % (7 : Int32)) a_READ a_WRITE a_SELECT a_INSERT a_DELETE a_COMMIT a_ABORT)), .unset] []))
      refine OwnEnd.go (fun _ k => XS.iconst X1.here hx rfl (hb hby at_24) k) ?_
      show OwnEnd p e below s _ _ _ (T1.setTop (mkF m 25 #[.val (.int p1), .val (.int ((p1 &&& (2147483647 : Int32)) % (7 : Int32))), .val (.ref (own_verb ((p1 &&& (2147483647 : Int32)) % (7 : Int32)) a_READ a_WRITE a_SELECT a_INSERT a_DELETE a_COMMIT a_ABORT)), .unset] [(.int (1 : Int32))]))
      refine OwnEnd.go (fun _ k => XS.goto X1.here hx rfl (pc0 := 25) (pc' := 29) rfl (hb hby at_25) (by decide) (by decide) k) ?_
      show OwnEnd p e below s _ _ _ (T1.setTop (mkF m 29 #[.val (.int p1), .val (.int ((p1 &&& (2147483647 : Int32)) % (7 : Int32))), .val (.ref (own_verb ((p1 &&& (2147483647 : Int32)) % (7 : Int32)) a_READ a_WRITE a_SELECT a_INSERT a_DELETE a_COMMIT a_ABORT)), .unset] [(.int (1 : Int32))]))
      refine OwnEnd.go (fun _ k => XS.istoreN X1.here hx rfl (hb hby at_29) rfl  (l' := #[.val (.int p1), .val (.int ((p1 &&& (2147483647 : Int32)) % (7 : Int32))), .val (.ref (own_verb ((p1 &&& (2147483647 : Int32)) % (7 : Int32)) a_READ a_WRITE a_SELECT a_INSERT a_DELETE a_COMMIT a_ABORT)), .val (.int (1 : Int32))]) rfl k) ?_
      show OwnEnd p e below s _ _ _ (T1.setTop (mkF m 30 #[.val (.int p1), .val (.int ((p1 &&& (2147483647 : Int32)) % (7 : Int32))), .val (.ref (own_verb ((p1 &&& (2147483647 : Int32)) % (7 : Int32)) a_READ a_WRITE a_SELECT a_INSERT a_DELETE a_COMMIT a_ABORT)), .val (.int (1 : Int32))] []))
      refine OwnEnd.go (fun _ k => XS.aloadN X1.here hx rfl (hb hby at_30) rfl rfl k) ?_
      show OwnEnd p e below s _ _ _ (T1.setTop (mkF m 31 #[.val (.int p1), .val (.int ((p1 &&& (2147483647 : Int32)) % (7 : Int32))), .val (.ref (own_verb ((p1 &&& (2147483647 : Int32)) % (7 : Int32)) a_READ a_WRITE a_SELECT a_INSERT a_DELETE a_COMMIT a_ABORT)), .val (.int (1 : Int32))] [(.ref (own_verb ((p1 &&& (2147483647 : Int32)) % (7 : Int32)) a_READ a_WRITE a_SELECT a_INSERT a_DELETE a_COMMIT a_ABORT))]))
      obtain ⟨_, T5, L5, X5, hQ5, st5⟩ := ownCallV X1 hx hZ hown ww8 ww9 ww11 ww10 ww6 ww12 (by decide) (rm2 l Z a0 hw [] (own_verb ((p1 &&& (2147483647 : Int32)) % (7 : Int32)) a_READ a_WRITE a_SELECT a_INSERT a_DELETE a_COMMIT a_ABORT) a_COMMIT a_ABORT h0 n0 Z0 O0 S_COMMIT S_ABORT) e1 E_v 0 (by decide) (by decide) (by decide) (by decide) (g := (mkF m 31 #[.val (.int p1), .val (.int ((p1 &&& (2147483647 : Int32)) % (7 : Int32))), .val (.ref (own_verb ((p1 &&& (2147483647 : Int32)) % (7 : Int32)) a_READ a_WRITE a_SELECT a_INSERT a_DELETE a_COMMIT a_ABORT)), .val (.int (1 : Int32))] [(.ref (own_verb ((p1 &&& (2147483647 : Int32)) % (7 : Int32)) a_READ a_WRITE a_SELECT a_INSERT a_DELETE a_COMMIT a_ABORT))])) rfl (by rw [hml]; rfl) (argsL := []) (rest := []) (lenOf pd0_1 rfl) rfl rfl (by show 2 * 0 + _ ≤ _; exact Nat.le_of_eq rfl) (hb hby at_31)
      obtain ⟨rfl, N5q, e5⟩ := hQ5
      have N5 := Fr.app N1 N5q
      refine OwnEnd.go (fun _ k => st5 _ k) ?_
      show OwnEnd p e below s _ _ _ (T5.setTop (mkF m 34 #[.val (.int p1), .val (.int ((p1 &&& (2147483647 : Int32)) % (7 : Int32))), .val (.ref (own_verb ((p1 &&& (2147483647 : Int32)) % (7 : Int32)) a_READ a_WRITE a_SELECT a_INSERT a_DELETE a_COMMIT a_ABORT)), .val (.int (1 : Int32))] [(.int (own_eq2 (own_verb ((p1 &&& (2147483647 : Int32)) % (7 : Int32)) a_READ a_WRITE a_SELECT a_INSERT a_DELETE a_COMMIT a_ABORT) a_COMMIT a_ABORT))]))
      refine OwnEnd.go (fun _ k => XS.iloadN X5.here hx rfl (hb hby at_34) rfl  k) ?_
      show OwnEnd p e below s _ _ _ (T5.setTop (mkF m 35 #[.val (.int p1), .val (.int ((p1 &&& (2147483647 : Int32)) % (7 : Int32))), .val (.ref (own_verb ((p1 &&& (2147483647 : Int32)) % (7 : Int32)) a_READ a_WRITE a_SELECT a_INSERT a_DELETE a_COMMIT a_ABORT)), .val (.int (1 : Int32))] [(.int (1 : Int32)), (.int (own_eq2 (own_verb ((p1 &&& (2147483647 : Int32)) % (7 : Int32)) a_READ a_WRITE a_SELECT a_INSERT a_DELETE a_COMMIT a_ABORT) a_COMMIT a_ABORT))]))
      refine OwnEnd.go (fun _ k => XS.icmpNo X5.here hx rfl (hb hby at_35) rfl (teq (own_m3_6 a_READ a_WRITE a_SELECT a_INSERT a_DELETE a_COMMIT a_ABORT hc4)).2 k) ?_
      show OwnEnd p e below s _ _ _ (T5.setTop (mkF m 38 #[.val (.int p1), .val (.int ((p1 &&& (2147483647 : Int32)) % (7 : Int32))), .val (.ref (own_verb ((p1 &&& (2147483647 : Int32)) % (7 : Int32)) a_READ a_WRITE a_SELECT a_INSERT a_DELETE a_COMMIT a_ABORT)), .val (.int (1 : Int32))] []))
      refine OwnEnd.go (fun _ k => XS.iconst X5.here hx rfl (hb hby at_38) k) ?_
      show OwnEnd p e below s _ _ _ (T5.setTop (mkF m 39 #[.val (.int p1), .val (.int ((p1 &&& (2147483647 : Int32)) % (7 : Int32))), .val (.ref (own_verb ((p1 &&& (2147483647 : Int32)) % (7 : Int32)) a_READ a_WRITE a_SELECT a_INSERT a_DELETE a_COMMIT a_ABORT)), .val (.int (1 : Int32))] [(.int (1 : Int32))]))
      refine OwnEnd.go (fun _ k => XS.goto X5.here hx rfl (pc0 := 39) (pc' := 43) rfl (hb hby at_39) (by decide) (by decide) k) ?_
      show OwnEnd p e below s _ _ _ (T5.setTop (mkF m 43 #[.val (.int p1), .val (.int ((p1 &&& (2147483647 : Int32)) % (7 : Int32))), .val (.ref (own_verb ((p1 &&& (2147483647 : Int32)) % (7 : Int32)) a_READ a_WRITE a_SELECT a_INSERT a_DELETE a_COMMIT a_ABORT)), .val (.int (1 : Int32))] [(.int (1 : Int32))]))
      refine ownRetZ X5 hx hlk hret (hb hby at_43) (by decide) (by decide) (1 : Int32) (by decide) ?_
      show Q0 Z p1 a_READ a_COMMIT a_ABORT a_INSERT a_DELETE a_SELECT a_WRITE h0 n0 _ T5.heap _
      rw [e5]
      exact ⟨rfl, N5⟩
    · refine OwnEnd.go (fun _ k => XS.icmpYes X1.here hx rfl (pc0 := 21) (pc' := 28) rfl (hb hby at_21) rfl (feq hc4).2 (by decide) (by decide) k) ?_
      show OwnEnd p e below s _ _ _ (T1.setTop (mkF m 28 #[.val (.int p1), .val (.int ((p1 &&& (2147483647 : Int32)) % (7 : Int32))), .val (.ref (own_verb ((p1 &&& (2147483647 : Int32)) % (7 : Int32)) a_READ a_WRITE a_SELECT a_INSERT a_DELETE a_COMMIT a_ABORT)), .unset] []))
      refine OwnEnd.go (fun _ k => XS.iconst X1.here hx rfl (hb hby at_28) k) ?_
      show OwnEnd p e below s _ _ _ (T1.setTop (mkF m 29 #[.val (.int p1), .val (.int ((p1 &&& (2147483647 : Int32)) % (7 : Int32))), .val (.ref (own_verb ((p1 &&& (2147483647 : Int32)) % (7 : Int32)) a_READ a_WRITE a_SELECT a_INSERT a_DELETE a_COMMIT a_ABORT)), .unset] [(.int (0 : Int32))]))
      refine OwnEnd.go (fun _ k => XS.istoreN X1.here hx rfl (hb hby at_29) rfl  (l' := #[.val (.int p1), .val (.int ((p1 &&& (2147483647 : Int32)) % (7 : Int32))), .val (.ref (own_verb ((p1 &&& (2147483647 : Int32)) % (7 : Int32)) a_READ a_WRITE a_SELECT a_INSERT a_DELETE a_COMMIT a_ABORT)), .val (.int (0 : Int32))]) rfl k) ?_
      show OwnEnd p e below s _ _ _ (T1.setTop (mkF m 30 #[.val (.int p1), .val (.int ((p1 &&& (2147483647 : Int32)) % (7 : Int32))), .val (.ref (own_verb ((p1 &&& (2147483647 : Int32)) % (7 : Int32)) a_READ a_WRITE a_SELECT a_INSERT a_DELETE a_COMMIT a_ABORT)), .val (.int (0 : Int32))] []))
      refine OwnEnd.go (fun _ k => XS.aloadN X1.here hx rfl (hb hby at_30) rfl rfl k) ?_
      show OwnEnd p e below s _ _ _ (T1.setTop (mkF m 31 #[.val (.int p1), .val (.int ((p1 &&& (2147483647 : Int32)) % (7 : Int32))), .val (.ref (own_verb ((p1 &&& (2147483647 : Int32)) % (7 : Int32)) a_READ a_WRITE a_SELECT a_INSERT a_DELETE a_COMMIT a_ABORT)), .val (.int (0 : Int32))] [(.ref (own_verb ((p1 &&& (2147483647 : Int32)) % (7 : Int32)) a_READ a_WRITE a_SELECT a_INSERT a_DELETE a_COMMIT a_ABORT))]))
      obtain ⟨_, T6, L6, X6, hQ6, st6⟩ := ownCallV X1 hx hZ hown ww8 ww9 ww11 ww10 ww6 ww12 (by decide) (rm2 l Z a0 hw [] (own_verb ((p1 &&& (2147483647 : Int32)) % (7 : Int32)) a_READ a_WRITE a_SELECT a_INSERT a_DELETE a_COMMIT a_ABORT) a_COMMIT a_ABORT h0 n0 Z0 O0 S_COMMIT S_ABORT) e1 E_v 0 (by decide) (by decide) (by decide) (by decide) (g := (mkF m 31 #[.val (.int p1), .val (.int ((p1 &&& (2147483647 : Int32)) % (7 : Int32))), .val (.ref (own_verb ((p1 &&& (2147483647 : Int32)) % (7 : Int32)) a_READ a_WRITE a_SELECT a_INSERT a_DELETE a_COMMIT a_ABORT)), .val (.int (0 : Int32))] [(.ref (own_verb ((p1 &&& (2147483647 : Int32)) % (7 : Int32)) a_READ a_WRITE a_SELECT a_INSERT a_DELETE a_COMMIT a_ABORT))])) rfl (by rw [hml]; rfl) (argsL := []) (rest := []) (lenOf pd0_1 rfl) rfl rfl (by show 2 * 0 + _ ≤ _; exact Nat.le_of_eq rfl) (hb hby at_31)
      obtain ⟨rfl, N6q, e6⟩ := hQ6
      have N6 := Fr.app N1 N6q
      refine OwnEnd.go (fun _ k => st6 _ k) ?_
      show OwnEnd p e below s _ _ _ (T6.setTop (mkF m 34 #[.val (.int p1), .val (.int ((p1 &&& (2147483647 : Int32)) % (7 : Int32))), .val (.ref (own_verb ((p1 &&& (2147483647 : Int32)) % (7 : Int32)) a_READ a_WRITE a_SELECT a_INSERT a_DELETE a_COMMIT a_ABORT)), .val (.int (0 : Int32))] [(.int (own_eq2 (own_verb ((p1 &&& (2147483647 : Int32)) % (7 : Int32)) a_READ a_WRITE a_SELECT a_INSERT a_DELETE a_COMMIT a_ABORT) a_COMMIT a_ABORT))]))
      refine OwnEnd.go (fun _ k => XS.iloadN X6.here hx rfl (hb hby at_34) rfl  k) ?_
      show OwnEnd p e below s _ _ _ (T6.setTop (mkF m 35 #[.val (.int p1), .val (.int ((p1 &&& (2147483647 : Int32)) % (7 : Int32))), .val (.ref (own_verb ((p1 &&& (2147483647 : Int32)) % (7 : Int32)) a_READ a_WRITE a_SELECT a_INSERT a_DELETE a_COMMIT a_ABORT)), .val (.int (0 : Int32))] [(.int (0 : Int32)), (.int (own_eq2 (own_verb ((p1 &&& (2147483647 : Int32)) % (7 : Int32)) a_READ a_WRITE a_SELECT a_INSERT a_DELETE a_COMMIT a_ABORT) a_COMMIT a_ABORT))]))
      refine OwnEnd.go (fun _ k => XS.icmpNo X6.here hx rfl (hb hby at_35) rfl (teq (own_m3_0 p1 hc2 hc4 n_READ_COMMIT n_READ_ABORT n_WRITE_COMMIT n_WRITE_ABORT n_SELECT_COMMIT n_SELECT_ABORT n_INSERT_COMMIT n_INSERT_ABORT n_DELETE_COMMIT n_DELETE_ABORT)).2 k) ?_
      show OwnEnd p e below s _ _ _ (T6.setTop (mkF m 38 #[.val (.int p1), .val (.int ((p1 &&& (2147483647 : Int32)) % (7 : Int32))), .val (.ref (own_verb ((p1 &&& (2147483647 : Int32)) % (7 : Int32)) a_READ a_WRITE a_SELECT a_INSERT a_DELETE a_COMMIT a_ABORT)), .val (.int (0 : Int32))] []))
      refine OwnEnd.go (fun _ k => XS.iconst X6.here hx rfl (hb hby at_38) k) ?_
      show OwnEnd p e below s _ _ _ (T6.setTop (mkF m 39 #[.val (.int p1), .val (.int ((p1 &&& (2147483647 : Int32)) % (7 : Int32))), .val (.ref (own_verb ((p1 &&& (2147483647 : Int32)) % (7 : Int32)) a_READ a_WRITE a_SELECT a_INSERT a_DELETE a_COMMIT a_ABORT)), .val (.int (0 : Int32))] [(.int (1 : Int32))]))
      refine OwnEnd.go (fun _ k => XS.goto X6.here hx rfl (pc0 := 39) (pc' := 43) rfl (hb hby at_39) (by decide) (by decide) k) ?_
      show OwnEnd p e below s _ _ _ (T6.setTop (mkF m 43 #[.val (.int p1), .val (.int ((p1 &&& (2147483647 : Int32)) % (7 : Int32))), .val (.ref (own_verb ((p1 &&& (2147483647 : Int32)) % (7 : Int32)) a_READ a_WRITE a_SELECT a_INSERT a_DELETE a_COMMIT a_ABORT)), .val (.int (0 : Int32))] [(.int (1 : Int32))]))
      refine ownRetZ X6 hx hlk hret (hb hby at_43) (by decide) (by decide) (1 : Int32) (by decide) ?_
      show Q0 Z p1 a_READ a_COMMIT a_ABORT a_INSERT a_DELETE a_SELECT a_WRITE h0 n0 _ T6.heap _
      rw [e6]
      exact ⟨rfl, N6⟩
set_option maxRecDepth 65536 in
set_option maxHeartbeats 40000000 in
theorem comes_1 {Post : Tables → Env → Array Value → State → Outcome → State → Prop} (hpost : ∀ tb e args s v u, (limb_1_1.after args s (.returned v) u = true ∧ limb_1_2.after args s (.returned v) u = true ∧ True) → FrameEnd s (.returned v) u (Jvm.fieldLocs frame_1_writes args s ++ Jvm.arrayLocs frame_1_arrays args s ++ Jvm.staticLocs frame_1_statics s) 0 0 → Post tb e args s (.returned v) u) :
    ArmFor flags0 classFile x code maxLocals ret World_1 tables_1 room_1 Calls_1 rest_1 Pre_1 Post := by
  intro l hfl _ _ p e ha hc hk s m args below hf hA hF happ hP
  obtain ⟨hcalls, hrest, hpre⟩ := hP
  obtain ⟨-, -, -, hnamed, -, -, -, hat⟩ := (Spec.applies_iff hf).mp happ
  obtain ⟨hg, hn⟩ := and_e (Cond.before_iff.mp (show (Jvm.Cond.and given_1 narrow_1).before args s = true from hpre))
  obtain ⟨hcount, hg⟩ := and_e hg
  have hv0 := hg
  obtain ⟨w0, rfl⟩ : ∃ w0 : Value, args = #[w0] := by
    have hs : args.size = 1 := by simpa [Cond.value, given_1] using hcount
    obtain ⟨L⟩ := args
    match L, hs with
    | [w0], _ => exact ⟨w0, rfl⟩
  have hw := fun d (hd : d ∈ tables_1) => atoms_spec (ws := Jvm.Cond.code x code maxLocals ret :: tables_1) hat d (List.mem_cons_of_mem _ hd)
  have hfit : Fit s := fun {y c} hc i hi => by
    obtain ⟨ha, rfl⟩ := Array.getElem?_eq_some_iff.mp hc
    have q := List.all_eq_true.mp ((Array.all_eq_true_iff_forall_mem.mp hF) _ (Array.getElem_mem ha)) i (List.mem_range.mpr hi)
    simpa [Array.getElem?_eq_getElem hi] using q
  obtain ⟨i0, ei0⟩ := is_v hv0
  obtain rfl : w0 = (.int i0) := Option.some.inj ei0
  have ww6 := hw _ (List.mem_of_getElem? (i := 6) rfl)
  have ww7 := hw _ (List.mem_of_getElem? (i := 7) rfl)
  have ww14 := hw _ (List.mem_of_getElem? (i := 14) rfl)
  have ww16 := hw _ (List.mem_of_getElem? (i := 16) rfl)
  have ww18 := hw _ (List.mem_of_getElem? (i := 18) rfl)
  have ww22 := hw _ (List.mem_of_getElem? (i := 22) rfl)
  have ww24 := hw _ (List.mem_of_getElem? (i := 24) rfl)
  have ww26 := hw _ (List.mem_of_getElem? (i := 26) rfl)
  obtain ⟨na1, nb1⟩ := and_e hn
  obtain ⟨na2, nb2⟩ := and_e nb1
  obtain ⟨na3, nb3⟩ := and_e nb2
  obtain ⟨na4, nb4⟩ := and_e nb3
  obtain ⟨na5, nb5⟩ := and_e nb4
  obtain ⟨na6, nb6⟩ := and_e nb5
  obtain ⟨na7, nb7⟩ := and_e nb6
  obtain ⟨na8, nb8⟩ := and_e nb7
  obtain ⟨na9, nb9⟩ := and_e nb8
  obtain ⟨na10, nb10⟩ := and_e nb9
  obtain ⟨na11, nb11⟩ := and_e nb10
  obtain ⟨na12, nb12⟩ := and_e nb11
  obtain ⟨na13, nb13⟩ := and_e nb12
  obtain ⟨a_READ, ev_READ⟩ := exa_v na1
  have E_READ := Exa.start ev_READ na1
  have S_READ := Sta.start ev_READ (Or.inr ⟨ww6, ww7⟩)
  obtain ⟨a_COMMIT, ev_COMMIT⟩ := exa_v na2
  have E_COMMIT := Exa.start ev_COMMIT na2
  have S_COMMIT := Sta.start ev_COMMIT (Or.inr ⟨ww6, ww14⟩)
  obtain ⟨a_ABORT, ev_ABORT⟩ := exa_v na5
  have E_ABORT := Exa.start ev_ABORT na5
  have S_ABORT := Sta.start ev_ABORT (Or.inr ⟨ww6, ww16⟩)
  obtain ⟨a_INSERT, ev_INSERT⟩ := exa_v na7
  have E_INSERT := Exa.start ev_INSERT na7
  have S_INSERT := Sta.start ev_INSERT (Or.inr ⟨ww6, ww18⟩)
  obtain ⟨a_DELETE, ev_DELETE⟩ := exa_v na9
  have E_DELETE := Exa.start ev_DELETE na9
  have S_DELETE := Sta.start ev_DELETE (Or.inr ⟨ww6, ww22⟩)
  obtain ⟨a_SELECT, ev_SELECT⟩ := exa_v na11
  have E_SELECT := Exa.start ev_SELECT na11
  have S_SELECT := Sta.start ev_SELECT (Or.inr ⟨ww6, ww24⟩)
  obtain ⟨a_WRITE, ev_WRITE⟩ := exa_v na13
  have E_WRITE := Exa.start ev_WRITE na13
  have S_WRITE := Sta.start ev_WRITE (Or.inr ⟨ww6, ww26⟩)
  have D_READ : Fld s s.heap a_READ "java/lang/Enum" "ordinal" "I" (.int (0 : Int32)) := ownOrd ev_READ na3
  have D_COMMIT : Fld s s.heap a_COMMIT "java/lang/Enum" "ordinal" "I" (.int (5 : Int32)) := ownOrd ev_COMMIT na4
  have D_ABORT : Fld s s.heap a_ABORT "java/lang/Enum" "ordinal" "I" (.int (6 : Int32)) := ownOrd ev_ABORT na6
  have D_INSERT : Fld s s.heap a_INSERT "java/lang/Enum" "ordinal" "I" (.int (3 : Int32)) := ownOrd ev_INSERT na8
  have D_DELETE : Fld s s.heap a_DELETE "java/lang/Enum" "ordinal" "I" (.int (4 : Int32)) := ownOrd ev_DELETE na10
  have D_SELECT : Fld s s.heap a_SELECT "java/lang/Enum" "ordinal" "I" (.int (2 : Int32)) := ownOrd ev_SELECT na12
  have D_WRITE : Fld s s.heap a_WRITE "java/lang/Enum" "ordinal" "I" (.int (1 : Int32)) := ownOrd ev_WRITE nb13
  have n_READ_COMMIT : a_READ ≠ a_COMMIT := Fld.ne D_READ D_COMMIT (by decide)
  have n_READ_ABORT : a_READ ≠ a_ABORT := Fld.ne D_READ D_ABORT (by decide)
  have n_COMMIT_ABORT : a_COMMIT ≠ a_ABORT := Fld.ne D_COMMIT D_ABORT (by decide)
  have n_INSERT_COMMIT : a_INSERT ≠ a_COMMIT := Fld.ne D_INSERT D_COMMIT (by decide)
  have n_INSERT_ABORT : a_INSERT ≠ a_ABORT := Fld.ne D_INSERT D_ABORT (by decide)
  have n_DELETE_COMMIT : a_DELETE ≠ a_COMMIT := Fld.ne D_DELETE D_COMMIT (by decide)
  have n_DELETE_ABORT : a_DELETE ≠ a_ABORT := Fld.ne D_DELETE D_ABORT (by decide)
  have n_SELECT_COMMIT : a_SELECT ≠ a_COMMIT := Fld.ne D_SELECT D_COMMIT (by decide)
  have n_SELECT_ABORT : a_SELECT ≠ a_ABORT := Fld.ne D_SELECT D_ABORT (by decide)
  have n_WRITE_COMMIT : a_WRITE ≠ a_COMMIT := Fld.ne D_WRITE D_COMMIT (by decide)
  have n_WRITE_ABORT : a_WRITE ≠ a_ABORT := Fld.ne D_WRITE D_ABORT (by decide)
  obtain ⟨n, o, h1, h2, h3, _, L, rfl, ⟨rfl, N⟩, hq⟩ := rm0 l s _ hw tables_1 i0 a_READ a_COMMIT a_ABORT a_INSERT a_DELETE a_SELECT a_WRITE s.heap s.heap.size (Nat.le_refl _) (Old.start s) S_READ S_COMMIT S_ABORT S_INSERT S_DELETE S_SELECT S_WRITE E_READ E_COMMIT E_ABORT E_INSERT E_DELETE E_SELECT E_WRITE n_READ_COMMIT n_READ_ABORT n_COMMIT_ABORT n_INSERT_COMMIT n_INSERT_ABORT n_DELETE_COMMIT n_DELETE_ABORT n_SELECT_COMMIT n_SELECT_ABORT n_WRITE_COMMIT n_WRITE_ABORT p e ha hc hk s m _ below hf ((Spec.applies_iff_loose hf).mp happ).1 ⟨rfl, State.Warmed39.refl s, rfl⟩ trivial
  refine ⟨n, _, h1, h2, h3, hpost _ _ _ _ _ _ ⟨Cond.after_iff.mpr rfl, Cond.after_iff.mpr (eq_i res_at (Term.int_eval (1)) rfl), trivial⟩ ⟨hq.1, hq.2.1, (hq.2.2.sift fun y hy => Or.inr (N y hy)).mono (by decide) (by decide)⟩⟩
theorem main_1_1 : Claimed_1_1 := comes_1 fun _ _ _ _ _ _ h hF => ⟨h.1, hF⟩
theorem main_1_2 : Claimed_1_2 := comes_1 fun _ _ _ _ _ _ h hF => ⟨h.2.1, hF⟩
end Jvm.Pilot.@@N@@
namespace Jvm.Pilot.@@N@@
open Jvm Jvm.ClassFile Sem Op Lib Jvm.Free Jvm.Stand Jvm.Pilot.@@N@@.Jvm.D
/-! MADE BY PROGRAM (witnessworld.py) out of the Statement's table words and the real class files: 12 classes; the members and pool entries that the words name. The judged class is class 1, her method 2. -/
namespace start1
open Jvm.ClassFile
def u (s : String) : CpInfo := .utf8 (stringToUtf16 s)
/-- a pool by its gaps: so many unusable entries, then the entry; so many at the end -/
def gap : Nat → List CpInfo → List CpInfo
  | 0, r => r
  | n + 1, r => .unusable :: gap n r
def poolList (es : List (Nat × CpInfo)) (last : Nat) : List CpInfo := es.foldr (fun e r => gap e.1 (e.2 :: r)) (gap last [])
def pool (es : List (Nat × CpInfo)) (last : Nat) : Array CpInfo := ⟨poolList es last⟩
def fileOf (pool : Array CpInfo) (this : Nat) (attrs : Array Attribute := #[]) (ms : Array MethodInfo := #[]) (fl : Nat := 33) (sup : Nat := 0) (ifs : Array Nat := #[]) (fds : Array FieldInfo := #[]) : ClassFile where
  minorVersion := 0
  majorVersion := 65
  constantPool := pool
  accessFlags := fl
  thisClass := this
  superClass := sup
  interfaces := ifs
  fields := fds
  methods := ms
  attributes := attrs
def plain (name : String) (sup : Option ClassId) : Class where
  name := name
  kind := .ordinary
  loader := none
  accessFlags := 33
  super := sup
  interfaces := #[]
  cf := none
  fields := #[]
  methods := #[]
  instanceTypes := #[]
  staticTypes := #[]
  resolved := #[]
  callSites := []
  init := .initialized
  statics := none
  mirror := none

def pool0 : Array CpInfo := pool [(5, u "<init>"), (0, u "()V"), (1, .class_ 10), (1, u "java/lang/Object")] 113

def k0m0 : Method := { name := "<init>", desc := "()V", sig := { parameters := [], returnType := none }, accessFlags := 1, code := none }
/-- java/lang/Object -/
def k0 : Class := { plain "java/lang/Object" none with
  accessFlags := 33
  interfaces := #[]
  cf := some (fileOf pool0 8 #[] #[{ accessFlags := 1, nameIndex := 5, descriptorIndex := 6, attributes := #[] }] 33 0 #[] #[])
  fields := #[]
  methods := #[k0m0]
  instanceTypes := #[]
  staticTypes := #[]
  resolved := Array.replicate 124 none
  statics := none }

def pool1 : Array CpInfo := pool [(2, .class_ 4), (1, u "java/lang/Object"), (0, u "<init>"), (0, u "()V"), (0, .fieldref 8 9), (0, .class_ 10), (0, .nameAndType 11 12), (0, u "com/example/isolation_anomaly_finder/isolationanomalyfinder/ScenarioStep$Verb"), (0, u "READ"), (0, u "Lcom/example/isolation_anomaly_finder/isolationanomalyfinder/ScenarioStep$Verb;"), (0, .fieldref 8 14), (0, .nameAndType 15 12), (0, u "WRITE"), (0, .fieldref 8 17), (0, .nameAndType 18 12), (0, u "SELECT"), (0, .fieldref 8 20), (0, .nameAndType 21 12), (0, u "INSERT"), (0, .fieldref 8 23), (0, .nameAndType 24 12), (0, u "DELETE"), (0, .fieldref 8 26), (0, .nameAndType 27 12), (0, u "COMMIT"), (0, .fieldref 8 29), (0, .nameAndType 30 12), (0, u "ABORT"), (0, .integer 2147483647), (0, .methodref 33 34), (0, .class_ 35), (0, .nameAndType 36 37), (0, u "com/example/isolation_anomaly_finder/isolationanomalyfinder/VerbEndsTransactionPinLaw"), (0, u "verbAt"), (0, u "(I)Lcom/example/isolation_anomaly_finder/isolationanomalyfinder/ScenarioStep$Verb;"), (0, .methodref 8 39), (0, .nameAndType 40 41), (0, u "endsTransaction"), (0, u "()Z"), (3, u "law"), (0, u "(I)Z")] 6

def k1m0 : Method := { name := "<init>", desc := "()V", sig := { parameters := [], returnType := none }, accessFlags := 2, code := none }
def k1c1 : Code := { maxStack := 2, maxLocals := 1, code := method_2_code, exceptionTable := #[], attributes := #[] }
def k1m1 : Method := { name := "verbAt", desc := "(I)Lcom/example/isolation_anomaly_finder/isolationanomalyfinder/ScenarioStep$Verb;", sig := { parameters := [.int], returnType := some (.object "com/example/isolation_anomaly_finder/isolationanomalyfinder/ScenarioStep$Verb") }, accessFlags := 10, code := some k1c1 }
def k1c2 : Code := { maxStack := 2, maxLocals := 4, code := code, exceptionTable := #[], attributes := #[] }
def k1m2 : Method := { name := "law", desc := "(I)Z", sig := { parameters := [.int], returnType := some .boolean }, accessFlags := 9, code := some k1c2 }
/-- com/example/isolation_anomaly_finder/isolationanomalyfinder/VerbEndsTransactionPinLaw -/
def k1 : Class := { plain "com/example/isolation_anomaly_finder/isolationanomalyfinder/VerbEndsTransactionPinLaw" (some 0) with
  accessFlags := 49
  interfaces := #[]
  cf := some (fileOf pool1 33 #[] #[{ accessFlags := 2, nameIndex := 5, descriptorIndex := 6, attributes := #[] }, { accessFlags := 10, nameIndex := 36, descriptorIndex := 37, attributes := #[] }, { accessFlags := 9, nameIndex := 45, descriptorIndex := 46, attributes := #[] }] 49 2 #[] #[])
  fields := #[]
  methods := #[k1m0, k1m1, k1m2]
  instanceTypes := #[]
  staticTypes := #[]
  resolved := Array.replicate 53 none
  statics := none }

def pool2 : Array CpInfo := pool [(1, .class_ 2), (0, u "java/lang/constant/Constable"), (0, .class_ 4), (0, u "java/lang/Object")] 6

/-- java/lang/constant/Constable -/
def k2 : Class := { plain "java/lang/constant/Constable" (some 0) with
  accessFlags := 1537
  interfaces := #[]
  cf := some (fileOf pool2 1 #[] #[] 1537 3 #[] #[])
  fields := #[]
  methods := #[]
  instanceTypes := #[]
  staticTypes := #[]
  resolved := Array.replicate 11 none
  statics := none }

def pool3 : Array CpInfo := pool [(1, .class_ 2), (0, u "java/lang/Comparable"), (0, .class_ 4), (0, u "java/lang/Object")] 7

/-- java/lang/Comparable -/
def k3 : Class := { plain "java/lang/Comparable" (some 0) with
  accessFlags := 1537
  interfaces := #[]
  cf := some (fileOf pool3 1 #[] #[] 1537 3 #[] #[])
  fields := #[]
  methods := #[]
  instanceTypes := #[]
  staticTypes := #[]
  resolved := Array.replicate 12 none
  statics := none }

def pool4 : Array CpInfo := pool [(1, .class_ 2), (0, u "java/io/Serializable"), (0, .class_ 4), (0, u "java/lang/Object")] 2

/-- java/io/Serializable -/
def k4 : Class := { plain "java/io/Serializable" (some 0) with
  accessFlags := 1537
  interfaces := #[]
  cf := some (fileOf pool4 1 #[] #[] 1537 3 #[] #[])
  fields := #[]
  methods := #[]
  instanceTypes := #[]
  staticTypes := #[]
  resolved := Array.replicate 7 none
  statics := none }

def pool5 : Array CpInfo := pool [(2, .class_ 4), (1, u "java/lang/Enum"), (0, u "name"), (0, u "Ljava/lang/String;"), (2, u "ordinal"), (0, u "I"), (1, .class_ 14), (1, u "java/lang/Object"), (4, u "hash"), (86, .class_ 108), (1, u "java/lang/Enum$EnumDesc"), (2, .class_ 112), (0, u "java/lang/constant/Constable"), (0, .class_ 114), (0, u "java/lang/Comparable"), (0, .class_ 116), (0, u "java/io/Serializable")] 87

/-- java/lang/Enum -/
def k5 : Class := { plain "java/lang/Enum" (some 0) with
  accessFlags := 1057
  interfaces := #[2, 3, 4]
  cf := some (fileOf pool5 2 #[.nestMembers #[106]] #[] 1057 12 #[111, 113, 115] #[{ accessFlags := 18, nameIndex := 5, descriptorIndex := 6, attributes := #[] }, { accessFlags := 18, nameIndex := 9, descriptorIndex := 10, attributes := #[] }, { accessFlags := 2, nameIndex := 19, descriptorIndex := 10, attributes := #[] }])
  fields := #[{ name := "name", type := (.object "java/lang/String"), accessFlags := 18, slot := 0, constantValue := 0 }, { name := "ordinal", type := .int, accessFlags := 18, slot := 1, constantValue := 0 }, { name := "hash", type := .int, accessFlags := 2, slot := 2, constantValue := 0 }]
  methods := #[]
  instanceTypes := #[(.object "java/lang/String"), .int, .int]
  staticTypes := #[]
  resolved := Array.replicate 204 none
  statics := none }

def pool6 : Array CpInfo := pool [(1, .class_ 2), (0, u "com/example/isolation_anomaly_finder/isolationanomalyfinder/ScenarioStep$Verb"), (2, u "READ"), (0, u "Lcom/example/isolation_anomaly_finder/isolationanomalyfinder/ScenarioStep$Verb;"), (2, u "WRITE"), (2, u "SELECT"), (2, u "INSERT"), (2, u "DELETE"), (0, .fieldref 1 20), (0, .nameAndType 21 6), (0, u "COMMIT"), (0, .fieldref 1 23), (0, .nameAndType 24 6), (0, u "ABORT"), (2, u "$VALUES"), (0, u "[Lcom/example/isolation_anomaly_finder/isolationanomalyfinder/ScenarioStep$Verb;"), (6, .class_ 37), (1, u "java/lang/Enum"), (8, u "word"), (0, u "Ljava/lang/String;"), (2, u "operands"), (5, u "()Z"), (59, u "endsTransaction"), (8, .class_ 126), (0, u "com/example/isolation_anomaly_finder/isolationanomalyfinder/ScenarioStep")] 18

def k6c0 : Code := { maxStack := 2, maxLocals := 1, code := prog_67_method_6_code, exceptionTable := #[], attributes := #[] }
def k6m0 : Method := { name := "endsTransaction", desc := "()Z", sig := { parameters := [], returnType := some .boolean }, accessFlags := 0, code := some k6c0 }
/-- com/example/isolation_anomaly_finder/isolationanomalyfinder/ScenarioStep$Verb -/
def k6 : Class := { plain "com/example/isolation_anomaly_finder/isolationanomalyfinder/ScenarioStep$Verb" (some 5) with
  accessFlags := 16432
  interfaces := #[]
  cf := some (fileOf pool6 1 #[.nestHost 125] #[{ accessFlags := 0, nameIndex := 116, descriptorIndex := 56, attributes := #[] }] 16432 35 #[] #[{ accessFlags := 16409, nameIndex := 5, descriptorIndex := 6, attributes := #[] }, { accessFlags := 16409, nameIndex := 9, descriptorIndex := 6, attributes := #[] }, { accessFlags := 16409, nameIndex := 12, descriptorIndex := 6, attributes := #[] }, { accessFlags := 16409, nameIndex := 15, descriptorIndex := 6, attributes := #[] }, { accessFlags := 16409, nameIndex := 18, descriptorIndex := 6, attributes := #[] }, { accessFlags := 16409, nameIndex := 21, descriptorIndex := 6, attributes := #[] }, { accessFlags := 16409, nameIndex := 24, descriptorIndex := 6, attributes := #[] }, { accessFlags := 18, nameIndex := 46, descriptorIndex := 47, attributes := #[] }, { accessFlags := 18, nameIndex := 50, descriptorIndex := 47, attributes := #[] }, { accessFlags := 4122, nameIndex := 27, descriptorIndex := 28, attributes := #[] }])
  fields := #[{ name := "READ", type := (.object "com/example/isolation_anomaly_finder/isolationanomalyfinder/ScenarioStep$Verb"), accessFlags := 16409, slot := 0, constantValue := 0 }, { name := "WRITE", type := (.object "com/example/isolation_anomaly_finder/isolationanomalyfinder/ScenarioStep$Verb"), accessFlags := 16409, slot := 1, constantValue := 0 }, { name := "SELECT", type := (.object "com/example/isolation_anomaly_finder/isolationanomalyfinder/ScenarioStep$Verb"), accessFlags := 16409, slot := 2, constantValue := 0 }, { name := "INSERT", type := (.object "com/example/isolation_anomaly_finder/isolationanomalyfinder/ScenarioStep$Verb"), accessFlags := 16409, slot := 3, constantValue := 0 }, { name := "DELETE", type := (.object "com/example/isolation_anomaly_finder/isolationanomalyfinder/ScenarioStep$Verb"), accessFlags := 16409, slot := 4, constantValue := 0 }, { name := "COMMIT", type := (.object "com/example/isolation_anomaly_finder/isolationanomalyfinder/ScenarioStep$Verb"), accessFlags := 16409, slot := 5, constantValue := 0 }, { name := "ABORT", type := (.object "com/example/isolation_anomaly_finder/isolationanomalyfinder/ScenarioStep$Verb"), accessFlags := 16409, slot := 6, constantValue := 0 }, { name := "word", type := (.object "java/lang/String"), accessFlags := 18, slot := 3, constantValue := 0 }, { name := "operands", type := (.object "java/lang/String"), accessFlags := 18, slot := 4, constantValue := 0 }, { name := "$VALUES", type := (.array (.object "com/example/isolation_anomaly_finder/isolationanomalyfinder/ScenarioStep$Verb")), accessFlags := 4122, slot := 7, constantValue := 0 }]
  methods := #[k6m0]
  instanceTypes := #[(.object "java/lang/String"), .int, .int, (.object "java/lang/String"), (.object "java/lang/String")]
  staticTypes := #[(.object "com/example/isolation_anomaly_finder/isolationanomalyfinder/ScenarioStep$Verb"), (.object "com/example/isolation_anomaly_finder/isolationanomalyfinder/ScenarioStep$Verb"), (.object "com/example/isolation_anomaly_finder/isolationanomalyfinder/ScenarioStep$Verb"), (.object "com/example/isolation_anomaly_finder/isolationanomalyfinder/ScenarioStep$Verb"), (.object "com/example/isolation_anomaly_finder/isolationanomalyfinder/ScenarioStep$Verb"), (.object "com/example/isolation_anomaly_finder/isolationanomalyfinder/ScenarioStep$Verb"), (.object "com/example/isolation_anomaly_finder/isolationanomalyfinder/ScenarioStep$Verb"), (.array (.object "com/example/isolation_anomaly_finder/isolationanomalyfinder/ScenarioStep$Verb"))]
  resolved := Array.replicate 145 none
  statics := some 0 }

def pool7 : Array CpInfo := pool [(1, u "java/lang/Cloneable"), (0, .class_ 1), (0, u "java/lang/Object"), (0, .class_ 3)] 3

/-- java/lang/Cloneable -/
def k7 : Class := { plain "java/lang/Cloneable" (some 0) with
  accessFlags := 1537
  interfaces := #[]
  cf := some (fileOf pool7 2 #[] #[] 1537 4 #[] #[])
  fields := #[]
  methods := #[]
  instanceTypes := #[]
  staticTypes := #[]
  resolved := Array.replicate 8 none
  statics := none }

/-- the primitive byte -/
def k8 : Class := { plain "byte" none with kind := .primitive 'B', accessFlags := 0x411 }
/-- [B -/
def k9 : Class := { plain "[B" (some 0) with kind := .array 8 .byte, interfaces := #[7, 4], accessFlags := 1041 }

/-- the primitive int -/
def k10 : Class := { plain "int" none with kind := .primitive 'I', accessFlags := 0x411 }
/-- [I -/
def k11 : Class := { plain "[I" (some 0) with kind := .array 10 .int, interfaces := #[7, 4], accessFlags := 1041 }

def heap : Heap := #[{ cls := 6, slots := #[.ref 1, .ref 7, .ref 6, .ref 4, .ref 5, .ref 2, .ref 3, .null], vm := .statics 6 },
  { cls := 6, slots := #[.null, .int 0, .int 0, .null, .null], vm := .none },
  { cls := 6, slots := #[.null, .int 5, .int 0, .null, .null], vm := .none },
  { cls := 6, slots := #[.null, .int 6, .int 0, .null, .null], vm := .none },
  { cls := 6, slots := #[.null, .int 3, .int 0, .null, .null], vm := .none },
  { cls := 6, slots := #[.null, .int 4, .int 0, .null, .null], vm := .none },
  { cls := 6, slots := #[.null, .int 2, .int 0, .null, .null], vm := .none },
  { cls := 6, slots := #[.null, .int 1, .int 0, .null, .null], vm := .none }]
def classes : Array Class := #[k0, k1, k2, k3, k4, k5, k6, k7, k8, k9, k10, k11]
def interned : List (Array UInt16 × Addr) := []
def slotsUsed : Nat := 43
def theMethod : MethodId := ⟨1, 2⟩
def args0 : Array Value := #[.int 3]
def aboutOver (below : List Frame) : State where
  vm := { classes := classes, interned := interned.toArray }
  heap := heap
  slotsUsed := slotsUsed
  threads := #[{ frames := .invoking theMethod args0 :: below }]
def below0 : List Frame := [.native { method := ⟨0, 0⟩, args := #[] }]
def about1 : State := aboutOver below0
def p0 : Program := .bare "" "" ""
def e0 : Env := launch0.env 0 0 0
theorem w_frames : about1.frames = Frame.invoking theMethod args0 :: below0 := rfl
set_option maxRecDepth 65536 in
theorem w_args : argsFit about1.vm theMethod args0 = true := by decide +kernel
set_option maxRecDepth 65536 in
theorem w_heap : heapFits about1 = true := by decide +kernel
set_option maxRecDepth 65536 in
theorem w_runnable : about1.curStatus? = some .runnable := by decide +kernel
set_option maxRecDepth 65536 in
theorem w_alone : about1.alone = true := by decide +kernel
set_option maxRecDepth 65536 in
theorem w_named : about1.methodNamed? x = some theMethod := by decide +kernel
set_option maxRecDepth 65536 in
theorem w_hears : about1.hears theMethod below0 = true := by decide +kernel
set_option maxRecDepth 65536 in
theorem w_ripe : about1.ripe theMethod args0 below0 = true := by decide +kernel
theorem w_running : about1.status = .running := rfl
set_option maxRecDepth 65536 in
theorem w_room : about1.hasRoom e0.platform room_1 = true :=
  launch0.hasRoom_least _ room_1 (by decide +kernel) (by decide +kernel) (by decide +kernel) (by decide +kernel) (by decide +kernel) (by decide +kernel)
theorem allAtoms_all (ts : List Jvm.Cond) (a : Array Jvm.Value) (st : Jvm.State) : (allAtoms ts).before a st = ts.all (fun c => c.before a st) := by
  induction ts with
  | nil => rfl
  | cons c t ih =>
    show (Jvm.Cond.and c (allAtoms t)).before a st = _
    rw [Jvm.Cond.before_and, ih, List.all_cons]
def words1 : List Jvm.Cond := Jvm.Cond.code x code maxLocals ret :: tables_1
/-- a 'code' word, met by the world's own term for the bytes: nothing is compared byte by byte -/
theorem code_word {y : MethodName} {bytes : ByteArray} {mx : Nat} {rt : Option FieldType} {a : Array Value} {s : State} {m : MethodId} {meth : Method} {c : Code} (h1 : s.methodNamed? y = some m) (h2 : s.vm.method? m = some meth) (h3 : meth.code = some c) (h4 : c.code = bytes)
    (h5 : (c.maxLocals == mx && c.exceptionTable.isEmpty && decide (c.maxStack ≤ mostOperands) && decide (meth.sig.returnType = rt) && !meth.locks && decide (parseMethodDescriptor y.desc = some meth.sig)) = true) : (Jvm.Cond.code y bytes mx rt).before a s = true := by
  simp only [Bool.and_eq_true, beq_iff_eq, Bool.not_eq_true', decide_eq_true_eq] at h5
  obtain ⟨⟨⟨⟨⟨g1, g2⟩, g3⟩, g4⟩, g5⟩, g6⟩ := h5
  simp [Cond.before, Cond.holds, Cond.value, h1, h2, h3, h4, g1, g2, g3, g4, g5, g6]
def isCode : Jvm.Cond → Bool
  | .code _ _ _ _ => true
  | _ => false
theorem all_split {L : List Jvm.Cond} {P : Jvm.Cond → Bool} (h1 : L.all (fun c => isCode c || P c) = true) (h2 : ∀ c ∈ L.filter isCode, P c = true) : L.all P = true := by
  refine List.all_eq_true.mpr fun c hc => ?_
  have h := List.all_eq_true.mp h1 c hc
  rcases Bool.eq_false_or_eq_true (isCode c) with hi | hi
  · exact h2 c (List.mem_filter.mpr ⟨hc, hi⟩)
  · simpa [hi] using h
set_option maxRecDepth 65536 in
theorem w_c0 : (Jvm.Cond.code x code maxLocals ret).before args0 about1 = true := code_word (m := ⟨1, 2⟩) (meth := k1m2) (c := k1c2) (by decide +kernel) rfl rfl rfl (by decide +kernel)
set_option maxRecDepth 65536 in
theorem w_c1 : (Jvm.Cond.code ({ cls := "com/example/isolation_anomaly_finder/isolationanomalyfinder/VerbEndsTransactionPinLaw", name := "verbAt", desc := "(I)Lcom/example/isolation_anomaly_finder/isolationanomalyfinder/ScenarioStep$Verb;" } : Jvm.MethodName) method_2_code (1 : Nat) (Option.some (Jvm.ClassFile.FieldType.object "com/example/isolation_anomaly_finder/isolationanomalyfinder/ScenarioStep$Verb"))).before args0 about1 = true := code_word (m := ⟨1, 1⟩) (meth := k1m1) (c := k1c1) (by decide +kernel) rfl rfl rfl (by decide +kernel)
set_option maxRecDepth 65536 in
theorem w_c2 : (Jvm.Cond.code ({ cls := "com/example/isolation_anomaly_finder/isolationanomalyfinder/ScenarioStep$Verb", name := "endsTransaction", desc := "()Z" } : Jvm.MethodName) prog_67_method_6_code (1 : Nat) (Option.some Jvm.ClassFile.FieldType.boolean)).before args0 about1 = true := code_word (m := ⟨6, 0⟩) (meth := k6m0) (c := k6c0) (by decide +kernel) rfl rfl rfl (by decide +kernel)
def codes1 : List Jvm.Cond := [Jvm.Cond.code x code maxLocals ret, Jvm.Cond.code ({ cls := "com/example/isolation_anomaly_finder/isolationanomalyfinder/VerbEndsTransactionPinLaw", name := "verbAt", desc := "(I)Lcom/example/isolation_anomaly_finder/isolationanomalyfinder/ScenarioStep$Verb;" } : Jvm.MethodName) method_2_code (1 : Nat) (Option.some (Jvm.ClassFile.FieldType.object "com/example/isolation_anomaly_finder/isolationanomalyfinder/ScenarioStep$Verb")), Jvm.Cond.code ({ cls := "com/example/isolation_anomaly_finder/isolationanomalyfinder/ScenarioStep$Verb", name := "endsTransaction", desc := "()Z" } : Jvm.MethodName) prog_67_method_6_code (1 : Nat) (Option.some Jvm.ClassFile.FieldType.boolean)]
set_option maxRecDepth 65536 in
theorem codes_eq : words1.filter isCode = codes1 := rfl
theorem w_codes : ∀ c ∈ words1.filter isCode, c.before args0 about1 = true := by
  rw [codes_eq]
  intro c hc
  simp only [codes1, List.mem_cons, List.not_mem_nil, or_false] at hc
  rcases hc with rfl | rfl | rfl
  · exact w_c0
  · exact w_c1
  · exact w_c2
set_option maxRecDepth 65536 in
theorem w_t1 : (words1.take 24).all (fun c => isCode c || c.before args0 about1) = true := by decide +kernel
set_option maxRecDepth 65536 in
theorem w_t2 : (words1.drop 24).all (fun c => isCode c || c.before args0 about1) = true := by decide +kernel
theorem w_tables : (allAtoms (Jvm.Cond.code x code maxLocals ret :: tables_1)).before args0 about1 = true := by
  rw [allAtoms_all]
  show words1.all (fun c => c.before args0 about1) = true
  refine all_split ?_ w_codes
  rw [← List.take_append_drop 24 words1, List.all_append, w_t1, w_t2]
  rfl
set_option maxRecDepth 65536 in
theorem w_case : (Jvm.Cond.and given_1 narrow_1).before args0 about1 = true := by decide +kernel
theorem w_applies : (headSpec (Jvm.Cond.code x code maxLocals ret :: tables_1) room_1).applies x e0.platform about1 = true :=
  (Spec.applies_iff w_frames).mpr ⟨w_running, w_runnable, w_alone, w_named, w_hears, w_ripe, w_room, w_tables⟩
theorem atStart : AtStart classFile x code maxLocals ret World_1 tables_1 room_1 Calls_1 rest_1 Pre_1 launch0 p0 e0 about1 theMethod args0 below0 :=
  ⟨lists_1, trivial, launch0.admits_env _ _ _, launch0.least_env, fairChoices_fair.cas, fairChoices_fair.clock, w_frames, w_args, w_heap, w_applies, trivial, trivial, w_case⟩
end start1
theorem witness_1 : WitnessClaimed_1 := ⟨start1.p0, start1.e0, start1.about1, start1.theMethod, start1.args0, start1.below0, start1.atStart⟩
end Jvm.Pilot.@@N@@
