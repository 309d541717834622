import JvmDerived
import JvmDerived.Pilot.@@N@@Statement
import JvmDerived.Pilot.@@N@@Code
set_option linter.unusedVariables false
set_option linter.unusedSimpArgs false
namespace Jvm.Pilot.@@N@@
open Jvm Jvm.ClassFile Sem Op Lib Jvm.Free Jvm.Stand Jvm.LawKit Jvm.RoadKit Bundle Jvm.Pilot.@@N@@.Jvm.D
section Own
variable {p : Program} {l : Launch} {e : Env} {R : Room} {s : State} {m : MethodId} {args : Array Value} {below : List Frame} {meth : Method} {c : Code} {T : State} {locs : List Loc} {cells slots : Nat} {Z : State} {a0 : Array Value} {h : Heap}
/-- the run from A ends by returning, Q holds of what it returned and of the heap, and no more than k cells and n slots are new -/
def OwnEnd (p : Program) (e : Env) (below : List Frame) (s : State) (Q : Option Value → Heap → List Loc → Prop) (k n : Nat) (A : State) : Prop :=
  ∃ t o, Steps p.tables e below A t ∧ t.status = .running ∧ Ended t below o ∧ ∃ v L, o = .returned v ∧ Q v t.heap L ∧ FrameEnd s o t L k n
theorem OwnEnd.go {Q : Option Value → Heap → List Loc → Prop} {k n : Nat} {A B : State} (st : ∀ t, Steps p.tables e below B t → Steps p.tables e below A t) (K : OwnEnd p e below s Q k n B) : OwnEnd p e below s Q k n A := by
  obtain ⟨t, o, h1, h2⟩ := K
  exact ⟨t, o, st t h1, h2⟩
theorem OwnEnd.stop {Q : Option Value → Heap → List Loc → Prop} {k n : Nat} {A : State} (X : Stand p l e R s m args below meth c T locs cells slots) (hlk : meth.locks = false) {v : Option Value} (hv : meth.sig.returnType = none → v = none)
    (st : ∀ fs, (∀ (f : JFrame) (acts : List Action), f.method = m → f.locked = none → f.entered = [] → (doReturn e (T.setTop f) acts v).1 = T.setFrames fs) → Steps p.tables e below A (T.setFrames fs))
    (hk : cells ≤ k) (hn : slots ≤ n) (hQ : Q v T.heap locs) : OwnEnd p e below s Q k n A := by
  obtain ⟨fs, hr, hrun, hended, hW, hsame⟩ := X.leave hv hlk
  exact ⟨_, _, st fs hr, hrun, hended, _, _, rfl, hQ, ⟨_, rfl⟩, hW, hsame.mono hk hn⟩
theorem OwnEnd.weak {Q Q' : Option Value → Heap → List Loc → Prop} {k n : Nat} {A : State} (K : OwnEnd p e below s Q k n A) (q : ∀ v h L, Q v h L → Q' v h L) : OwnEnd p e below s Q' k n A := by
  obtain ⟨t, o, h1, h2, h3, v, L, h4, h5, h6⟩ := K
  exact ⟨t, o, h1, h2, h3, v, L, h4, q _ _ _ h5, h6⟩
/-- the returns -/
theorem ownRetI {Q : Option Value → Heap → List Loc → Prop} {k n : Nat} (X : Stand p l e R s m args below meth c T locs cells slots) (hx : p.tables.exec = Jvm.exec) (hlk : meth.locks = false) {pc : Nat} {Ls : Array Slot} {z : Int32} {rest : List Value} (hret : meth.sig.returnType = some .int) (hd : decode c.code pc = .ok (.ireturn, 1))
    (hk : cells ≤ k) (hn : slots ≤ n) (hQ : Q (some (.int z)) T.heap locs) : OwnEnd p e below s Q k n (T.setTop (mkF m pc Ls (.int z :: rest))) :=
  OwnEnd.stop X hlk (fun q => by rw [hret] at q; cases q) (fun fs hr => retOut X hx hret rfl (Or.inl ⟨rfl, Or.inl rfl, z, rfl⟩) hd hr) hk hn hQ
theorem ownRetZ {Q : Option Value → Heap → List Loc → Prop} {k n : Nat} (X : Stand p l e R s m args below meth c T locs cells slots) (hx : p.tables.exec = Jvm.exec) (hlk : meth.locks = false) {pc : Nat} {Ls : Array Slot} {z : Int32} {rest : List Value} (hret : meth.sig.returnType = some .boolean) (hd : decode c.code pc = .ok (.ireturn, 1))
    (hk : cells ≤ k) (hn : slots ≤ n) (w : Int32) (hw : nar .boolean z = w) (hQ : Q (some (.int w)) T.heap locs) : OwnEnd p e below s Q k n (T.setTop (mkF m pc Ls (.int z :: rest))) :=
  OwnEnd.stop X hlk (fun q => by rw [hret] at q; cases q) (fun fs hr => retN X hx (t := .boolean) hret (by simp) hd (by rw [hw]; exact hr)) hk hn hQ
theorem ownRetJ {Q : Option Value → Heap → List Loc → Prop} {k n : Nat} (X : Stand p l e R s m args below meth c T locs cells slots) (hx : p.tables.exec = Jvm.exec) (hlk : meth.locks = false) {pc : Nat} {Ls : Array Slot} {z : Int64} {rest : List Value} (hret : meth.sig.returnType = some .long) (hd : decode c.code pc = .ok (.lreturn, 1))
    (hk : cells ≤ k) (hn : slots ≤ n) (hQ : Q (some (.long z)) T.heap locs) : OwnEnd p e below s Q k n (T.setTop (mkF m pc Ls (.long z :: rest))) :=
  OwnEnd.stop X hlk (fun q => by rw [hret] at q; cases q) (fun fs hr => retOut X hx hret rfl (Or.inr (Or.inl ⟨rfl, rfl, z, rfl⟩)) hd hr) hk hn hQ
theorem ownRetA {Q : Option Value → Heap → List Loc → Prop} {k n : Nat} (X : Stand p l e R s m args below meth c T locs cells slots) (hx : p.tables.exec = Jvm.exec) (hlk : meth.locks = false) {pc : Nat} {Ls : Array Slot} {w : Value} {rest : List Value} {t : FieldType} (hret : meth.sig.returnType = some t) (ht : t.isReference = true) (hw : w.isRef = true) (hn' : narrow t w = w) (hd : decode c.code pc = .ok (.areturn, 1))
    (hk : cells ≤ k) (hn : slots ≤ n) (hQ : Q (some w) T.heap locs) : OwnEnd p e below s Q k n (T.setTop (mkF m pc Ls (w :: rest))) :=
  OwnEnd.stop X hlk (fun q => by rw [hret] at q; cases q) (fun fs hr => retOut X hx hret hn' (Or.inr (Or.inr (Or.inr (Or.inr ⟨rfl, ht, hw⟩)))) hd hr) hk hn hQ
theorem ownRetV {Q : Option Value → Heap → List Loc → Prop} {k n : Nat} (X : Stand p l e R s m args below meth c T locs cells slots) (hx : p.tables.exec = Jvm.exec) (hlk : meth.locks = false) {pc : Nat} {Ls : Array Slot} (hret : meth.sig.returnType = none) (hd : decode c.code pc = .ok (.return_, 1))
    (hk : cells ≤ k) (hn : slots ≤ n) (hQ : Q none T.heap locs) : OwnEnd p e below s Q k n (T.setTop (mkF m pc Ls [])) :=
  OwnEnd.stop X hlk (fun _ => rfl) (fun fs hr => X.returnOut hx hret hd hr) hk hn hQ
/-- the calls, each by the callee's own theorem -/
theorem ownCallS (X : Stand p l e R s m args below meth c T locs cells slots) (hx : p.tables.exec = Jvm.exec) (hZ : Z.Warmed39 s.vm) {own : String} {index : Nat} {y : MethodName} {bytes : ByteArray} {maxL : Nat} {ret : Option FieldType} {rm : Room} {as' : Array Value} {Q : Option Value → Heap → List Loc → Prop} (hown : s.vm.findClass own = some m.cls)
    (w1 : (Cond.methodLink own index y).before a0 Z = true) (w2 : (Cond.static y).before a0 Z = true) (w3 : (Cond.initialized y.cls).before a0 Z = true) (w4 : (Cond.code y bytes maxL ret).before a0 Z = true) (hy : y.cls ≠ "java/lang/invoke/MethodHandle" ∧ y.cls ≠ "java/lang/invoke/VarHandle")
    (hM : MetFree l y (head1 [Cond.code y bytes maxL ret] rm) (fun a U => a = as' ∧ Z.Warmed39 U.vm ∧ U.heap = h) (fun _ _ _ _ _ => True) (fun _ U o U' => ∃ v L, o = .returned v ∧ Q v U'.heap L ∧ FrameEnd U o U' L rm.cells rm.slots)) (eT : T.heap = h)
    (W : Nat) (hf : rm.frames + 1 ≤ R.frames) (hl : W + (maxL + 11) + rm.locals ≤ R.locals) (hc : cells + rm.cells ≤ R.cells) (hs : slots + rm.slots ≤ R.slots) {g : JFrame} (hg : g.method = m) (hsize : g.locals.size = c.maxLocals) {argsL rest : List Value} (hlen : ∀ sig, parseMethodDescriptor y.desc = some sig → argsL.length = sig.parameters.length)
    (hstack : g.stack = argsL.reverse ++ rest) (has : argsL.toArray = as') (hW : 2 * g.monitorRoom + (rest.map fun v => v.category).sum ≤ W) (hdg : decode c.code g.pc = .ok (.invokestatic index, 3)) :
    ∃ (v : Option Value) (T' : State) (L : List Loc), Stand p l e R s m args below meth c T' (locs ++ L) (cells + rm.cells) (slots + rm.slots) ∧ Q v T'.heap L ∧ ∀ target, Steps p.tables e below (T'.setTop { g with pc := g.pc + 3, stack := v.toList ++ rest }) target → Steps p.tables e below (T.setTop g) target := by
  obtain ⟨v, vm₁, ⟨T', L', k', n'⟩, -, X', ⟨L, hQ, l', y', z'⟩, st⟩ := Jvm.LawKit.callS X hx hown (mvT hZ w1) (mvT hZ w2) (mvT hZ w3) (mvT hZ w4) hy (backOf (W := W) hM hZ w4 w3 hf hl) hg hsize hlen hstack hW hdg (fun _ _ => ⟨has, eT, hc, hs⟩)
  dsimp only [Pt.U, Pt.locs, Pt.cells, Pt.slots] at X' l' y' z' st hQ
  subst l' y' z'
  exact ⟨v, T', L, X', hQ, st⟩
theorem ownCallV (X : Stand p l e R s m args below meth c T locs cells slots) (hx : p.tables.exec = Jvm.exec) (hZ : Z.Warmed39 s.vm) {own C : String} {index : Nat} {y : MethodName} {bytes : ByteArray} {maxL : Nat} {ret : Option FieldType} {rm : Room} {as' : Array Value} {Q : Option Value → Heap → List Loc → Prop} (hown : s.vm.findClass own = some m.cls)
    (w1 : (Cond.methodLink own index y).before a0 Z = true) (w2 : (Cond.declares y).before a0 Z = true) (w5 : (Cond.selects C y y).before a0 Z = true) (w6 : (Cond.instanceMethod y).before a0 Z = true) (w3 : (Cond.initialized y.cls).before a0 Z = true) (w4 : (Cond.code y bytes maxL ret).before a0 Z = true) (hy : y.cls ≠ "java/lang/invoke/MethodHandle" ∧ y.cls ≠ "java/lang/invoke/VarHandle")
    (hM : MetFree l y (head1 [Cond.code y bytes maxL ret] rm) (fun a U => a = as' ∧ Z.Warmed39 U.vm ∧ U.heap = h) (fun _ _ _ _ _ => True) (fun _ U o U' => ∃ v L, o = .returned v ∧ Q v U'.heap L ∧ FrameEnd U o U' L rm.cells rm.slots)) (eT : T.heap = h) {b : Addr} (E : Exa Z h b C)
    (W : Nat) (hf : rm.frames + 1 ≤ R.frames) (hl : W + (maxL + 11) + rm.locals ≤ R.locals) (hc : cells + rm.cells ≤ R.cells) (hs : slots + rm.slots ≤ R.slots) {g : JFrame} (hg : g.method = m) (hsize : g.locals.size = c.maxLocals) {argsL rest : List Value} (hlen : ∀ sig, parseMethodDescriptor y.desc = some sig → argsL.length = sig.parameters.length)
    (hstack : g.stack = argsL.reverse ++ .ref b :: rest) (has : (.ref b :: argsL).toArray = as') (hW : 2 * g.monitorRoom + (rest.map fun v => v.category).sum ≤ W) (hdg : decode c.code g.pc = .ok (.invokevirtual index, 3)) :
    ∃ (v : Option Value) (T' : State) (L : List Loc), Stand p l e R s m args below meth c T' (locs ++ L) (cells + rm.cells) (slots + rm.slots) ∧ Q v T'.heap L ∧ ∀ target, Steps p.tables e below (T'.setTop { g with pc := g.pc + 3, stack := v.toList ++ rest }) target → Steps p.tables e below (T.setTop g) target := by
  obtain ⟨cq, kq, qa, qb, qc⟩ := isOf hZ eT E
  obtain ⟨v, vm₁, ⟨T', L', k', n'⟩, -, X', ⟨L, hQ, l', y', z'⟩, st⟩ := X.virtualBack hx hown (mvT hZ w1) (mvT hZ w2) (notFace_of_selects (args := #[]) (mvT hZ w5)) (mvT hZ w5) (mvT hZ w6) hy (backOf (W := W) hM hZ w4 w3 hf hl) qa qc hg hsize (Steps.refl _) hlen hstack hW hdg (fun _ _ => ⟨has, eT, hc, hs⟩)
  dsimp only [Pt.U, Pt.locs, Pt.cells, Pt.slots] at X' l' y' z' st hQ
  subst l' y' z'
  exact ⟨v, T', L, X', hQ, fun _ k => st.trans k⟩
theorem ownCallI (X : Stand p l e R s m args below meth c T locs cells slots) (hx : p.tables.exec = Jvm.exec) (hZ : Z.Warmed39 s.vm) {own : String} {index : Nat} {y : MethodName} {bytes : ByteArray} {maxL : Nat} {rm : Room} {as' : Array Value} {Q : Option Value → Heap → List Loc → Prop} (hown : s.vm.findClass own = some m.cls) (hy1 : y.name = "<init>")
    (w1 : (Cond.methodLink own index y).before a0 Z = true) (w6 : (Cond.instanceMethod y).before a0 Z = true) (w3 : (Cond.initialized y.cls).before a0 Z = true) (w4 : (Cond.code y bytes maxL none).before a0 Z = true) (hy : y.cls ≠ "java/lang/invoke/MethodHandle" ∧ y.cls ≠ "java/lang/invoke/VarHandle")
    (hM : MetFree l y (head1 [Cond.code y bytes maxL none] rm) (fun a U => a = as' ∧ Z.Warmed39 U.vm ∧ U.heap = h) (fun _ _ _ _ _ => True) (fun _ U o U' => ∃ v L, o = .returned v ∧ Q v U'.heap L ∧ FrameEnd U o U' L rm.cells rm.slots)) (eT : T.heap = h) {b : Addr}
    (W : Nat) (hf : rm.frames + 1 ≤ R.frames) (hl : W + (maxL + 11) + rm.locals ≤ R.locals) (hc : cells + rm.cells ≤ R.cells) (hs : slots + rm.slots ≤ R.slots) {g : JFrame} (hg : g.method = m) (hsize : g.locals.size = c.maxLocals) {argsL rest : List Value} (hlen : ∀ sig, parseMethodDescriptor y.desc = some sig → argsL.length = sig.parameters.length)
    (hstack : g.stack = argsL.reverse ++ .ref b :: rest) (has : (.ref b :: argsL).toArray = as') (hW : 2 * g.monitorRoom + (rest.map fun v => v.category).sum ≤ W) (hdg : decode c.code g.pc = .ok (.invokespecial index, 3)) :
    ∃ (v : Option Value) (T' : State) (L : List Loc), Stand p l e R s m args below meth c T' (locs ++ L) (cells + rm.cells) (slots + rm.slots) ∧ Q v T'.heap L ∧ ∀ target, Steps p.tables e below (T'.setTop { g with pc := g.pc + 3, stack := v.toList ++ rest }) target → Steps p.tables e below (T.setTop g) target := by
  obtain ⟨v, vm₁, ⟨T', L', k', n'⟩, -, X', ⟨L, hQ, l', y', z'⟩, st⟩ := X.specialBack hx hy1 hown (mvT hZ w1) (mvT hZ w6) (mvT hZ w4) hy (backOf (W := W) hM hZ w4 w3 hf hl) hg hsize (Steps.refl _) hlen hstack hW hdg (fun _ _ => ⟨has, eT, hc, hs⟩)
  dsimp only [Pt.U, Pt.locs, Pt.cells, Pt.slots] at X' l' y' z' st hQ
  subst l' y' z'
  exact ⟨v, T', L, X', hQ, fun _ k => st.trans k⟩
end Own
section Own2
variable {p : Program} {l : Launch} {e : Env} {R : Room} {s : State} {m : MethodId} {args : Array Value} {below : List Frame} {meth : Method} {c : Code} {T : State} {locs : List Loc} {cells slots : Nat} {Z : State} {a0 : Array Value} {h : Heap}
/-- branches behind lcmp -/
theorem ownLt {x y : Int64} (q : x < y) : ifCond.holds .lt (lcmpW x y) = true ∧ ifCond.holds .ge (lcmpW x y) = false ∧ ifCond.holds .gt (lcmpW y x) = true ∧ ifCond.holds .le (lcmpW y x) = false := by
  simp only [if0]
  have h1 : lcmpW x y < 0 := by rw [lcW]; exact (lc_lt x y).2 q
  have h2 : 0 < lcmpW y x := by rw [lcW]; exact (lc_gt y x).2 q
  exact ⟨(tlt h1).1, (tlt h1).2.1, (tlt h2).2.2.1, (tlt h2).2.2.2⟩
theorem ownNlt {x y : Int64} (q : ¬ x < y) : ifCond.holds .lt (lcmpW x y) = false ∧ ifCond.holds .ge (lcmpW x y) = true ∧ ifCond.holds .gt (lcmpW y x) = false ∧ ifCond.holds .le (lcmpW y x) = true := by
  simp only [if0]
  have h1 : ¬ lcmpW x y < 0 := by rw [lcW]; exact fun z => q ((lc_lt x y).1 z)
  have h2 : ¬ 0 < lcmpW y x := by rw [lcW]; exact fun z => q ((lc_gt y x).1 z)
  exact ⟨(flt h1).1, (flt h1).2.1, (flt h2).2.2.1, (flt h2).2.2.2⟩
theorem ownEq {x y : Int64} (q : x = y) : ifCond.holds .eq (lcmpW x y) = true ∧ ifCond.holds .ne (lcmpW x y) = false := by
  simp only [if0]
  have h1 : lcmpW x y = 0 := by rw [lcW]; exact (lc_eq x y).2 q
  exact teq h1
theorem ownNeq {x y : Int64} (q : ¬ x = y) : ifCond.holds .eq (lcmpW x y) = false ∧ ifCond.holds .ne (lcmpW x y) = true := by
  simp only [if0]
  have h1 : ¬ lcmpW x y = 0 := by rw [lcW]; exact fun z => q ((lc_eq x y).1 z)
  exact feq h1
theorem ownLrem {tb : Tables} [Ours tb] {e : Env} {below : List Frame} {T target : State} {m : MethodId} {c : Code} {g : JFrame} (h : At T m c below) (hx : tb.exec = Jvm.exec) (hg : g.method = m) {x y : Int64} {rest : List Value} (hd : decode c.code g.pc = .ok (.lrem, 1)) (hs : g.stack = .long y :: .long x :: rest) (hy : y ≠ 0)
    (hr : Steps tb e below (T.setTop { g with pc := g.pc + 1, stack := .long (x % y) :: rest }) target) : Steps tb e below (T.setTop g) target :=
  XS.lrem h hx hg hd hs hy (by rw [lrem_mod]; exact hr)
theorem ownLen (X : Stand p l e R s m args below meth c T locs cells slots) (hx : p.tables.exec = Jvm.exec) (hZ : Z.Warmed39 s.vm) (eT : T.heap = h) {a : Addr} {cl : Cell} {ty : FieldType} {z : Int32} (A : Arr Z h a cl ty) (S : cl.slots.size = z.toNatClampNeg) (q : ¬ z < 0) {g : JFrame} (hg : g.method = m) {rest : List Value} (hs : g.stack = .ref a :: rest) (hd : decode c.code g.pc = .ok (.arraylength, 1)) :
    ∀ target, Steps p.tables e below (T.setTop { g with pc := g.pc + 1, stack := .int z :: rest }) target → Steps p.tables e below (T.setTop g) target := fun target k =>
  X.arraylength hx (by rw [eT]; exact A.1) (State.isArrayOf_alike hZ.alike A.2.1) hg hs hd target (by rw [len_of S q]; exact k)
theorem ownOrd {C f d : String} {a : Addr} {v : Int32} {args : Array Value} (ev : (Term.static C f d).eval args Z none [] Z = some (.ref a)) (hq : (Jvm.Cond.eq (Term.field (Term.static C f d) "java/lang/Enum" "ordinal" "I") (Term.int v)).value args Z none Z [] = some true) : Fld Z Z.heap a "java/lang/Enum" "ordinal" "I" (.int v) := by
  obtain ⟨x, y, h1, h2, h3, h4⟩ := cmp_v (Or.inl hq)
  rw [fld_at ev] at h1
  cases h2
  obtain ⟨z, rfl⟩ := h4
  have h5 : (Term.field (Term.static C f d) "java/lang/Enum" "ordinal" "I").eval args Z none [] Z = some (.int z) := by rw [fld_at ev]; exact h1
  have : z = v := gotT (Cond.eq_ints h5 (Term.int_eval v)) hq
  subst this
  exact Fld.start h1
end Own2
section Own3
variable {p : Program} {l : Launch} {e : Env} {R : Room} {s : State} {m : MethodId} {args : Array Value} {below : List Frame} {meth : Method} {c : Code} {T : State} {locs : List Loc} {cells slots : Nat} {Z : State} {a0 : Array Value} {h : Heap}
/-- two ways that come to one place, the heap as it was -/
def ownDia {α : Type} (X : Stand p l e R s m args below meth c T locs cells slots) (h : Heap) (P : α → Prop) (f : α → JFrame) (g : JFrame) : Prop :=
  ∃ (T' : State) (v : α), Stand p l e R s m args below meth c T' locs cells slots ∧ T'.heap = h ∧ P v ∧ ∀ t, Steps p.tables e below (T'.setTop (f v)) t → Steps p.tables e below (T.setTop g) t
end Own3

def own_eqL (x y : Int64) : Int32 := if x = y then 1 else 0
theorem own_eqL_t {x y : Int64} (h : x = y) : own_eqL x y = 1 := by unfold own_eqL; rw [if_pos h]
theorem own_eqL_f {x y : Int64} (h : ¬ x = y) : own_eqL x y = 0 := by unfold own_eqL; rw [if_neg h]
theorem own_eqL_c (x y : Int64) : own_eqL x y = own_eqL y x := by
  unfold own_eqL
  by_cases h : x = y
  · rw [if_pos h, if_pos h.symm]
  · rw [if_neg h, if_neg (fun q => h q.symm)]
theorem own_eqL_n (x : Int64) : nar .boolean (own_eqL x x) = 1 := by rw [own_eqL_t rfl]; decide
theorem own_shl0 : ∀ i : Fin 64, ¬ (1 : Int64) <<< (Int32.ofNat i.1).toInt64 = 0 := by decide +kernel
theorem own_shl (k : Int32) : ¬ (1 : Int64) <<< (k &&& 0x3f).toInt64 = 0 := by
  have h := c_mask k 0x3f 6 (by decide) (by decide)
  generalize k &&& 0x3f = j at h
  have e : j = Int32.ofNat j.toInt.toNat := by
    apply Int32.toInt_inj.mp
    rw [Int32.toInt_ofNat_of_lt (by omega)]
    omega
  rw [e]
  exact own_shl0 ⟨j.toInt.toNat, by omega⟩
theorem own_flip (x : Int64) (k : Int32) : own_eqL x (x ^^^ ((1 : Int64) <<< (k &&& 0x3f).toInt64)) = 0 := by
  apply own_eqL_f
  intro q
  apply own_shl k
  generalize (1 : Int64) <<< (k &&& 0x3f).toInt64 = y at q
  have h : x ^^^ (x ^^^ y) = y := by rw [← Int64.xor_assoc, Int64.xor_self, Int64.zero_xor]
  rw [← q, Int64.xor_self] at h
  exact h.symm
theorem own_root {Z : State} {a0 : Array Value} {O K : String} {n : Nat} (w : (Cond.noSuperclass O).before a0 Z = true) (wi : (Cond.instantiable K n).before a0 Z = true) (hn : O ≠ K) : NS Z O K := by
  obtain ⟨c, k, h1, h2, h3, -, -⟩ := Cond.noSuperclass_spec w
  obtain ⟨t, kt, g1, -⟩ := Cond.instantiable_spec wi
  have ne := ids_ne h1 g1 hn
  refine ⟨c, t, h1, g1, fun fuel => ?_⟩
  cases fuel with
  | zero => rfl
  | succ f => simp [Vm.isSubclassAux, ne, h2, h3]
theorem own_no {Z : State} {a0 : Array Value} {C S K : String} {n : Nat} (w : (Cond.superclass C S).before a0 Z = true) (wi : (Cond.instantiable K n).before a0 Z = true) (N : NS Z C K) (hn : C ≠ K) : ∃ c t, Z.vm.findClass C = some c ∧ Z.vm.findClass K = some t ∧ Z.vm.assignable c t = false := by
  obtain ⟨c, t, h0, g0, n3⟩ := N
  obtain ⟨p, k, kp, h1, h2, h3, h4, h5, -, h7⟩ := Cond.superclass_spec h0 w
  obtain ⟨t', kt, g1, g2, g3, g4, -, -⟩ := Cond.instantiable_spec wi
  cases g0.symm.trans g1
  have g5 : kt.isInterface = false := (Bool.or_eq_false_iff.mp g4).1
  have ne := ids_ne h0 g0 hn
  refine ⟨c, t, h0, g0, ?_⟩
  show Z.vm.assignableAux (255 + 1) c t = false
  simp [Vm.assignableAux, ne, h2, g2, h5, g3, g5, Vm.isSubclass, n3]
/-- the cache of Long: 256 Longs -/
def own_LC (Z : State) (ac : Addr) : Prop := ∃ cl : Cell, Arr Z Z.heap ac cl (.object "java/lang/Long") ∧ cl.slots.size = 256 ∧ ∀ i, i < 256 → ∃ b : Addr, cl.slots[i]? = some (.ref b) ∧ Exa Z Z.heap b "java/lang/Long"
theorem own_cidx {x : Int64} (h1 : ¬ x < (-128 : Int64)) (h2 : ¬ (127 : Int64) < x) : ¬ ((x.toInt32) + (128 : Int32)) < 0 ∧ ((x.toInt32) + (128 : Int32)).toNatClampNeg < 256 := by
  rw [Int64.lt_iff_toInt_lt] at h1 h2
  have e1 : (-128 : Int64).toInt = -128 := by decide
  have e2 : (127 : Int64).toInt = 127 := by decide
  have e3 : (128 : Int32).toInt = 128 := by decide
  have e4 : (0 : Int32).toInt = 0 := by decide
  rw [e1] at h1
  rw [e2] at h2
  have h3 : (x.toInt32).toInt = x.toInt := XT.narrowInt ⟨by omega, by omega⟩
  have h4 : ((x.toInt32) + (128 : Int32)).toInt = x.toInt + 128 := by rw [XT.add32 ⟨by rw [h3, e3]; omega, by rw [h3, e3]; omega⟩, h3, e3]
  constructor
  · rw [Int32.lt_iff_toInt_lt, h4, e4]; omega
  · show ((x.toInt32) + (128 : Int32)).toInt.toNat < 256
    rw [h4]; omega


theorem own_LC_start {s : State} {args : Array Value} {ac : Addr} (hfit : Fit s) (ev : (Jvm.Term.static "java/lang/Long$LongCache" "cache" "[Ljava/lang/Long;").eval args s none [] s = some (.ref ac)) (c2 : (Jvm.Cond.arrayOf (Jvm.Term.static "java/lang/Long$LongCache" "cache" "[Ljava/lang/Long;") (.object "java/lang/Long")).value args s none s [] = some true)
    (c4 : (Jvm.Cond.eq (Jvm.Term.length (Jvm.Term.static "java/lang/Long$LongCache" "cache" "[Ljava/lang/Long;")) (Jvm.Term.int (256 : Int32))).value args s none s [] = some true)
    (c5 : (Jvm.Cond.all (Jvm.Term.static "java/lang/Long$LongCache" "cache" "[Ljava/lang/Long;") (Jvm.Cond.and (Jvm.Cond.exactly (Jvm.Term.elem (Jvm.Term.static "java/lang/Long$LongCache" "cache" "[Ljava/lang/Long;") (Jvm.Term.index (0 : Nat))) "java/lang/Long") (Jvm.Cond.eq (Jvm.Term.field (Jvm.Term.elem (Jvm.Term.static "java/lang/Long$LongCache" "cache" "[Ljava/lang/Long;") (Jvm.Term.index (0 : Nat))) "java/lang/Long" "value" "J") (Jvm.Term.op1 Jvm.Unary.i2l (Jvm.Term.sub (Jvm.Term.index (0 : Nat)) (Jvm.Term.int (128 : Int32))))))).before args s = true) : own_LC s ac := by
  obtain ⟨cl, A⟩ := Arr.start ev c2
  have hA : s.arrayAt? ac = some cl := Arr.fin (Vm.Alike.refl _) A
  have hsz : cl.slots.size = 256 := by
    obtain ⟨x, y, h1, h2, -, -⟩ := cmp_v (Or.inl c4)
    obtain ⟨x', cell', q1, q2, q3, q4⟩ := Jvm.Lib.length_spec h1
    cases ev.symm.trans q1
    cases hA.symm.trans q2
    have h5 := len_f (t := (Jvm.Term.static "java/lang/Long$LongCache" "cache" "[Ljava/lang/Long;")) ev hA q3
    have h6 : cl.slots.size.toInt32 = (256 : Int32) := gotT (Cond.eq_ints h5 (Term.int_eval _)) c4
    have h7 := congrArg Int32.toInt h6
    rw [len_toInt q3] at h7
    have e : (256 : Int32).toInt = 256 := by decide
    rw [e] at h7
    omega
  refine ⟨cl, A, hsz, fun i hi => ?_⟩
  have h8 := Cond.all_elim ev hA (Cond.before_iff.mp c5) i (by omega)
  obtain ⟨h9, -⟩ := and_e h8
  obtain ⟨b, h10⟩ := exa_v h9
  have hj : ¬ (Int32.ofNat i) < 0 := by
    rw [Int32.lt_iff_toInt_lt, Int32.toInt_ofNat_of_lt (by omega)]
    have e0 : (0 : Int32).toInt = 0 := by decide
    rw [e0]; omega
  have hn : (Int32.ofNat i).toNatClampNeg = i := by
    show (Int32.ofNat i).toInt.toNat = i
    rw [Int32.toInt_ofNat_of_lt (by omega)]; omega
  have h11 : (Jvm.Term.index (0 : Nat)).eval args s none [i] s = some (.int (Int32.ofNat i)) := by
    have q := idx_at (args := args) (first := s) (s := s) (o := none) hj
    rw [hn] at q; exact q
  have h12 := (elem_in h10 (show (Jvm.Term.static "java/lang/Long$LongCache" "cache" "[Ljava/lang/Long;").eval args s none [i] s = some (.ref ac) from ev) h11 A.1).2
  rw [hn] at h12
  exact ⟨b, h12, exa_at h10 h9⟩

theorem d2_0 : decode jdk_30_method_1_code 0 = .ok (.aload_n 0, 1) := by decide +kernel
theorem d2_1 : decode jdk_30_method_1_code 1 = .ok (.invokespecial 1, 3) := by decide +kernel
theorem d2_4 : decode jdk_30_method_1_code 4 = .ok (.return_, 1) := by decide +kernel
theorem pn_2 : plainName "java/lang/Record" = true := by first | (simp [plainName, overriddenIn]; done) | decide +kernel
theorem ef_2 (m : MethodId) (x0 : Addr) : entryFrame m #[(.ref x0)] 1 = mkF m 0 #[.val (.ref x0)] [] := by first | (simp [entryFrame, mkF, argsToLocals, Value.category]; done) | rfl
def Q2 (Z : State) (a1 : Addr) (h0 : Heap) (n0 : Nat) (v : Option Value) (h : Heap) (L : List Loc) : Prop := v = none ∧ Fr n0 L ∧ h = h0
set_option maxRecDepth 65536 in
set_option maxHeartbeats 40000000 in
theorem rm2 (l : Launch) (Z : State) (a0 : Array Value) (hw : ∀ d ∈ tables_1, d.before a0 Z = true) (ws : List Jvm.Cond) (a1 : Addr) (h0 : Heap) (n0 : Nat) (Z0 : n0 ≤ h0.size) :
    MetFree l (⟨"java/lang/Record", "<init>", "()V"⟩ : MethodName) (head1 (Jvm.Cond.code (⟨"java/lang/Record", "<init>", "()V"⟩ : MethodName) jdk_30_method_1_code 1 none :: ws) ({ frames := 1, cells := 0, slots := 0, locals := 12 } : Room)) (fun a U => a = #[(.ref a1)] ∧ Z.Warmed39 U.vm ∧ U.heap = h0) (fun _ _ _ _ _ => True) (fun _ U o U' => ∃ v L, o = .returned v ∧ Q2 Z a1 h0 n0 v U'.heap L ∧ FrameEnd U o U' L ({ frames := 1, cells := 0, slots := 0, locals := 12 } : Room).cells ({ frames := 1, cells := 0, slots := 0, locals := 12 } : Room).slots) := by
  have ww11 := hw _ (List.mem_of_getElem? (i := 11) rfl)
  have ww12 := hw _ (List.mem_of_getElem? (i := 12) rfl)
  have ww13 := hw _ (List.mem_of_getElem? (i := 13) rfl)
  refine MetFree.of_bodySF (plainFor_of_name pn_2) hisR ?_
  intro p e s m args below meth c s₁ Bd hml0 hP hK
  obtain ⟨rfl, hZ, hh⟩ := hP
  have hx := Bd.exec
  have hby := Bd.bytes
  have hlk : meth.locks = false := Bd.notSynchronized
  have hret := Bd.returns
  have hml : c.maxLocals = 1 := hml0
  have hown : s.vm.findClass "java/lang/Record" = some m.cls := findClass_of_methodNamed Bd.named
  have hnm := (name_of_methodNamed Bd.named Bd.method).1
  have X0 : Stand p l e ({ frames := 1, cells := 0, slots := 0, locals := 12 } : Room) s m #[(.ref a1)] below meth c s₁ [] 0 0 := Stand.of_body Bd
  have e0 : s₁.heap = h0 := by rw [← hh, Bd.state]; rfl
  have N0 := Fr.nil n0
  have K0 := Keep.refl h0 []
  show OwnEnd p e below s (Q2 Z a1 h0 n0) ({ frames := 1, cells := 0, slots := 0, locals := 12 } : Room).cells ({ frames := 1, cells := 0, slots := 0, locals := 12 } : Room).slots _
  refine OwnEnd.go (fun _ k => castTop (ef_2 m a1) k) ?_
  show OwnEnd p e below s _ _ _ (s₁.setTop (mkF m 0 #[.val (.ref a1)] []))
  refine OwnEnd.go (fun _ k => XS.aloadN X0.here hx rfl (hb hby d2_0) rfl rfl k) ?_
  show OwnEnd p e below s _ _ _ (s₁.setTop (mkF m 1 #[.val (.ref a1)] [(.ref a1)]))
  obtain ⟨T1, X1, e1, st1⟩ := initO X0 hx hZ hown ww11 ww12 ww13 e0 (g := (mkF m 1 #[.val (.ref a1)] [(.ref a1)])) rfl (by rw [hml]; rfl) rfl (hb hby d2_1) (by decide) (W := 0) (by show 2 * 0 + _ ≤ _; exact Nat.le_of_eq rfl) (by decide)
  refine OwnEnd.go (fun _ k => st1 _ k) ?_
  show OwnEnd p e below s _ _ _ (T1.setTop (mkF m 4 #[.val (.ref a1)] []))
  refine ownRetV X1 hx hlk hret (hb hby d2_4) (by decide) (by decide) ?_
  show Q2 Z a1 h0 n0 _ T1.heap _
  rw [e1]
  exact ⟨rfl, N0, rfl⟩
theorem d7_0 : decode jdk_18_method_1_code 0 = .ok (.aload_n 0, 1) := by decide +kernel
theorem d7_1 : decode jdk_18_method_1_code 1 = .ok (.invokespecial 1, 3) := by decide +kernel
theorem d7_4 : decode jdk_18_method_1_code 4 = .ok (.return_, 1) := by decide +kernel
theorem pn_7 : plainName "java/lang/Number" = true := by first | (simp [plainName, overriddenIn]; done) | decide +kernel
theorem ef_7 (m : MethodId) (x0 : Addr) : entryFrame m #[(.ref x0)] 1 = mkF m 0 #[.val (.ref x0)] [] := by first | (simp [entryFrame, mkF, argsToLocals, Value.category]; done) | rfl
def Q7 (Z : State) (a1 : Addr) (h0 : Heap) (n0 : Nat) (v : Option Value) (h : Heap) (L : List Loc) : Prop := v = none ∧ Fr n0 L ∧ h = h0
set_option maxRecDepth 65536 in
set_option maxHeartbeats 40000000 in
theorem rm7 (l : Launch) (Z : State) (a0 : Array Value) (hw : ∀ d ∈ tables_1, d.before a0 Z = true) (ws : List Jvm.Cond) (a1 : Addr) (h0 : Heap) (n0 : Nat) (Z0 : n0 ≤ h0.size) :
    MetFree l (⟨"java/lang/Number", "<init>", "()V"⟩ : MethodName) (head1 (Jvm.Cond.code (⟨"java/lang/Number", "<init>", "()V"⟩ : MethodName) jdk_18_method_1_code 1 none :: ws) ({ frames := 1, cells := 0, slots := 0, locals := 12 } : Room)) (fun a U => a = #[(.ref a1)] ∧ Z.Warmed39 U.vm ∧ U.heap = h0) (fun _ _ _ _ _ => True) (fun _ U o U' => ∃ v L, o = .returned v ∧ Q7 Z a1 h0 n0 v U'.heap L ∧ FrameEnd U o U' L ({ frames := 1, cells := 0, slots := 0, locals := 12 } : Room).cells ({ frames := 1, cells := 0, slots := 0, locals := 12 } : Room).slots) := by
  have ww12 := hw _ (List.mem_of_getElem? (i := 12) rfl)
  have ww13 := hw _ (List.mem_of_getElem? (i := 13) rfl)
  have ww41 := hw _ (List.mem_of_getElem? (i := 41) rfl)
  refine MetFree.of_bodySF (plainFor_of_name pn_7) hisR ?_
  intro p e s m args below meth c s₁ Bd hml0 hP hK
  obtain ⟨rfl, hZ, hh⟩ := hP
  have hx := Bd.exec
  have hby := Bd.bytes
  have hlk : meth.locks = false := Bd.notSynchronized
  have hret := Bd.returns
  have hml : c.maxLocals = 1 := hml0
  have hown : s.vm.findClass "java/lang/Number" = some m.cls := findClass_of_methodNamed Bd.named
  have hnm := (name_of_methodNamed Bd.named Bd.method).1
  have X0 : Stand p l e ({ frames := 1, cells := 0, slots := 0, locals := 12 } : Room) s m #[(.ref a1)] below meth c s₁ [] 0 0 := Stand.of_body Bd
  have e0 : s₁.heap = h0 := by rw [← hh, Bd.state]; rfl
  have N0 := Fr.nil n0
  have K0 := Keep.refl h0 []
  show OwnEnd p e below s (Q7 Z a1 h0 n0) ({ frames := 1, cells := 0, slots := 0, locals := 12 } : Room).cells ({ frames := 1, cells := 0, slots := 0, locals := 12 } : Room).slots _
  refine OwnEnd.go (fun _ k => castTop (ef_7 m a1) k) ?_
  show OwnEnd p e below s _ _ _ (s₁.setTop (mkF m 0 #[.val (.ref a1)] []))
  refine OwnEnd.go (fun _ k => XS.aloadN X0.here hx rfl (hb hby d7_0) rfl rfl k) ?_
  show OwnEnd p e below s _ _ _ (s₁.setTop (mkF m 1 #[.val (.ref a1)] [(.ref a1)]))
  obtain ⟨T1, X1, e1, st1⟩ := initO X0 hx hZ hown ww41 ww12 ww13 e0 (g := (mkF m 1 #[.val (.ref a1)] [(.ref a1)])) rfl (by rw [hml]; rfl) rfl (hb hby d7_1) (by decide) (W := 0) (by show 2 * 0 + _ ≤ _; exact Nat.le_of_eq rfl) (by decide)
  refine OwnEnd.go (fun _ k => st1 _ k) ?_
  show OwnEnd p e below s _ _ _ (T1.setTop (mkF m 4 #[.val (.ref a1)] []))
  refine ownRetV X1 hx hlk hret (hb hby d7_4) (by decide) (by decide) ?_
  show Q7 Z a1 h0 n0 _ T1.heap _
  rw [e1]
  exact ⟨rfl, N0, rfl⟩
theorem d1_0 : decode prog_79_method_1_code 0 = .ok (.aload_n 0, 1) := by decide +kernel
theorem d1_1 : decode prog_79_method_1_code 1 = .ok (.invokespecial 1, 3) := by decide +kernel
theorem d1_4 : decode prog_79_method_1_code 4 = .ok (.aload_n 0, 1) := by decide +kernel
theorem d1_5 : decode prog_79_method_1_code 5 = .ok (.lload_n 1, 1) := by decide +kernel
theorem d1_6 : decode prog_79_method_1_code 6 = .ok (.putfield 7, 3) := by decide +kernel
theorem d1_9 : decode prog_79_method_1_code 9 = .ok (.return_, 1) := by decide +kernel
theorem pn_1 : plainName "com/example/volens/volens/core/term/Int" = true := by first | (simp [plainName, overriddenIn]; done) | decide +kernel
theorem pd1_0 : parseMethodDescriptor "()V" = some ⟨[], none⟩ := by decide +kernel
theorem ef_1 (m : MethodId) (x0 : Addr) (x1 : Int64) : entryFrame m #[(.ref x0), (.long x1)] 3 = mkF m 0 #[.val (.ref x0), .val (.long x1), .second] [] := by first | (simp [entryFrame, mkF, argsToLocals, Value.category]; done) | rfl
def Q1 (Z : State) (a1 : Addr) (q2 : Int64) (u : Value) (h0 : Heap) (n0 : Nat) (v : Option Value) (h : Heap) (L : List Loc) : Prop := v = none ∧ Fr n0 L ∧ Keep h0 h [a1] ∧ Exa Z h a1 "com/example/volens/volens/core/term/Int" ∧ Fld Z h a1 "com/example/volens/volens/core/term/Int" "value" "J" (.long q2)
set_option maxRecDepth 65536 in
set_option maxHeartbeats 40000000 in
theorem rm1 (l : Launch) (Z : State) (a0 : Array Value) (hw : ∀ d ∈ tables_1, d.before a0 Z = true) (ws : List Jvm.Cond) (a1 : Addr) (q2 : Int64) (u : Value) (h0 : Heap) (n0 : Nat) (Z0 : n0 ≤ h0.size) (F1 : Fld Z h0 a1 "com/example/volens/volens/core/term/Int" "value" "J" u) (E1 : Exa Z h0 a1 "com/example/volens/volens/core/term/Int") (g1 : n0 ≤ a1) :
    MetFree l (⟨"com/example/volens/volens/core/term/Int", "<init>", "(J)V"⟩ : MethodName) (head1 (Jvm.Cond.code (⟨"com/example/volens/volens/core/term/Int", "<init>", "(J)V"⟩ : MethodName) prog_79_method_1_code 3 none :: ws) ({ frames := 2, cells := 0, slots := 0, locals := 24 } : Room)) (fun a U => a = #[(.ref a1), (.long q2)] ∧ Z.Warmed39 U.vm ∧ U.heap = h0) (fun _ _ _ _ _ => True) (fun _ U o U' => ∃ v L, o = .returned v ∧ Q1 Z a1 q2 u h0 n0 v U'.heap L ∧ FrameEnd U o U' L ({ frames := 2, cells := 0, slots := 0, locals := 24 } : Room).cells ({ frames := 2, cells := 0, slots := 0, locals := 24 } : Room).slots) := by
  have ww1 := hw _ (List.mem_of_getElem? (i := 1) rfl)
  have ww6 := hw _ (List.mem_of_getElem? (i := 6) rfl)
  have ww7 := hw _ (List.mem_of_getElem? (i := 7) rfl)
  have ww9 := hw _ (List.mem_of_getElem? (i := 9) rfl)
  have ww10 := hw _ (List.mem_of_getElem? (i := 10) rfl)
  have ww14 := hw _ (List.mem_of_getElem? (i := 14) rfl)
  have ww15 := hw _ (List.mem_of_getElem? (i := 15) rfl)
  refine MetFree.of_bodySF (plainFor_of_name pn_1) hisR ?_
  intro p e s m args below meth c s₁ Bd hml0 hP hK
  obtain ⟨rfl, hZ, hh⟩ := hP
  have hx := Bd.exec
  have hby := Bd.bytes
  have hlk : meth.locks = false := Bd.notSynchronized
  have hret := Bd.returns
  have hml : c.maxLocals = 3 := hml0
  have hown : s.vm.findClass "com/example/volens/volens/core/term/Int" = some m.cls := findClass_of_methodNamed Bd.named
  have hnm := (name_of_methodNamed Bd.named Bd.method).1
  have X0 : Stand p l e ({ frames := 2, cells := 0, slots := 0, locals := 24 } : Room) s m #[(.ref a1), (.long q2)] below meth c s₁ [] 0 0 := Stand.of_body Bd
  have e0 : s₁.heap = h0 := by rw [← hh, Bd.state]; rfl
  have N0 := Fr.nil n0
  have K0 := Keep.refl h0 [a1]
  show OwnEnd p e below s (Q1 Z a1 q2 u h0 n0) ({ frames := 2, cells := 0, slots := 0, locals := 24 } : Room).cells ({ frames := 2, cells := 0, slots := 0, locals := 24 } : Room).slots _
  refine OwnEnd.go (fun _ k => castTop (ef_1 m a1 q2) k) ?_
  show OwnEnd p e below s _ _ _ (s₁.setTop (mkF m 0 #[.val (.ref a1), .val (.long q2), .second] []))
  refine OwnEnd.go (fun _ k => XS.aloadN X0.here hx rfl (hb hby d1_0) rfl rfl k) ?_
  show OwnEnd p e below s _ _ _ (s₁.setTop (mkF m 1 #[.val (.ref a1), .val (.long q2), .second] [(.ref a1)]))
  obtain ⟨_, T1, L1, X1, hQ1, st1⟩ := ownCallI X0 hx hZ hown rfl ww6 ww7 ww9 ww10 (by decide) (rm2 l Z a0 hw [] a1 h0 n0 Z0  ) e0 (b := a1) 0 (by decide) (by decide) (by decide) (by decide) (g := (mkF m 1 #[.val (.ref a1), .val (.long q2), .second] [(.ref a1)])) rfl (by rw [hml]; rfl) (argsL := []) (rest := []) (lenOf pd1_0 rfl) rfl rfl (by show 2 * 0 + _ ≤ _; exact Nat.le_of_eq rfl) (hb hby d1_1)
  obtain ⟨rfl, N1q, e1⟩ := hQ1
  have N1 := Fr.app N0 N1q
  refine OwnEnd.go (fun _ k => st1 _ k) ?_
  show OwnEnd p e below s _ _ _ (T1.setTop (mkF m 4 #[.val (.ref a1), .val (.long q2), .second] []))
  refine OwnEnd.go (fun _ k => XS.aloadN X1.here hx rfl (hb hby d1_4) rfl rfl k) ?_
  show OwnEnd p e below s _ _ _ (T1.setTop (mkF m 5 #[.val (.ref a1), .val (.long q2), .second] [(.ref a1)]))
  refine OwnEnd.go (fun _ k => XS.lloadN X1.here hx rfl (hb hby d1_5) rfl  k) ?_
  show OwnEnd p e below s _ _ _ (T1.setTop (mkF m 6 #[.val (.ref a1), .val (.long q2), .second] [(.long q2), (.ref a1)]))
  obtain ⟨T2, h2, X2, e2, W2, st2⟩ := putF X1 hx hZ hown (host := "") (Or.inl ww14) Via.refl e1 F1 E1 (Or.inr ⟨ww15, rfl, hnm⟩) ww1 (ty := .long) (by decide) rfl rfl (g := (mkF m 6 #[.val (.ref a1), .val (.long q2), .second] [(.long q2), (.ref a1)])) rfl rfl (hb hby d1_6)
  have F3 := F1.same W2
  have F4 := E1.wr W2
  have N2 := Fr.snoc X2 N1 g1
  have K2 := K0.wr W2 (Or.inl (List.mem_of_getElem? (i := 0) rfl))
  have Y2 := Nat.le_trans Z0 (Nat.le_of_eq W2.size.symm)
  refine OwnEnd.go (fun _ k => st2 _ k) ?_
  show OwnEnd p e below s _ _ _ (T2.setTop (mkF m 9 #[.val (.ref a1), .val (.long q2), .second] []))
  refine ownRetV X2 hx hlk hret (hb hby d1_9) (by decide) (by decide) ?_
  show Q1 Z a1 q2 u h0 n0 _ T2.heap _
  rw [e2]
  exact ⟨rfl, N2, K2, F4, F3⟩
theorem d6_0 : decode jdk_35_method_26_code 0 = .ok (.aload_n 0, 1) := by decide +kernel
theorem d6_1 : decode jdk_35_method_26_code 1 = .ok (.invokespecial 270, 3) := by decide +kernel
theorem d6_4 : decode jdk_35_method_26_code 4 = .ok (.aload_n 0, 1) := by decide +kernel
theorem d6_5 : decode jdk_35_method_26_code 5 = .ok (.lload_n 1, 1) := by decide +kernel
theorem d6_6 : decode jdk_35_method_26_code 6 = .ok (.putfield 273, 3) := by decide +kernel
theorem d6_9 : decode jdk_35_method_26_code 9 = .ok (.return_, 1) := by decide +kernel
theorem pn_6 : plainName "java/lang/Long" = true := by first | (simp [plainName, overriddenIn]; done) | decide +kernel
theorem pd6_0 : parseMethodDescriptor "()V" = some ⟨[], none⟩ := by decide +kernel
theorem ef_6 (m : MethodId) (x0 : Addr) (x1 : Int64) : entryFrame m #[(.ref x0), (.long x1)] 3 = mkF m 0 #[.val (.ref x0), .val (.long x1), .second] [] := by first | (simp [entryFrame, mkF, argsToLocals, Value.category]; done) | rfl
def Q6 (Z : State) (a1 : Addr) (q2 : Int64) (u : Value) (h0 : Heap) (n0 : Nat) (v : Option Value) (h : Heap) (L : List Loc) : Prop := v = none ∧ Fr n0 L ∧ Keep h0 h [a1] ∧ Exa Z h a1 "java/lang/Long" ∧ Fld Z h a1 "java/lang/Long" "value" "J" (.long q2)
set_option maxRecDepth 65536 in
set_option maxHeartbeats 40000000 in
theorem rm6 (l : Launch) (Z : State) (a0 : Array Value) (hw : ∀ d ∈ tables_1, d.before a0 Z = true) (ws : List Jvm.Cond) (a1 : Addr) (q2 : Int64) (u : Value) (h0 : Heap) (n0 : Nat) (Z0 : n0 ≤ h0.size) (F1 : Fld Z h0 a1 "java/lang/Long" "value" "J" u) (E1 : Exa Z h0 a1 "java/lang/Long") (g1 : n0 ≤ a1) :
    MetFree l (⟨"java/lang/Long", "<init>", "(J)V"⟩ : MethodName) (head1 (Jvm.Cond.code (⟨"java/lang/Long", "<init>", "(J)V"⟩ : MethodName) jdk_35_method_26_code 3 none :: ws) ({ frames := 2, cells := 0, slots := 0, locals := 24 } : Room)) (fun a U => a = #[(.ref a1), (.long q2)] ∧ Z.Warmed39 U.vm ∧ U.heap = h0) (fun _ _ _ _ _ => True) (fun _ U o U' => ∃ v L, o = .returned v ∧ Q6 Z a1 q2 u h0 n0 v U'.heap L ∧ FrameEnd U o U' L ({ frames := 2, cells := 0, slots := 0, locals := 24 } : Room).cells ({ frames := 2, cells := 0, slots := 0, locals := 24 } : Room).slots) := by
  have ww30 := hw _ (List.mem_of_getElem? (i := 30) rfl)
  have ww35 := hw _ (List.mem_of_getElem? (i := 35) rfl)
  have ww36 := hw _ (List.mem_of_getElem? (i := 36) rfl)
  have ww39 := hw _ (List.mem_of_getElem? (i := 39) rfl)
  have ww40 := hw _ (List.mem_of_getElem? (i := 40) rfl)
  have ww42 := hw _ (List.mem_of_getElem? (i := 42) rfl)
  have ww43 := hw _ (List.mem_of_getElem? (i := 43) rfl)
  refine MetFree.of_bodySF (plainFor_of_name pn_6) hisR ?_
  intro p e s m args below meth c s₁ Bd hml0 hP hK
  obtain ⟨rfl, hZ, hh⟩ := hP
  have hx := Bd.exec
  have hby := Bd.bytes
  have hlk : meth.locks = false := Bd.notSynchronized
  have hret := Bd.returns
  have hml : c.maxLocals = 3 := hml0
  have hown : s.vm.findClass "java/lang/Long" = some m.cls := findClass_of_methodNamed Bd.named
  have hnm := (name_of_methodNamed Bd.named Bd.method).1
  have X0 : Stand p l e ({ frames := 2, cells := 0, slots := 0, locals := 24 } : Room) s m #[(.ref a1), (.long q2)] below meth c s₁ [] 0 0 := Stand.of_body Bd
  have e0 : s₁.heap = h0 := by rw [← hh, Bd.state]; rfl
  have N0 := Fr.nil n0
  have K0 := Keep.refl h0 [a1]
  show OwnEnd p e below s (Q6 Z a1 q2 u h0 n0) ({ frames := 2, cells := 0, slots := 0, locals := 24 } : Room).cells ({ frames := 2, cells := 0, slots := 0, locals := 24 } : Room).slots _
  refine OwnEnd.go (fun _ k => castTop (ef_6 m a1 q2) k) ?_
  show OwnEnd p e below s _ _ _ (s₁.setTop (mkF m 0 #[.val (.ref a1), .val (.long q2), .second] []))
  refine OwnEnd.go (fun _ k => XS.aloadN X0.here hx rfl (hb hby d6_0) rfl rfl k) ?_
  show OwnEnd p e below s _ _ _ (s₁.setTop (mkF m 1 #[.val (.ref a1), .val (.long q2), .second] [(.ref a1)]))
  obtain ⟨_, T1, L1, X1, hQ1, st1⟩ := ownCallI X0 hx hZ hown rfl ww35 ww36 ww39 ww40 (by decide) (rm7 l Z a0 hw [] a1 h0 n0 Z0  ) e0 (b := a1) 0 (by decide) (by decide) (by decide) (by decide) (g := (mkF m 1 #[.val (.ref a1), .val (.long q2), .second] [(.ref a1)])) rfl (by rw [hml]; rfl) (argsL := []) (rest := []) (lenOf pd6_0 rfl) rfl rfl (by show 2 * 0 + _ ≤ _; exact Nat.le_of_eq rfl) (hb hby d6_1)
  obtain ⟨rfl, N1q, e1⟩ := hQ1
  have N1 := Fr.app N0 N1q
  refine OwnEnd.go (fun _ k => st1 _ k) ?_
  show OwnEnd p e below s _ _ _ (T1.setTop (mkF m 4 #[.val (.ref a1), .val (.long q2), .second] []))
  refine OwnEnd.go (fun _ k => XS.aloadN X1.here hx rfl (hb hby d6_4) rfl rfl k) ?_
  show OwnEnd p e below s _ _ _ (T1.setTop (mkF m 5 #[.val (.ref a1), .val (.long q2), .second] [(.ref a1)]))
  refine OwnEnd.go (fun _ k => XS.lloadN X1.here hx rfl (hb hby d6_5) rfl  k) ?_
  show OwnEnd p e below s _ _ _ (T1.setTop (mkF m 6 #[.val (.ref a1), .val (.long q2), .second] [(.long q2), (.ref a1)]))
  obtain ⟨T2, h2, X2, e2, W2, st2⟩ := putF X1 hx hZ hown (host := "") (Or.inl ww42) Via.refl e1 F1 E1 (Or.inr ⟨ww43, rfl, hnm⟩) ww30 (ty := .long) (by decide) rfl rfl (g := (mkF m 6 #[.val (.ref a1), .val (.long q2), .second] [(.long q2), (.ref a1)])) rfl rfl (hb hby d6_6)
  have F3 := F1.same W2
  have F4 := E1.wr W2
  have N2 := Fr.snoc X2 N1 g1
  have K2 := K0.wr W2 (Or.inl (List.mem_of_getElem? (i := 0) rfl))
  have Y2 := Nat.le_trans Z0 (Nat.le_of_eq W2.size.symm)
  refine OwnEnd.go (fun _ k => st2 _ k) ?_
  show OwnEnd p e below s _ _ _ (T2.setTop (mkF m 9 #[.val (.ref a1), .val (.long q2), .second] []))
  refine ownRetV X2 hx hlk hret (hb hby d6_9) (by decide) (by decide) ?_
  show Q6 Z a1 q2 u h0 n0 _ T2.heap _
  rw [e2]
  exact ⟨rfl, N2, K2, F4, F3⟩
theorem d4_0 : decode prog_79_method_2_code 0 = .ok (.aload_n 1, 1) := by decide +kernel
theorem d4_1 : decode prog_79_method_2_code 1 = .ok (.instanceof 8, 3) := by decide +kernel
theorem d4_4 : decode prog_79_method_2_code 4 = .ok (.ifCond .eq 24, 3) := by decide +kernel
theorem d4_7 : decode prog_79_method_2_code 7 = .ok (.aload_n 1, 1) := by decide +kernel
theorem d4_8 : decode prog_79_method_2_code 8 = .ok (.checkcast 8, 3) := by decide +kernel
theorem d4_11 : decode prog_79_method_2_code 11 = .ok (.astore_n 2, 1) := by decide +kernel
theorem d4_12 : decode prog_79_method_2_code 12 = .ok (.aload_n 0, 1) := by decide +kernel
theorem d4_13 : decode prog_79_method_2_code 13 = .ok (.getfield 7, 3) := by decide +kernel
theorem d4_16 : decode prog_79_method_2_code 16 = .ok (.aload_n 2, 1) := by decide +kernel
theorem d4_17 : decode prog_79_method_2_code 17 = .ok (.getfield 7, 3) := by decide +kernel
theorem d4_20 : decode prog_79_method_2_code 20 = .ok (.lcmp, 1) := by decide +kernel
theorem d4_21 : decode prog_79_method_2_code 21 = .ok (.ifCond .ne 7, 3) := by decide +kernel
theorem d4_24 : decode prog_79_method_2_code 24 = .ok (.iconst 1, 1) := by decide +kernel
theorem d4_25 : decode prog_79_method_2_code 25 = .ok (.goto 4, 3) := by decide +kernel
theorem d4_28 : decode prog_79_method_2_code 28 = .ok (.iconst 0, 1) := by decide +kernel
theorem d4_29 : decode prog_79_method_2_code 29 = .ok (.ireturn, 1) := by decide +kernel
theorem pn_4 : plainName "com/example/volens/volens/core/term/Int" = true := by first | (simp [plainName, overriddenIn]; done) | decide +kernel
theorem ef_4 (m : MethodId) (x0 : Addr) (x1 : Addr) : entryFrame m #[(.ref x0), (.ref x1)] 3 = mkF m 0 #[.val (.ref x0), .val (.ref x1), .unset] [] := by first | (simp [entryFrame, mkF, argsToLocals, Value.category]; done) | rfl
def Q4 (Z : State) (a1 : Addr) (a2 : Addr) (q1 : Int64) (q2 : Int64) (h0 : Heap) (n0 : Nat) (v : Option Value) (h : Heap) (L : List Loc) : Prop := v = some (.int (own_eqL q1 q2)) ∧ Fr n0 L ∧ h = h0
set_option maxRecDepth 65536 in
set_option maxHeartbeats 40000000 in
theorem rm4 (l : Launch) (Z : State) (a0 : Array Value) (hw : ∀ d ∈ tables_1, d.before a0 Z = true) (ws : List Jvm.Cond) (a1 : Addr) (a2 : Addr) (q1 : Int64) (q2 : Int64) (h0 : Heap) (n0 : Nat) (Z0 : n0 ≤ h0.size) (F1 : Fld Z h0 a1 "com/example/volens/volens/core/term/Int" "value" "J" (.long q1)) (F2 : Fld Z h0 a2 "com/example/volens/volens/core/term/Int" "value" "J" (.long q2)) (E2 : Exa Z h0 a2 "com/example/volens/volens/core/term/Int") :
    MetFree l (⟨"com/example/volens/volens/core/term/Int", "equals", "(Ljava/lang/Object;)Z"⟩ : MethodName) (head1 (Jvm.Cond.code (⟨"com/example/volens/volens/core/term/Int", "equals", "(Ljava/lang/Object;)Z"⟩ : MethodName) prog_79_method_2_code 3 (some .boolean) :: ws) ({ frames := 0, cells := 0, slots := 0, locals := 0 } : Room)) (fun a U => a = #[(.ref a1), (.ref a2)] ∧ Z.Warmed39 U.vm ∧ U.heap = h0) (fun _ _ _ _ _ => True) (fun _ U o U' => ∃ v L, o = .returned v ∧ Q4 Z a1 a2 q1 q2 h0 n0 v U'.heap L ∧ FrameEnd U o U' L ({ frames := 0, cells := 0, slots := 0, locals := 0 } : Room).cells ({ frames := 0, cells := 0, slots := 0, locals := 0 } : Room).slots) := by
  have ww14 := hw _ (List.mem_of_getElem? (i := 14) rfl)
  have ww21 := hw _ (List.mem_of_getElem? (i := 21) rfl)
  refine MetFree.of_bodySF (plainFor_of_name pn_4) hisR ?_
  intro p e s m args below meth c s₁ Bd hml0 hP hK
  obtain ⟨rfl, hZ, hh⟩ := hP
  have hx := Bd.exec
  have hby := Bd.bytes
  have hlk : meth.locks = false := Bd.notSynchronized
  have hret := Bd.returns
  have hml : c.maxLocals = 3 := hml0
  have hown : s.vm.findClass "com/example/volens/volens/core/term/Int" = some m.cls := findClass_of_methodNamed Bd.named
  have hnm := (name_of_methodNamed Bd.named Bd.method).1
  have X0 : Stand p l e ({ frames := 0, cells := 0, slots := 0, locals := 0 } : Room) s m #[(.ref a1), (.ref a2)] below meth c s₁ [] 0 0 := Stand.of_body Bd
  have e0 : s₁.heap = h0 := by rw [← hh, Bd.state]; rfl
  have N0 := Fr.nil n0
  have K0 := Keep.refl h0 []
  show OwnEnd p e below s (Q4 Z a1 a2 q1 q2 h0 n0) ({ frames := 0, cells := 0, slots := 0, locals := 0 } : Room).cells ({ frames := 0, cells := 0, slots := 0, locals := 0 } : Room).slots _
  refine OwnEnd.go (fun _ k => castTop (ef_4 m a1 a2) k) ?_
  show OwnEnd p e below s _ _ _ (s₁.setTop (mkF m 0 #[.val (.ref a1), .val (.ref a2), .unset] []))
  refine OwnEnd.go (fun _ k => XS.aloadN X0.here hx rfl (hb hby d4_0) rfl rfl k) ?_
  show OwnEnd p e below s _ _ _ (s₁.setTop (mkF m 1 #[.val (.ref a1), .val (.ref a2), .unset] [(.ref a2)]))
  obtain ⟨T1, X1, e1, st1⟩ := instY X0 hx hZ hown ww21 e0 (Ins.self E2) (g := (mkF m 1 #[.val (.ref a1), .val (.ref a2), .unset] [(.ref a2)])) rfl rfl (hb hby d4_1)
  refine OwnEnd.go (fun _ k => st1 _ k) ?_
  show OwnEnd p e below s _ _ _ (T1.setTop (mkF m 4 #[.val (.ref a1), .val (.ref a2), .unset] [(.int (1 : Int32))]))
  refine OwnEnd.go (fun _ k => XS.ifNo X1.here hx rfl (hb hby d4_4) rfl ((if0 _ _).trans (feq (by decide : ¬ (1 : Int32) = (0 : Int32))).1) k) ?_
  show OwnEnd p e below s _ _ _ (T1.setTop (mkF m 7 #[.val (.ref a1), .val (.ref a2), .unset] []))
  refine OwnEnd.go (fun _ k => XS.aloadN X1.here hx rfl (hb hby d4_7) rfl rfl k) ?_
  show OwnEnd p e below s _ _ _ (T1.setTop (mkF m 8 #[.val (.ref a1), .val (.ref a2), .unset] [(.ref a2)]))
  obtain ⟨T2, X2, e2, st2⟩ := castY X1 hx hZ hown ww21 e1 (Ins.self E2) (g := (mkF m 8 #[.val (.ref a1), .val (.ref a2), .unset] [(.ref a2)])) rfl rfl (hb hby d4_8)
  refine OwnEnd.go (fun _ k => st2 _ k) ?_
  show OwnEnd p e below s _ _ _ (T2.setTop (mkF m 11 #[.val (.ref a1), .val (.ref a2), .unset] [(.ref a2)]))
  refine OwnEnd.go (fun _ k => XS.astoreN X2.here hx rfl (hb hby d4_11) rfl rfl (l' := #[.val (.ref a1), .val (.ref a2), .val (.ref a2)]) rfl k) ?_
  show OwnEnd p e below s _ _ _ (T2.setTop (mkF m 12 #[.val (.ref a1), .val (.ref a2), .val (.ref a2)] []))
  refine OwnEnd.go (fun _ k => XS.aloadN X2.here hx rfl (hb hby d4_12) rfl rfl k) ?_
  show OwnEnd p e below s _ _ _ (T2.setTop (mkF m 13 #[.val (.ref a1), .val (.ref a2), .val (.ref a2)] [(.ref a1)]))
  obtain ⟨T3, X3, e3, st3⟩ := getF X2 hx hZ hown (host := "") (Or.inl ww14) Via.refl e2 F1 (g := (mkF m 13 #[.val (.ref a1), .val (.ref a2), .val (.ref a2)] [(.ref a1)])) rfl rfl (hb hby d4_13)
  refine OwnEnd.go (fun _ k => st3 _ k) ?_
  show OwnEnd p e below s _ _ _ (T3.setTop (mkF m 16 #[.val (.ref a1), .val (.ref a2), .val (.ref a2)] [(.long q1)]))
  refine OwnEnd.go (fun _ k => XS.aloadN X3.here hx rfl (hb hby d4_16) rfl rfl k) ?_
  show OwnEnd p e below s _ _ _ (T3.setTop (mkF m 17 #[.val (.ref a1), .val (.ref a2), .val (.ref a2)] [(.ref a2), (.long q1)]))
  obtain ⟨T4, X4, e4, st4⟩ := getF X3 hx hZ hown (host := "") (Or.inl ww14) Via.refl e3 F2 (g := (mkF m 17 #[.val (.ref a1), .val (.ref a2), .val (.ref a2)] [(.ref a2), (.long q1)])) rfl rfl (hb hby d4_17)
  refine OwnEnd.go (fun _ k => st4 _ k) ?_
  show OwnEnd p e below s _ _ _ (T4.setTop (mkF m 20 #[.val (.ref a1), .val (.ref a2), .val (.ref a2)] [(.long q2), (.long q1)]))
  refine OwnEnd.go (fun _ k => XS.lcmp X4.here hx rfl (hb hby d4_20) rfl k) ?_
  show OwnEnd p e below s _ _ _ (T4.setTop (mkF m 21 #[.val (.ref a1), .val (.ref a2), .val (.ref a2)] [(.int (lcmpW q1 q2))]))
  by_cases hc5 : q1 = q2
  · refine OwnEnd.go (fun _ k => XS.ifNo X4.here hx rfl (hb hby d4_21) rfl (ownEq hc5).2 k) ?_
    show OwnEnd p e below s _ _ _ (T4.setTop (mkF m 24 #[.val (.ref a1), .val (.ref a2), .val (.ref a2)] []))
    refine OwnEnd.go (fun _ k => XS.iconst X4.here hx rfl (hb hby d4_24) k) ?_
    show OwnEnd p e below s _ _ _ (T4.setTop (mkF m 25 #[.val (.ref a1), .val (.ref a2), .val (.ref a2)] [(.int (1 : Int32))]))
    refine OwnEnd.go (fun _ k => XS.goto X4.here hx rfl (pc0 := 25) (pc' := 29) rfl (hb hby d4_25) (by decide) (by decide) k) ?_
    show OwnEnd p e below s _ _ _ (T4.setTop (mkF m 29 #[.val (.ref a1), .val (.ref a2), .val (.ref a2)] [(.int (1 : Int32))]))
    refine ownRetZ X4 hx hlk hret (hb hby d4_29) (by decide) (by decide) (1 : Int32) (by decide) ?_
    show Q4 Z a1 a2 q1 q2 h0 n0 _ T4.heap _
    rw [e4]
    refine ⟨?_, N0, rfl⟩
    rw [own_eqL_t hc5]
  · refine OwnEnd.go (fun _ k => XS.ifYes X4.here hx rfl (pc0 := 21) (pc' := 28) rfl (hb hby d4_21) rfl (ownNeq hc5).2 (by decide) (by decide) k) ?_
    show OwnEnd p e below s _ _ _ (T4.setTop (mkF m 28 #[.val (.ref a1), .val (.ref a2), .val (.ref a2)] []))
    refine OwnEnd.go (fun _ k => XS.iconst X4.here hx rfl (hb hby d4_28) k) ?_
    show OwnEnd p e below s _ _ _ (T4.setTop (mkF m 29 #[.val (.ref a1), .val (.ref a2), .val (.ref a2)] [(.int (0 : Int32))]))
    refine ownRetZ X4 hx hlk hret (hb hby d4_29) (by decide) (by decide) (0 : Int32) (by decide) ?_
    show Q4 Z a1 a2 q1 q2 h0 n0 _ T4.heap _
    rw [e4]
    refine ⟨?_, N0, rfl⟩
    rw [own_eqL_f hc5]
theorem d4n_0 : decode prog_79_method_2_code 0 = .ok (.aload_n 1, 1) := by decide +kernel
theorem d4n_1 : decode prog_79_method_2_code 1 = .ok (.instanceof 8, 3) := by decide +kernel
theorem d4n_4 : decode prog_79_method_2_code 4 = .ok (.ifCond .eq 24, 3) := by decide +kernel
theorem d4n_28 : decode prog_79_method_2_code 28 = .ok (.iconst 0, 1) := by decide +kernel
theorem d4n_29 : decode prog_79_method_2_code 29 = .ok (.ireturn, 1) := by decide +kernel
theorem pn_4n : plainName "com/example/volens/volens/core/term/Int" = true := by first | (simp [plainName, overriddenIn]; done) | decide +kernel
theorem ef_4n (m : MethodId) (x0 : Addr) : entryFrame m #[(.ref x0), .null] 3 = mkF m 0 #[.val (.ref x0), .val .null, .unset] [] := by first | (simp [entryFrame, mkF, argsToLocals, Value.category]; done) | rfl
def Q4n (Z : State) (a1 : Addr) (h0 : Heap) (n0 : Nat) (v : Option Value) (h : Heap) (L : List Loc) : Prop := v = some (.int (0 : Int32)) ∧ Fr n0 L ∧ h = h0
set_option maxRecDepth 65536 in
set_option maxHeartbeats 40000000 in
theorem rm4n (l : Launch) (Z : State) (a0 : Array Value) (hw : ∀ d ∈ tables_1, d.before a0 Z = true) (ws : List Jvm.Cond) (a1 : Addr) (h0 : Heap) (n0 : Nat) (Z0 : n0 ≤ h0.size) :
    MetFree l (⟨"com/example/volens/volens/core/term/Int", "equals", "(Ljava/lang/Object;)Z"⟩ : MethodName) (head1 (Jvm.Cond.code (⟨"com/example/volens/volens/core/term/Int", "equals", "(Ljava/lang/Object;)Z"⟩ : MethodName) prog_79_method_2_code 3 (some .boolean) :: ws) ({ frames := 0, cells := 0, slots := 0, locals := 0 } : Room)) (fun a U => a = #[(.ref a1), .null] ∧ Z.Warmed39 U.vm ∧ U.heap = h0) (fun _ _ _ _ _ => True) (fun _ U o U' => ∃ v L, o = .returned v ∧ Q4n Z a1 h0 n0 v U'.heap L ∧ FrameEnd U o U' L ({ frames := 0, cells := 0, slots := 0, locals := 0 } : Room).cells ({ frames := 0, cells := 0, slots := 0, locals := 0 } : Room).slots) := by
  have ww21 := hw _ (List.mem_of_getElem? (i := 21) rfl)
  refine MetFree.of_bodySF (plainFor_of_name pn_4n) hisR ?_
  intro p e s m args below meth c s₁ Bd hml0 hP hK
  obtain ⟨rfl, hZ, hh⟩ := hP
  have hx := Bd.exec
  have hby := Bd.bytes
  have hlk : meth.locks = false := Bd.notSynchronized
  have hret := Bd.returns
  have hml : c.maxLocals = 3 := hml0
  have hown : s.vm.findClass "com/example/volens/volens/core/term/Int" = some m.cls := findClass_of_methodNamed Bd.named
  have hnm := (name_of_methodNamed Bd.named Bd.method).1
  have X0 : Stand p l e ({ frames := 0, cells := 0, slots := 0, locals := 0 } : Room) s m #[(.ref a1), .null] below meth c s₁ [] 0 0 := Stand.of_body Bd
  have e0 : s₁.heap = h0 := by rw [← hh, Bd.state]; rfl
  have N0 := Fr.nil n0
  have K0 := Keep.refl h0 []
  show OwnEnd p e below s (Q4n Z a1 h0 n0) ({ frames := 0, cells := 0, slots := 0, locals := 0 } : Room).cells ({ frames := 0, cells := 0, slots := 0, locals := 0 } : Room).slots _
  refine OwnEnd.go (fun _ k => castTop (ef_4n m a1) k) ?_
  show OwnEnd p e below s _ _ _ (s₁.setTop (mkF m 0 #[.val (.ref a1), .val .null, .unset] []))
  refine OwnEnd.go (fun _ k => XS.aloadN X0.here hx rfl (hb hby d4n_0) rfl rfl k) ?_
  show OwnEnd p e below s _ _ _ (s₁.setTop (mkF m 1 #[.val (.ref a1), .val .null, .unset] [.null]))
  refine OwnEnd.go (fun _ k => X0.instanceofNull hx (g := (mkF m 1 #[.val (.ref a1), .val .null, .unset] [.null])) rfl rfl (hb hby d4n_1) _ k) ?_
  show OwnEnd p e below s _ _ _ (s₁.setTop (mkF m 4 #[.val (.ref a1), .val .null, .unset] [(.int (0 : Int32))]))
  refine OwnEnd.go (fun _ k => XS.ifYes X0.here hx rfl (pc0 := 4) (pc' := 28) rfl (hb hby d4n_4) rfl ((if0 _ _).trans (teq (by decide : (0 : Int32) = (0 : Int32))).1) (by decide) (by decide) k) ?_
  show OwnEnd p e below s _ _ _ (s₁.setTop (mkF m 28 #[.val (.ref a1), .val .null, .unset] []))
  refine OwnEnd.go (fun _ k => XS.iconst X0.here hx rfl (hb hby d4n_28) k) ?_
  show OwnEnd p e below s _ _ _ (s₁.setTop (mkF m 29 #[.val (.ref a1), .val .null, .unset] [(.int (0 : Int32))]))
  refine ownRetZ X0 hx hlk hret (hb hby d4n_29) (by decide) (by decide) (0 : Int32) (by decide) ?_
  show Q4n Z a1 h0 n0 _ s₁.heap _
  rw [e0]
  exact ⟨rfl, N0, rfl⟩
theorem d4o_0 : decode prog_79_method_2_code 0 = .ok (.aload_n 1, 1) := by decide +kernel
theorem d4o_1 : decode prog_79_method_2_code 1 = .ok (.instanceof 8, 3) := by decide +kernel
theorem d4o_4 : decode prog_79_method_2_code 4 = .ok (.ifCond .eq 24, 3) := by decide +kernel
theorem d4o_28 : decode prog_79_method_2_code 28 = .ok (.iconst 0, 1) := by decide +kernel
theorem d4o_29 : decode prog_79_method_2_code 29 = .ok (.ireturn, 1) := by decide +kernel
theorem pn_4o : plainName "com/example/volens/volens/core/term/Int" = true := by first | (simp [plainName, overriddenIn]; done) | decide +kernel
theorem ef_4o (m : MethodId) (x0 : Addr) (x1 : Addr) : entryFrame m #[(.ref x0), (.ref x1)] 3 = mkF m 0 #[.val (.ref x0), .val (.ref x1), .unset] [] := by first | (simp [entryFrame, mkF, argsToLocals, Value.category]; done) | rfl
def Q4o (Z : State) (a1 : Addr) (a2 : Addr) (C : String) (h0 : Heap) (n0 : Nat) (v : Option Value) (h : Heap) (L : List Loc) : Prop := v = some (.int (0 : Int32)) ∧ Fr n0 L ∧ h = h0
set_option maxRecDepth 65536 in
set_option maxHeartbeats 40000000 in
theorem rm4o (l : Launch) (Z : State) (a0 : Array Value) (hw : ∀ d ∈ tables_1, d.before a0 Z = true) (ws : List Jvm.Cond) (a1 : Addr) (a2 : Addr) (C : String) (h0 : Heap) (n0 : Nat) (Z0 : n0 ≤ h0.size) (E2 : Exa Z h0 a2 C) (NO : ∃ c t, Z.vm.findClass C = some c ∧ Z.vm.findClass "com/example/volens/volens/core/term/Int" = some t ∧ Z.vm.assignable c t = false) :
    MetFree l (⟨"com/example/volens/volens/core/term/Int", "equals", "(Ljava/lang/Object;)Z"⟩ : MethodName) (head1 (Jvm.Cond.code (⟨"com/example/volens/volens/core/term/Int", "equals", "(Ljava/lang/Object;)Z"⟩ : MethodName) prog_79_method_2_code 3 (some .boolean) :: ws) ({ frames := 0, cells := 0, slots := 0, locals := 0 } : Room)) (fun a U => a = #[(.ref a1), (.ref a2)] ∧ Z.Warmed39 U.vm ∧ U.heap = h0) (fun _ _ _ _ _ => True) (fun _ U o U' => ∃ v L, o = .returned v ∧ Q4o Z a1 a2 C h0 n0 v U'.heap L ∧ FrameEnd U o U' L ({ frames := 0, cells := 0, slots := 0, locals := 0 } : Room).cells ({ frames := 0, cells := 0, slots := 0, locals := 0 } : Room).slots) := by
  have ww21 := hw _ (List.mem_of_getElem? (i := 21) rfl)
  refine MetFree.of_bodySF (plainFor_of_name pn_4o) hisR ?_
  intro p e s m args below meth c s₁ Bd hml0 hP hK
  obtain ⟨rfl, hZ, hh⟩ := hP
  have hx := Bd.exec
  have hby := Bd.bytes
  have hlk : meth.locks = false := Bd.notSynchronized
  have hret := Bd.returns
  have hml : c.maxLocals = 3 := hml0
  have hown : s.vm.findClass "com/example/volens/volens/core/term/Int" = some m.cls := findClass_of_methodNamed Bd.named
  have hnm := (name_of_methodNamed Bd.named Bd.method).1
  have X0 : Stand p l e ({ frames := 0, cells := 0, slots := 0, locals := 0 } : Room) s m #[(.ref a1), (.ref a2)] below meth c s₁ [] 0 0 := Stand.of_body Bd
  have e0 : s₁.heap = h0 := by rw [← hh, Bd.state]; rfl
  have N0 := Fr.nil n0
  have K0 := Keep.refl h0 []
  show OwnEnd p e below s (Q4o Z a1 a2 C h0 n0) ({ frames := 0, cells := 0, slots := 0, locals := 0 } : Room).cells ({ frames := 0, cells := 0, slots := 0, locals := 0 } : Room).slots _
  refine OwnEnd.go (fun _ k => castTop (ef_4o m a1 a2) k) ?_
  show OwnEnd p e below s _ _ _ (s₁.setTop (mkF m 0 #[.val (.ref a1), .val (.ref a2), .unset] []))
  refine OwnEnd.go (fun _ k => XS.aloadN X0.here hx rfl (hb hby d4o_0) rfl rfl k) ?_
  show OwnEnd p e below s _ _ _ (s₁.setTop (mkF m 1 #[.val (.ref a1), .val (.ref a2), .unset] [(.ref a2)]))
  obtain ⟨T1, X1, e1, st1⟩ := instNo X0 hx hZ hown ww21 e0 E2 NO (g := (mkF m 1 #[.val (.ref a1), .val (.ref a2), .unset] [(.ref a2)])) rfl rfl (hb hby d4o_1)
  refine OwnEnd.go (fun _ k => st1 _ k) ?_
  show OwnEnd p e below s _ _ _ (T1.setTop (mkF m 4 #[.val (.ref a1), .val (.ref a2), .unset] [(.int (0 : Int32))]))
  refine OwnEnd.go (fun _ k => XS.ifYes X1.here hx rfl (pc0 := 4) (pc' := 28) rfl (hb hby d4o_4) rfl ((if0 _ _).trans (teq (by decide : (0 : Int32) = (0 : Int32))).1) (by decide) (by decide) k) ?_
  show OwnEnd p e below s _ _ _ (T1.setTop (mkF m 28 #[.val (.ref a1), .val (.ref a2), .unset] []))
  refine OwnEnd.go (fun _ k => XS.iconst X1.here hx rfl (hb hby d4o_28) k) ?_
  show OwnEnd p e below s _ _ _ (T1.setTop (mkF m 29 #[.val (.ref a1), .val (.ref a2), .unset] [(.int (0 : Int32))]))
  refine ownRetZ X1 hx hlk hret (hb hby d4o_29) (by decide) (by decide) (0 : Int32) (by decide) ?_
  show Q4o Z a1 a2 C h0 n0 _ T1.heap _
  rw [e1]
  exact ⟨rfl, N0, rfl⟩
theorem d5_0 : decode jdk_35_method_24_code 0 = .ok (.sipush 128, 3) := by decide +kernel
theorem d5_3 : decode jdk_35_method_24_code 3 = .ok (.istore_n 2, 1) := by decide +kernel
theorem d5_4 : decode jdk_35_method_24_code 4 = .ok (.lload_n 0, 1) := by decide +kernel
theorem d5_5 : decode jdk_35_method_24_code 5 = .ok (.ldc2_w 230, 3) := by decide +kernel
theorem d5_8 : decode jdk_35_method_24_code 8 = .ok (.lcmp, 1) := by decide +kernel
theorem d5_9 : decode jdk_35_method_24_code 9 = .ok (.ifCond .lt 22, 3) := by decide +kernel
theorem d5_12 : decode jdk_35_method_24_code 12 = .ok (.lload_n 0, 1) := by decide +kernel
theorem d5_13 : decode jdk_35_method_24_code 13 = .ok (.ldc2_w 232, 3) := by decide +kernel
theorem d5_16 : decode jdk_35_method_24_code 16 = .ok (.lcmp, 1) := by decide +kernel
theorem d5_17 : decode jdk_35_method_24_code 17 = .ok (.ifCond .gt 14, 3) := by decide +kernel
theorem d5_20 : decode jdk_35_method_24_code 20 = .ok (.getstatic 234, 3) := by decide +kernel
theorem d5_23 : decode jdk_35_method_24_code 23 = .ok (.lload_n 0, 1) := by decide +kernel
theorem d5_24 : decode jdk_35_method_24_code 24 = .ok (.l2i, 1) := by decide +kernel
theorem d5_25 : decode jdk_35_method_24_code 25 = .ok (.sipush 128, 3) := by decide +kernel
theorem d5_28 : decode jdk_35_method_24_code 28 = .ok (.iadd, 1) := by decide +kernel
theorem d5_29 : decode jdk_35_method_24_code 29 = .ok (.aaload, 1) := by decide +kernel
theorem d5_30 : decode jdk_35_method_24_code 30 = .ok (.areturn, 1) := by decide +kernel
theorem d5_31 : decode jdk_35_method_24_code 31 = .ok (.new 1, 3) := by decide +kernel
theorem d5_34 : decode jdk_35_method_24_code 34 = .ok (.dup, 1) := by decide +kernel
theorem d5_35 : decode jdk_35_method_24_code 35 = .ok (.lload_n 0, 1) := by decide +kernel
theorem d5_36 : decode jdk_35_method_24_code 36 = .ok (.invokespecial 240, 3) := by decide +kernel
theorem d5_39 : decode jdk_35_method_24_code 39 = .ok (.areturn, 1) := by decide +kernel
theorem pn_5 : plainName "java/lang/Long" = true := by first | (simp [plainName, overriddenIn]; done) | decide +kernel
theorem pd5_0 : parseMethodDescriptor "(J)V" = some ⟨[.long], none⟩ := by decide +kernel
theorem ef_5 (m : MethodId) (x0 : Int64) : entryFrame m #[(.long x0)] 3 = mkF m 0 #[.val (.long x0), .second, .unset] [] := by first | (simp [entryFrame, mkF, argsToLocals, Value.category]; done) | rfl
def Q5 (Z : State) (q1 : Int64) (ac : Addr) (h0 : Heap) (n0 : Nat) (v : Option Value) (h : Heap) (L : List Loc) : Prop := ∃ (xr : Addr), v = some (.ref xr) ∧ Fr n0 L ∧ Keep h0 h [] ∧ Exa Z h xr "java/lang/Long"
set_option maxRecDepth 65536 in
set_option maxHeartbeats 40000000 in
theorem rm5 (l : Launch) (Z : State) (a0 : Array Value) (hw : ∀ d ∈ tables_1, d.before a0 Z = true) (ws : List Jvm.Cond) (q1 : Int64) (ac : Addr) (h0 : Heap) (n0 : Nat) (Z0 : n0 ≤ h0.size) (O0 : Old Z n0 h0) (SC : Sta Z Z.heap "java/lang/Long$LongCache" "cache" "[Ljava/lang/Long;" (.ref ac)) (LC : own_LC Z ac) :
    MetFree l (⟨"java/lang/Long", "valueOf", "(J)Ljava/lang/Long;"⟩ : MethodName) (head1 (Jvm.Cond.code (⟨"java/lang/Long", "valueOf", "(J)Ljava/lang/Long;"⟩ : MethodName) jdk_35_method_24_code 3 (some (.object "java/lang/Long")) :: ws) ({ frames := 3, cells := 1, slots := 1, locals := 41 } : Room)) (fun a U => a = #[(.long q1)] ∧ Z.Warmed39 U.vm ∧ U.heap = h0) (fun _ _ _ _ _ => True) (fun _ U o U' => ∃ v L, o = .returned v ∧ Q5 Z q1 ac h0 n0 v U'.heap L ∧ FrameEnd U o U' L ({ frames := 3, cells := 1, slots := 1, locals := 41 } : Room).cells ({ frames := 3, cells := 1, slots := 1, locals := 41 } : Room).slots) := by
  have ww25 := hw _ (List.mem_of_getElem? (i := 25) rfl)
  have ww27 := hw _ (List.mem_of_getElem? (i := 27) rfl)
  have ww28 := hw _ (List.mem_of_getElem? (i := 28) rfl)
  have ww29 := hw _ (List.mem_of_getElem? (i := 29) rfl)
  have ww30 := hw _ (List.mem_of_getElem? (i := 30) rfl)
  have ww31 := hw _ (List.mem_of_getElem? (i := 31) rfl)
  have ww32 := hw _ (List.mem_of_getElem? (i := 32) rfl)
  have ww34 := hw _ (List.mem_of_getElem? (i := 34) rfl)
  have ww43 := hw _ (List.mem_of_getElem? (i := 43) rfl)
  have ww53 := hw _ (List.mem_of_getElem? (i := 53) rfl)
  refine MetFree.of_bodySF (plainFor_of_name pn_5) hisR ?_
  intro p e s m args below meth c s₁ Bd hml0 hP hK
  obtain ⟨rfl, hZ, hh⟩ := hP
  have hx := Bd.exec
  have hby := Bd.bytes
  have hlk : meth.locks = false := Bd.notSynchronized
  have hret := Bd.returns
  have hml : c.maxLocals = 3 := hml0
  have hown : s.vm.findClass "java/lang/Long" = some m.cls := findClass_of_methodNamed Bd.named
  have hnm := (name_of_methodNamed Bd.named Bd.method).1
  have X0 : Stand p l e ({ frames := 3, cells := 1, slots := 1, locals := 41 } : Room) s m #[(.long q1)] below meth c s₁ [] 0 0 := Stand.of_body Bd
  have e0 : s₁.heap = h0 := by rw [← hh, Bd.state]; rfl
  have N0 := Fr.nil n0
  have K0 := Keep.refl h0 []
  show OwnEnd p e below s (Q5 Z q1 ac h0 n0) ({ frames := 3, cells := 1, slots := 1, locals := 41 } : Room).cells ({ frames := 3, cells := 1, slots := 1, locals := 41 } : Room).slots _
  refine OwnEnd.go (fun _ k => castTop (ef_5 m q1) k) ?_
  show OwnEnd p e below s _ _ _ (s₁.setTop (mkF m 0 #[.val (.long q1), .second, .unset] []))
  refine OwnEnd.go (fun _ k => XS.sipush X0.here hx rfl (hb hby d5_0) k) ?_
  show OwnEnd p e below s _ _ _ (s₁.setTop (mkF m 3 #[.val (.long q1), .second, .unset] [(.int (128 : Int32))]))
  refine OwnEnd.go (fun _ k => XS.istoreN X0.here hx rfl (hb hby d5_3) rfl  (l' := #[.val (.long q1), .second, .val (.int (128 : Int32))]) rfl k) ?_
  show OwnEnd p e below s _ _ _ (s₁.setTop (mkF m 4 #[.val (.long q1), .second, .val (.int (128 : Int32))] []))
  refine OwnEnd.go (fun _ k => XS.lloadN X0.here hx rfl (hb hby d5_4) rfl  k) ?_
  show OwnEnd p e below s _ _ _ (s₁.setTop (mkF m 5 #[.val (.long q1), .second, .val (.int (128 : Int32))] [(.long q1)]))
  refine OwnEnd.go (fun _ k => X0.ldc2J hx hown (mvT hZ ww27) (g := (mkF m 5 #[.val (.long q1), .second, .val (.int (128 : Int32))] [(.long q1)])) rfl (hb hby d5_5) k) ?_
  show OwnEnd p e below s _ _ _ (s₁.setTop (mkF m 8 #[.val (.long q1), .second, .val (.int (128 : Int32))] [(.long (-128 : Int64)), (.long q1)]))
  refine OwnEnd.go (fun _ k => XS.lcmp X0.here hx rfl (hb hby d5_8) rfl k) ?_
  show OwnEnd p e below s _ _ _ (s₁.setTop (mkF m 9 #[.val (.long q1), .second, .val (.int (128 : Int32))] [(.int (lcmpW q1 (-128 : Int64)))]))
  by_cases hc1 : q1 < (-128 : Int64)
  · refine OwnEnd.go (fun _ k => XS.ifYes X0.here hx rfl (pc0 := 9) (pc' := 31) rfl (hb hby d5_9) rfl (ownLt hc1).1 (by decide) (by decide) k) ?_
    show OwnEnd p e below s _ _ _ (s₁.setTop (mkF m 31 #[.val (.long q1), .second, .val (.int (128 : Int32))] []))
    obtain ⟨T2, h2, X2, e2, E2, A2, D2, -, st2⟩ := newO X0 hx hZ hown ww29 ww30 ww25 e0 (g := (mkF m 31 #[.val (.long q1), .second, .val (.int (128 : Int32))] [])) rfl (hb hby d5_31) (by decide) (by decide)
    obtain ⟨b2, g2⟩ : ∃ z, z = h0.size := ⟨_, rfl⟩
    rw [← g2] at A2 D2 st2
    have u2 : n0 ≤ b2 := Nat.le_trans Z0 (Nat.le_of_eq g2.symm)
    have v2 : h0.size ≤ b2 := Nat.le_trans K0.1 (Nat.le_of_eq g2.symm)
    have K2 := K0.ext E2
    have Y2 := Nat.le_trans Z0 E2.1
    have O2 := O0.ext E2
    have F3 : Fld Z h2 b2 "java/lang/Long" "value" "J" (.long (0 : Int64)) := D2 (Or.inr ww43) (ty := .long) (by decide)
    refine OwnEnd.go (fun _ k => st2 _ k) ?_
    show OwnEnd p e below s _ _ _ (T2.setTop (mkF m 34 #[.val (.long q1), .second, .val (.int (128 : Int32))] [(.ref b2)]))
    refine OwnEnd.go (fun _ k => XS.dup X2.here hx rfl (hb hby d5_34) rfl rfl k) ?_
    show OwnEnd p e below s _ _ _ (T2.setTop (mkF m 35 #[.val (.long q1), .second, .val (.int (128 : Int32))] [(.ref b2), (.ref b2)]))
    refine OwnEnd.go (fun _ k => XS.lloadN X2.here hx rfl (hb hby d5_35) rfl  k) ?_
    show OwnEnd p e below s _ _ _ (T2.setTop (mkF m 36 #[.val (.long q1), .second, .val (.int (128 : Int32))] [(.long q1), (.ref b2), (.ref b2)]))
    obtain ⟨_, T4, L4, X4, hQ4, st4⟩ := ownCallI X2 hx hZ hown rfl ww31 ww32 ww25 ww34 (by decide) (rm6 l Z a0 hw [] b2 q1 (.long (0 : Int64)) h2 n0 Y2  F3 A2 u2) e2 (b := b2) 1 (by decide) (by decide) (by decide) (by decide) (g := (mkF m 36 #[.val (.long q1), .second, .val (.int (128 : Int32))] [(.long q1), (.ref b2), (.ref b2)])) rfl (by rw [hml]; rfl) (argsL := [(.long q1)]) (rest := [(.ref b2)]) (lenOf pd5_0 rfl) rfl rfl (by show 2 * 0 + _ ≤ _; exact Nat.le_of_eq rfl) (hb hby d5_36)
    obtain ⟨rfl, N4q, K4q, P5, P6⟩ := hQ4
    have N4 := Fr.app N0 N4q
    have F7 := A2.keep K4q
    have K4 := K2.trans K4q (allS (Or.inr v2) all0)
    have Y4 := Nat.le_trans Y2 K4q.1
    have O4 := O2.keep K4q (allS u2 all0)
    refine OwnEnd.go (fun _ k => st4 _ k) ?_
    show OwnEnd p e below s _ _ _ (T4.setTop (mkF m 39 #[.val (.long q1), .second, .val (.int (128 : Int32))] [(.ref b2)]))
    refine ownRetA X4 hx hlk hret rfl rfl rfl (hb hby d5_39) (by decide) (by decide) ?_
    show Q5 Z q1 ac h0 n0 _ T4.heap _
    exact ⟨_, rfl, N4, K4, P5⟩
  · refine OwnEnd.go (fun _ k => XS.ifNo X0.here hx rfl (hb hby d5_9) rfl (ownNlt hc1).1 k) ?_
    show OwnEnd p e below s _ _ _ (s₁.setTop (mkF m 12 #[.val (.long q1), .second, .val (.int (128 : Int32))] []))
    refine OwnEnd.go (fun _ k => XS.lloadN X0.here hx rfl (hb hby d5_12) rfl  k) ?_
    show OwnEnd p e below s _ _ _ (s₁.setTop (mkF m 13 #[.val (.long q1), .second, .val (.int (128 : Int32))] [(.long q1)]))
    refine OwnEnd.go (fun _ k => X0.ldc2J hx hown (mvT hZ ww28) (g := (mkF m 13 #[.val (.long q1), .second, .val (.int (128 : Int32))] [(.long q1)])) rfl (hb hby d5_13) k) ?_
    show OwnEnd p e below s _ _ _ (s₁.setTop (mkF m 16 #[.val (.long q1), .second, .val (.int (128 : Int32))] [(.long (127 : Int64)), (.long q1)]))
    refine OwnEnd.go (fun _ k => XS.lcmp X0.here hx rfl (hb hby d5_16) rfl k) ?_
    show OwnEnd p e below s _ _ _ (s₁.setTop (mkF m 17 #[.val (.long q1), .second, .val (.int (128 : Int32))] [(.int (lcmpW q1 (127 : Int64)))]))
    by_cases hc9 : (127 : Int64) < q1
    · refine OwnEnd.go (fun _ k => XS.ifYes X0.here hx rfl (pc0 := 17) (pc' := 31) rfl (hb hby d5_17) rfl (ownLt hc9).2.2.1 (by decide) (by decide) k) ?_
      show OwnEnd p e below s _ _ _ (s₁.setTop (mkF m 31 #[.val (.long q1), .second, .val (.int (128 : Int32))] []))
      obtain ⟨T10, h10, X10, e10, E10, A10, D10, -, st10⟩ := newO X0 hx hZ hown ww29 ww30 ww25 e0 (g := (mkF m 31 #[.val (.long q1), .second, .val (.int (128 : Int32))] [])) rfl (hb hby d5_31) (by decide) (by decide)
      obtain ⟨b10, g10⟩ : ∃ z, z = h0.size := ⟨_, rfl⟩
      rw [← g10] at A10 D10 st10
      have u10 : n0 ≤ b10 := Nat.le_trans Z0 (Nat.le_of_eq g10.symm)
      have v10 : h0.size ≤ b10 := Nat.le_trans K0.1 (Nat.le_of_eq g10.symm)
      have K10 := K0.ext E10
      have Y10 := Nat.le_trans Z0 E10.1
      have O10 := O0.ext E10
      have F11 : Fld Z h10 b10 "java/lang/Long" "value" "J" (.long (0 : Int64)) := D10 (Or.inr ww43) (ty := .long) (by decide)
      refine OwnEnd.go (fun _ k => st10 _ k) ?_
      show OwnEnd p e below s _ _ _ (T10.setTop (mkF m 34 #[.val (.long q1), .second, .val (.int (128 : Int32))] [(.ref b10)]))
      refine OwnEnd.go (fun _ k => XS.dup X10.here hx rfl (hb hby d5_34) rfl rfl k) ?_
      show OwnEnd p e below s _ _ _ (T10.setTop (mkF m 35 #[.val (.long q1), .second, .val (.int (128 : Int32))] [(.ref b10), (.ref b10)]))
      refine OwnEnd.go (fun _ k => XS.lloadN X10.here hx rfl (hb hby d5_35) rfl  k) ?_
      show OwnEnd p e below s _ _ _ (T10.setTop (mkF m 36 #[.val (.long q1), .second, .val (.int (128 : Int32))] [(.long q1), (.ref b10), (.ref b10)]))
      obtain ⟨_, T12, L12, X12, hQ12, st12⟩ := ownCallI X10 hx hZ hown rfl ww31 ww32 ww25 ww34 (by decide) (rm6 l Z a0 hw [] b10 q1 (.long (0 : Int64)) h10 n0 Y10  F11 A10 u10) e10 (b := b10) 1 (by decide) (by decide) (by decide) (by decide) (g := (mkF m 36 #[.val (.long q1), .second, .val (.int (128 : Int32))] [(.long q1), (.ref b10), (.ref b10)])) rfl (by rw [hml]; rfl) (argsL := [(.long q1)]) (rest := [(.ref b10)]) (lenOf pd5_0 rfl) rfl rfl (by show 2 * 0 + _ ≤ _; exact Nat.le_of_eq rfl) (hb hby d5_36)
      obtain ⟨rfl, N12q, K12q, P13, P14⟩ := hQ12
      have N12 := Fr.app N0 N12q
      have F15 := A10.keep K12q
      have K12 := K10.trans K12q (allS (Or.inr v10) all0)
      have Y12 := Nat.le_trans Y10 K12q.1
      have O12 := O10.keep K12q (allS u10 all0)
      refine OwnEnd.go (fun _ k => st12 _ k) ?_
      show OwnEnd p e below s _ _ _ (T12.setTop (mkF m 39 #[.val (.long q1), .second, .val (.int (128 : Int32))] [(.ref b10)]))
      refine ownRetA X12 hx hlk hret rfl rfl rfl (hb hby d5_39) (by decide) (by decide) ?_
      show Q5 Z q1 ac h0 n0 _ T12.heap _
      exact ⟨_, rfl, N12, K12, P13⟩
    · refine OwnEnd.go (fun _ k => XS.ifNo X0.here hx rfl (hb hby d5_17) rfl (ownNlt hc9).2.2.1 k) ?_
      show OwnEnd p e below s _ _ _ (s₁.setTop (mkF m 20 #[.val (.long q1), .second, .val (.int (128 : Int32))] []))
      obtain ⟨T17, X17, e17, st17⟩ := getS2 X0 hx hZ hown (host := "") (Or.inl ww53) Via.refl e0 (SC.ext O0.2) (g := (mkF m 20 #[.val (.long q1), .second, .val (.int (128 : Int32))] [])) rfl (hb hby d5_20)
      refine OwnEnd.go (fun _ k => st17 _ k) ?_
      show OwnEnd p e below s _ _ _ (T17.setTop (mkF m 23 #[.val (.long q1), .second, .val (.int (128 : Int32))] [(.ref ac)]))
      refine OwnEnd.go (fun _ k => XS.lloadN X17.here hx rfl (hb hby d5_23) rfl  k) ?_
      show OwnEnd p e below s _ _ _ (T17.setTop (mkF m 24 #[.val (.long q1), .second, .val (.int (128 : Int32))] [(.long q1), (.ref ac)]))
      refine OwnEnd.go (fun _ k => XS.l2i X17.here hx rfl (hb hby d5_24) rfl k) ?_
      show OwnEnd p e below s _ _ _ (T17.setTop (mkF m 25 #[.val (.long q1), .second, .val (.int (128 : Int32))] [(.int (q1.toInt32)), (.ref ac)]))
      refine OwnEnd.go (fun _ k => XS.sipush X17.here hx rfl (hb hby d5_25) k) ?_
      show OwnEnd p e below s _ _ _ (T17.setTop (mkF m 28 #[.val (.long q1), .second, .val (.int (128 : Int32))] [(.int (128 : Int32)), (.int (q1.toInt32)), (.ref ac)]))
      refine OwnEnd.go (fun _ k => XS.iadd X17.here hx rfl (hb hby d5_28) rfl k) ?_
      show OwnEnd p e below s _ _ _ (T17.setTop (mkF m 29 #[.val (.long q1), .second, .val (.int (128 : Int32))] [(.int ((q1.toInt32) + (128 : Int32))), (.ref ac)]))
      obtain ⟨cl, Ar, Sz, Al⟩ := LC
      obtain ⟨i1, i2⟩ := own_cidx hc1 hc9
      obtain ⟨bb, v1, Eb⟩ := Al _ i2
      have Ar' := Ar.ext O0.2
      have Eb' := Eb.ext O0.2
      have hin : ¬ (((q1.toInt32) + (128 : Int32)) < 0 ∨ cl.slots.size ≤ (((q1.toInt32) + (128 : Int32))).toNatClampNeg) := by rw [Sz]; rintro (q | q); exact i1 q; omega
      refine OwnEnd.go (fun _ k => X17.aaload hx (j := ((q1.toInt32) + (128 : Int32))) (v := (.ref bb)) (by rw [e17]; exact Ar'.1) (State.isArrayOf_alike hZ.alike Ar'.2.1) rfl Ar'.2.2 hin v1 (g := (mkF m 29 #[.val (.long q1), .second, .val (.int (128 : Int32))] [(.int ((q1.toInt32) + (128 : Int32))), (.ref ac)])) rfl rfl (hb hby d5_29) _ k) ?_
      show OwnEnd p e below s _ _ _ (T17.setTop (mkF m 30 #[.val (.long q1), .second, .val (.int (128 : Int32))] [(.ref bb)]))
      refine ownRetA X17 hx hlk hret rfl rfl rfl (hb hby d5_30) (by decide) (by decide) ?_
      show Q5 Z q1 ac h0 n0 _ T17.heap _
      rw [e17]
      exact ⟨_, rfl, N0, K0, Eb'⟩
theorem pn_0 : plainName "com/example/volens/volens/core/term/IntEqualsPinLaw" = true := by first | (simp [plainName, overriddenIn]; done) | decide +kernel
theorem pd0_0 : parseMethodDescriptor "(J)V" = some ⟨[.long], none⟩ := by decide +kernel
theorem pd0_1 : parseMethodDescriptor "(Ljava/lang/Object;)Z" = some ⟨[(.object "java/lang/Object")], some .boolean⟩ := by decide +kernel
theorem pd0_2 : parseMethodDescriptor "(J)Ljava/lang/Long;" = some ⟨[.long], some (.object "java/lang/Long")⟩ := by decide +kernel
theorem ef_0 (m : MethodId) (x0 : Int64) (x1 : Int64) (x2 : Int32) : entryFrame m #[(.long x0), (.long x1), (.int x2)] maxLocals = mkF m 0 #[.val (.long x0), .second, .val (.long x1), .second, .val (.int x2), .unset, .unset, .unset, .unset, .unset] [] := by first | (simp [entryFrame, mkF, argsToLocals, Value.category, maxLocals]; done) | rfl
def Q0 (Z : State) (q1 : Int64) (q2 : Int64) (p3 : Int32) (a_N : Addr) (ac : Addr) (h0 : Heap) (n0 : Nat) (v : Option Value) (h : Heap) (L : List Loc) : Prop := v = some (.int 1) ∧ Fr n0 L
set_option maxRecDepth 65536 in
set_option maxHeartbeats 40000000 in
theorem rm0 (l : Launch) (Z : State) (a0 : Array Value) (hw : ∀ d ∈ tables_1, d.before a0 Z = true) (ws : List Jvm.Cond) (q1 : Int64) (q2 : Int64) (p3 : Int32) (a_N : Addr) (ac : Addr) (h0 : Heap) (n0 : Nat) (Z0 : n0 ≤ h0.size) (O0 : Old Z n0 h0) (S_N : Sta Z Z.heap "com/example/volens/volens/core/term/Nil" "INSTANCE" "Lcom/example/volens/volens/core/term/Nil;" (.ref a_N)) (E_N : Exa Z h0 a_N "com/example/volens/volens/core/term/Nil") (SC : Sta Z Z.heap "java/lang/Long$LongCache" "cache" "[Ljava/lang/Long;" (.ref ac)) (LC : own_LC Z ac) :
    MetFree l x (head1 (Jvm.Cond.code x code maxLocals ret :: ws) room_1) (fun a U => a = #[(.long q1), (.long q2), (.int p3)] ∧ Z.Warmed39 U.vm ∧ U.heap = h0) (fun _ _ _ _ _ => True) (fun _ U o U' => ∃ v L, o = .returned v ∧ Q0 Z q1 q2 p3 a_N ac h0 n0 v U'.heap L ∧ FrameEnd U o U' L room_1.cells room_1.slots) := by
  have ww0 := hw _ (List.mem_of_getElem? (i := 0) rfl)
  have ww1 := hw _ (List.mem_of_getElem? (i := 1) rfl)
  have ww2 := hw _ (List.mem_of_getElem? (i := 2) rfl)
  have ww3 := hw _ (List.mem_of_getElem? (i := 3) rfl)
  have ww4 := hw _ (List.mem_of_getElem? (i := 4) rfl)
  have ww5 := hw _ (List.mem_of_getElem? (i := 5) rfl)
  have ww15 := hw _ (List.mem_of_getElem? (i := 15) rfl)
  have ww16 := hw _ (List.mem_of_getElem? (i := 16) rfl)
  have ww17 := hw _ (List.mem_of_getElem? (i := 17) rfl)
  have ww18 := hw _ (List.mem_of_getElem? (i := 18) rfl)
  have ww19 := hw _ (List.mem_of_getElem? (i := 19) rfl)
  have ww20 := hw _ (List.mem_of_getElem? (i := 20) rfl)
  have ww23 := hw _ (List.mem_of_getElem? (i := 23) rfl)
  have ww24 := hw _ (List.mem_of_getElem? (i := 24) rfl)
  have ww25 := hw _ (List.mem_of_getElem? (i := 25) rfl)
  have ww26 := hw _ (List.mem_of_getElem? (i := 26) rfl)
  have ww44 := hw _ (List.mem_of_getElem? (i := 44) rfl)
  have ww45 := hw _ (List.mem_of_getElem? (i := 45) rfl)
  have ww46 := hw _ (List.mem_of_getElem? (i := 46) rfl)
  have ww47 := hw _ (List.mem_of_getElem? (i := 47) rfl)
  have ww48 := hw _ (List.mem_of_getElem? (i := 48) rfl)
  have ww51 := hw _ (List.mem_of_getElem? (i := 51) rfl)
  have ww52 := hw _ (List.mem_of_getElem? (i := 52) rfl)
  refine MetFree.of_bodySF (plainFor_of_name pn_0) hisR ?_
  intro p e s m args below meth c s₁ Bd hml0 hP hK
  obtain ⟨rfl, hZ, hh⟩ := hP
  have hx := Bd.exec
  have hby := Bd.bytes
  have hlk : meth.locks = false := Bd.notSynchronized
  have hret := Bd.returns
  have hml : c.maxLocals = 10 := hml0
  have hown : s.vm.findClass "com/example/volens/volens/core/term/IntEqualsPinLaw" = some m.cls := findClass_of_methodNamed Bd.named
  have hnm := (name_of_methodNamed Bd.named Bd.method).1
  have X0 : Stand p l e room_1 s m #[(.long q1), (.long q2), (.int p3)] below meth c s₁ [] 0 0 := Stand.of_body Bd
  have e0 : s₁.heap = h0 := by rw [← hh, Bd.state]; rfl
  have N0 := Fr.nil n0
  have K0 := Keep.refl h0 []
  show OwnEnd p e below s (Q0 Z q1 q2 p3 a_N ac h0 n0) room_1.cells room_1.slots _
  refine OwnEnd.go (fun _ k => castTop (ef_0 m q1 q2 p3) k) ?_
  show OwnEnd p e below s _ _ _ (s₁.setTop (mkF m 0 #[.val (.long q1), .second, .val (.long q2), .second, .val (.int p3), .unset, .unset, .unset, .unset, .unset] []))
  obtain ⟨T1, h1, X1, e1, E1, A1, D1, -, st1⟩ := newO X0 hx hZ hown ww0 ww1 ww2 e0 (g := (mkF m 0 #[.val (.long q1), .second, .val (.long q2), .second, .val (.int p3), .unset, .unset, .unset, .unset, .unset] [])) rfl (hb hby at_0) (by decide) (by decide)
  obtain ⟨b1, g1⟩ : ∃ z, z = h0.size := ⟨_, rfl⟩
  rw [← g1] at A1 D1 st1
  have ne2 : a_N ≠ b1 := Nat.ne_of_lt (Nat.lt_of_lt_of_le E_N.lt (Nat.le_of_eq g1.symm))
  have u1 : n0 ≤ b1 := Nat.le_trans Z0 (Nat.le_of_eq g1.symm)
  have v1 : h0.size ≤ b1 := Nat.le_trans K0.1 (Nat.le_of_eq g1.symm)
  have F3 := E_N.ext E1
  have K1 := K0.ext E1
  have Y1 := Nat.le_trans Z0 E1.1
  have O1 := O0.ext E1
  have F4 : Fld Z h1 b1 "com/example/volens/volens/core/term/Int" "value" "J" (.long (0 : Int64)) := D1 (Or.inr ww15) (ty := .long) (by decide)
  refine OwnEnd.go (fun _ k => st1 _ k) ?_
  show OwnEnd p e below s _ _ _ (T1.setTop (mkF m 3 #[.val (.long q1), .second, .val (.long q2), .second, .val (.int p3), .unset, .unset, .unset, .unset, .unset] [(.ref b1)]))
  refine OwnEnd.go (fun _ k => XS.dup X1.here hx rfl (hb hby at_3) rfl rfl k) ?_
  show OwnEnd p e below s _ _ _ (T1.setTop (mkF m 4 #[.val (.long q1), .second, .val (.long q2), .second, .val (.int p3), .unset, .unset, .unset, .unset, .unset] [(.ref b1), (.ref b1)]))
  refine OwnEnd.go (fun _ k => XS.lloadN X1.here hx rfl (hb hby at_4) rfl  k) ?_
  show OwnEnd p e below s _ _ _ (T1.setTop (mkF m 5 #[.val (.long q1), .second, .val (.long q2), .second, .val (.int p3), .unset, .unset, .unset, .unset, .unset] [(.long q1), (.ref b1), (.ref b1)]))
  obtain ⟨_, T5, L5, X5, hQ5, st5⟩ := ownCallI X1 hx hZ hown rfl ww3 ww4 ww2 ww5 (by decide) (rm1 l Z a0 hw [] b1 q1 (.long (0 : Int64)) h1 n0 Y1  F4 A1 u1) e1 (b := b1) 1 (by decide) (by decide) (by decide) (by decide) (g := (mkF m 5 #[.val (.long q1), .second, .val (.long q2), .second, .val (.int p3), .unset, .unset, .unset, .unset, .unset] [(.long q1), (.ref b1), (.ref b1)])) rfl (by rw [hml]; rfl) (argsL := [(.long q1)]) (rest := [(.ref b1)]) (lenOf pd0_0 rfl) rfl rfl (by show 2 * 0 + _ ≤ _; exact Nat.le_of_eq rfl) (hb hby at_5)
  obtain ⟨rfl, N5q, K5q, P6, P7⟩ := hQ5
  have N5 := Fr.app N0 N5q
  have F8 := F3.keep K5q
  have F9 := A1.keep K5q
  have K5 := K1.trans K5q (allS (Or.inr v1) all0)
  have Y5 := Nat.le_trans Y1 K5q.1
  have O5 := O1.keep K5q (allS u1 all0)
  refine OwnEnd.go (fun _ k => st5 _ k) ?_
  show OwnEnd p e below s _ _ _ (T5.setTop (mkF m 8 #[.val (.long q1), .second, .val (.long q2), .second, .val (.int p3), .unset, .unset, .unset, .unset, .unset] [(.ref b1)]))
  refine OwnEnd.go (fun _ k => XS.astore X5.here hx rfl (hb hby at_8) rfl rfl (l' := #[.val (.long q1), .second, .val (.long q2), .second, .val (.int p3), .val (.ref b1), .unset, .unset, .unset, .unset]) rfl k) ?_
  show OwnEnd p e below s _ _ _ (T5.setTop (mkF m 10 #[.val (.long q1), .second, .val (.long q2), .second, .val (.int p3), .val (.ref b1), .unset, .unset, .unset, .unset] []))
  refine OwnEnd.go (fun _ k => XS.iload X5.here hx rfl (hb hby at_10) rfl  k) ?_
  show OwnEnd p e below s _ _ _ (T5.setTop (mkF m 12 #[.val (.long q1), .second, .val (.long q2), .second, .val (.int p3), .val (.ref b1), .unset, .unset, .unset, .unset] [(.int p3)]))
  refine OwnEnd.go (fun _ k => XS.bipush X5.here hx rfl (hb hby at_12) k) ?_
  show OwnEnd p e below s _ _ _ (T5.setTop (mkF m 14 #[.val (.long q1), .second, .val (.long q2), .second, .val (.int p3), .val (.ref b1), .unset, .unset, .unset, .unset] [(.int (7 : Int32)), (.int p3)]))
  refine OwnEnd.go (fun _ k => XS.iand X5.here hx rfl (hb hby at_14) rfl k) ?_
  show OwnEnd p e below s _ _ _ (T5.setTop (mkF m 15 #[.val (.long q1), .second, .val (.long q2), .second, .val (.int p3), .val (.ref b1), .unset, .unset, .unset, .unset] [(.int (p3 &&& (7 : Int32)))]))
  refine OwnEnd.go (fun _ k => XS.istore X5.here hx rfl (hb hby at_15) rfl  (l' := #[.val (.long q1), .second, .val (.long q2), .second, .val (.int p3), .val (.ref b1), .val (.int (p3 &&& (7 : Int32))), .unset, .unset, .unset]) rfl k) ?_
  show OwnEnd p e below s _ _ _ (T5.setTop (mkF m 17 #[.val (.long q1), .second, .val (.long q2), .second, .val (.int p3), .val (.ref b1), .val (.int (p3 &&& (7 : Int32))), .unset, .unset, .unset] []))
  refine OwnEnd.go (fun _ k => XS.iload X5.here hx rfl (hb hby at_17) rfl  k) ?_
  show OwnEnd p e below s _ _ _ (T5.setTop (mkF m 19 #[.val (.long q1), .second, .val (.long q2), .second, .val (.int p3), .val (.ref b1), .val (.int (p3 &&& (7 : Int32))), .unset, .unset, .unset] [(.int (p3 &&& (7 : Int32)))]))
  by_cases hc11 : (p3 &&& (7 : Int32)) = (0 : Int32)
  · refine OwnEnd.go (fun _ k => XS.ifNo X5.here hx rfl (hb hby at_19) rfl ((if0 _ _).trans (teq hc11).2) k) ?_
    show OwnEnd p e below s _ _ _ (T5.setTop (mkF m 22 #[.val (.long q1), .second, .val (.long q2), .second, .val (.int p3), .val (.ref b1), .val (.int (p3 &&& (7 : Int32))), .unset, .unset, .unset] []))
    obtain ⟨T12, h12, X12, e12, E12, A12, D12, -, st12⟩ := newO X5 hx hZ hown ww0 ww1 ww2 (rfl : T5.heap = T5.heap) (g := (mkF m 22 #[.val (.long q1), .second, .val (.long q2), .second, .val (.int p3), .val (.ref b1), .val (.int (p3 &&& (7 : Int32))), .unset, .unset, .unset] [])) rfl (hb hby at_22) (by decide) (by decide)
    obtain ⟨b12, g12⟩ : ∃ z, z = T5.heap.size := ⟨_, rfl⟩
    rw [← g12] at A12 D12 st12
    have ne13 : a_N ≠ b12 := Nat.ne_of_lt (Nat.lt_of_lt_of_le F8.lt (Nat.le_of_eq g12.symm))
    have ne14 : b1 ≠ b12 := Nat.ne_of_lt (Nat.lt_of_lt_of_le P6.lt (Nat.le_of_eq g12.symm))
    have u12 : n0 ≤ b12 := Nat.le_trans Y5 (Nat.le_of_eq g12.symm)
    have v12 : h0.size ≤ b12 := Nat.le_trans K5.1 (Nat.le_of_eq g12.symm)
    have F15 := F8.ext E12
    have F16 := P6.ext E12
    have F17 := P7.ext E12
    have K12 := K5.ext E12
    have Y12 := Nat.le_trans Y5 E12.1
    have O12 := O5.ext E12
    have F18 : Fld Z h12 b12 "com/example/volens/volens/core/term/Int" "value" "J" (.long (0 : Int64)) := D12 (Or.inr ww15) (ty := .long) (by decide)
    refine OwnEnd.go (fun _ k => st12 _ k) ?_
    show OwnEnd p e below s _ _ _ (T12.setTop (mkF m 25 #[.val (.long q1), .second, .val (.long q2), .second, .val (.int p3), .val (.ref b1), .val (.int (p3 &&& (7 : Int32))), .unset, .unset, .unset] [(.ref b12)]))
    refine OwnEnd.go (fun _ k => XS.dup X12.here hx rfl (hb hby at_25) rfl rfl k) ?_
    show OwnEnd p e below s _ _ _ (T12.setTop (mkF m 26 #[.val (.long q1), .second, .val (.long q2), .second, .val (.int p3), .val (.ref b1), .val (.int (p3 &&& (7 : Int32))), .unset, .unset, .unset] [(.ref b12), (.ref b12)]))
    refine OwnEnd.go (fun _ k => XS.lloadN X12.here hx rfl (hb hby at_26) rfl  k) ?_
    show OwnEnd p e below s _ _ _ (T12.setTop (mkF m 27 #[.val (.long q1), .second, .val (.long q2), .second, .val (.int p3), .val (.ref b1), .val (.int (p3 &&& (7 : Int32))), .unset, .unset, .unset] [(.long q2), (.ref b12), (.ref b12)]))
    obtain ⟨_, T19, L19, X19, hQ19, st19⟩ := ownCallI X12 hx hZ hown rfl ww3 ww4 ww2 ww5 (by decide) (rm1 l Z a0 hw [] b12 q2 (.long (0 : Int64)) h12 n0 Y12  F18 A12 u12) e12 (b := b12) 1 (by decide) (by decide) (by decide) (by decide) (g := (mkF m 27 #[.val (.long q1), .second, .val (.long q2), .second, .val (.int p3), .val (.ref b1), .val (.int (p3 &&& (7 : Int32))), .unset, .unset, .unset] [(.long q2), (.ref b12), (.ref b12)])) rfl (by rw [hml]; rfl) (argsL := [(.long q2)]) (rest := [(.ref b12)]) (lenOf pd0_0 rfl) rfl rfl (by show 2 * 0 + _ ≤ _; exact Nat.le_of_eq rfl) (hb hby at_27)
    obtain ⟨rfl, N19q, K19q, P20, P21⟩ := hQ19
    have N19 := Fr.app N5 N19q
    have F22 := F15.keep K19q
    have F23 := F16.keep K19q
    have F24 := F17.keep K19q (ninS ne14 nin0)
    have F25 := A12.keep K19q
    have K19 := K12.trans K19q (allS (Or.inr v12) all0)
    have Y19 := Nat.le_trans Y12 K19q.1
    have O19 := O12.keep K19q (allS u12 all0)
    refine OwnEnd.go (fun _ k => st19 _ k) ?_
    show OwnEnd p e below s _ _ _ (T19.setTop (mkF m 30 #[.val (.long q1), .second, .val (.long q2), .second, .val (.int p3), .val (.ref b1), .val (.int (p3 &&& (7 : Int32))), .unset, .unset, .unset] [(.ref b12)]))
    refine OwnEnd.go (fun _ k => XS.astore X19.here hx rfl (hb hby at_30) rfl rfl (l' := #[.val (.long q1), .second, .val (.long q2), .second, .val (.int p3), .val (.ref b1), .val (.int (p3 &&& (7 : Int32))), .val (.ref b12), .unset, .unset]) rfl k) ?_
    show OwnEnd p e below s _ _ _ (T19.setTop (mkF m 32 #[.val (.long q1), .second, .val (.long q2), .second, .val (.int p3), .val (.ref b1), .val (.int (p3 &&& (7 : Int32))), .val (.ref b12), .unset, .unset] []))
    refine OwnEnd.go (fun _ k => XS.aload X19.here hx rfl (hb hby at_32) rfl rfl k) ?_
    show OwnEnd p e below s _ _ _ (T19.setTop (mkF m 34 #[.val (.long q1), .second, .val (.long q2), .second, .val (.int p3), .val (.ref b1), .val (.int (p3 &&& (7 : Int32))), .val (.ref b12), .unset, .unset] [(.ref b1)]))
    refine OwnEnd.go (fun _ k => XS.aload X19.here hx rfl (hb hby at_34) rfl rfl k) ?_
    show OwnEnd p e below s _ _ _ (T19.setTop (mkF m 36 #[.val (.long q1), .second, .val (.long q2), .second, .val (.int p3), .val (.ref b1), .val (.int (p3 &&& (7 : Int32))), .val (.ref b12), .unset, .unset] [(.ref b12), (.ref b1)]))
    obtain ⟨_, T27, L27, X27, hQ27, st27⟩ := ownCallV X19 hx hZ hown ww16 ww17 ww19 ww18 ww2 ww20 (by decide) (rm4 l Z a0 hw [] b1 b12 q1 q2 T19.heap n0 Y19  F24 P21 P20) (rfl : T19.heap = T19.heap) F23 0 (by decide) (by decide) (by decide) (by decide) (g := (mkF m 36 #[.val (.long q1), .second, .val (.long q2), .second, .val (.int p3), .val (.ref b1), .val (.int (p3 &&& (7 : Int32))), .val (.ref b12), .unset, .unset] [(.ref b12), (.ref b1)])) rfl (by rw [hml]; rfl) (argsL := [(.ref b12)]) (rest := []) (lenOf pd0_1 rfl) rfl rfl (by show 2 * 0 + _ ≤ _; exact Nat.le_of_eq rfl) (hb hby at_36)
    obtain ⟨rfl, N27q, e27⟩ := hQ27
    have N27 := Fr.app N19 N27q
    refine OwnEnd.go (fun _ k => st27 _ k) ?_
    show OwnEnd p e below s _ _ _ (T27.setTop (mkF m 39 #[.val (.long q1), .second, .val (.long q2), .second, .val (.int p3), .val (.ref b1), .val (.int (p3 &&& (7 : Int32))), .val (.ref b12), .unset, .unset] [(.int (own_eqL q1 q2))]))
    refine OwnEnd.go (fun _ k => XS.lloadN X27.here hx rfl (hb hby at_39) rfl  k) ?_
    show OwnEnd p e below s _ _ _ (T27.setTop (mkF m 40 #[.val (.long q1), .second, .val (.long q2), .second, .val (.int p3), .val (.ref b1), .val (.int (p3 &&& (7 : Int32))), .val (.ref b12), .unset, .unset] [(.long q1), (.int (own_eqL q1 q2))]))
    refine OwnEnd.go (fun _ k => XS.lloadN X27.here hx rfl (hb hby at_40) rfl  k) ?_
    show OwnEnd p e below s _ _ _ (T27.setTop (mkF m 41 #[.val (.long q1), .second, .val (.long q2), .second, .val (.int p3), .val (.ref b1), .val (.int (p3 &&& (7 : Int32))), .val (.ref b12), .unset, .unset] [(.long q2), (.long q1), (.int (own_eqL q1 q2))]))
    refine OwnEnd.go (fun _ k => XS.lcmp X27.here hx rfl (hb hby at_41) rfl k) ?_
    show OwnEnd p e below s _ _ _ (T27.setTop (mkF m 42 #[.val (.long q1), .second, .val (.long q2), .second, .val (.int p3), .val (.ref b1), .val (.int (p3 &&& (7 : Int32))), .val (.ref b12), .unset, .unset] [(.int (lcmpW q1 q2)), (.int (own_eqL q1 q2))]))
    by_cases hc28 : q1 = q2
    · refine OwnEnd.go (fun _ k => XS.ifNo X27.here hx rfl (hb hby at_42) rfl (ownEq hc28).2 k) ?_
      show OwnEnd p e below s _ _ _ (T27.setTop (mkF m 45 #[.val (.long q1), .second, .val (.long q2), .second, .val (.int p3), .val (.ref b1), .val (.int (p3 &&& (7 : Int32))), .val (.ref b12), .unset, .unset] [(.int (own_eqL q1 q2))]))
      refine OwnEnd.go (fun _ k => XS.iconst X27.here hx rfl (hb hby at_45) k) ?_
      show OwnEnd p e below s _ _ _ (T27.setTop (mkF m 46 #[.val (.long q1), .second, .val (.long q2), .second, .val (.int p3), .val (.ref b1), .val (.int (p3 &&& (7 : Int32))), .val (.ref b12), .unset, .unset] [(.int (1 : Int32)), (.int (own_eqL q1 q2))]))
      refine OwnEnd.go (fun _ k => XS.goto X27.here hx rfl (pc0 := 46) (pc' := 50) rfl (hb hby at_46) (by decide) (by decide) k) ?_
      show OwnEnd p e below s _ _ _ (T27.setTop (mkF m 50 #[.val (.long q1), .second, .val (.long q2), .second, .val (.int p3), .val (.ref b1), .val (.int (p3 &&& (7 : Int32))), .val (.ref b12), .unset, .unset] [(.int (1 : Int32)), (.int (own_eqL q1 q2))]))
      refine OwnEnd.go (fun _ k => XS.icmpNo X27.here hx rfl (hb hby at_50) rfl (teq (own_eqL_t hc28)).2 k) ?_
      show OwnEnd p e below s _ _ _ (T27.setTop (mkF m 53 #[.val (.long q1), .second, .val (.long q2), .second, .val (.int p3), .val (.ref b1), .val (.int (p3 &&& (7 : Int32))), .val (.ref b12), .unset, .unset] []))
      refine OwnEnd.go (fun _ k => XS.iconst X27.here hx rfl (hb hby at_53) k) ?_
      show OwnEnd p e below s _ _ _ (T27.setTop (mkF m 54 #[.val (.long q1), .second, .val (.long q2), .second, .val (.int p3), .val (.ref b1), .val (.int (p3 &&& (7 : Int32))), .val (.ref b12), .unset, .unset] [(.int (1 : Int32))]))
      refine OwnEnd.go (fun _ k => XS.goto X27.here hx rfl (pc0 := 54) (pc' := 58) rfl (hb hby at_54) (by decide) (by decide) k) ?_
      show OwnEnd p e below s _ _ _ (T27.setTop (mkF m 58 #[.val (.long q1), .second, .val (.long q2), .second, .val (.int p3), .val (.ref b1), .val (.int (p3 &&& (7 : Int32))), .val (.ref b12), .unset, .unset] [(.int (1 : Int32))]))
      refine ownRetZ X27 hx hlk hret (hb hby at_58) (by decide) (by decide) (1 : Int32) (by decide) ?_
      show Q0 Z q1 q2 p3 a_N ac h0 n0 _ T27.heap _
      rw [e27]
      exact ⟨rfl, N27⟩
    · refine OwnEnd.go (fun _ k => XS.ifYes X27.here hx rfl (pc0 := 42) (pc' := 49) rfl (hb hby at_42) rfl (ownNeq hc28).2 (by decide) (by decide) k) ?_
      show OwnEnd p e below s _ _ _ (T27.setTop (mkF m 49 #[.val (.long q1), .second, .val (.long q2), .second, .val (.int p3), .val (.ref b1), .val (.int (p3 &&& (7 : Int32))), .val (.ref b12), .unset, .unset] [(.int (own_eqL q1 q2))]))
      refine OwnEnd.go (fun _ k => XS.iconst X27.here hx rfl (hb hby at_49) k) ?_
      show OwnEnd p e below s _ _ _ (T27.setTop (mkF m 50 #[.val (.long q1), .second, .val (.long q2), .second, .val (.int p3), .val (.ref b1), .val (.int (p3 &&& (7 : Int32))), .val (.ref b12), .unset, .unset] [(.int (0 : Int32)), (.int (own_eqL q1 q2))]))
      refine OwnEnd.go (fun _ k => XS.icmpNo X27.here hx rfl (hb hby at_50) rfl (teq (own_eqL_f hc28)).2 k) ?_
      show OwnEnd p e below s _ _ _ (T27.setTop (mkF m 53 #[.val (.long q1), .second, .val (.long q2), .second, .val (.int p3), .val (.ref b1), .val (.int (p3 &&& (7 : Int32))), .val (.ref b12), .unset, .unset] []))
      refine OwnEnd.go (fun _ k => XS.iconst X27.here hx rfl (hb hby at_53) k) ?_
      show OwnEnd p e below s _ _ _ (T27.setTop (mkF m 54 #[.val (.long q1), .second, .val (.long q2), .second, .val (.int p3), .val (.ref b1), .val (.int (p3 &&& (7 : Int32))), .val (.ref b12), .unset, .unset] [(.int (1 : Int32))]))
      refine OwnEnd.go (fun _ k => XS.goto X27.here hx rfl (pc0 := 54) (pc' := 58) rfl (hb hby at_54) (by decide) (by decide) k) ?_
      show OwnEnd p e below s _ _ _ (T27.setTop (mkF m 58 #[.val (.long q1), .second, .val (.long q2), .second, .val (.int p3), .val (.ref b1), .val (.int (p3 &&& (7 : Int32))), .val (.ref b12), .unset, .unset] [(.int (1 : Int32))]))
      refine ownRetZ X27 hx hlk hret (hb hby at_58) (by decide) (by decide) (1 : Int32) (by decide) ?_
      show Q0 Z q1 q2 p3 a_N ac h0 n0 _ T27.heap _
      rw [e27]
      exact ⟨rfl, N27⟩
  · refine OwnEnd.go (fun _ k => XS.ifYes X5.here hx rfl (pc0 := 19) (pc' := 59) rfl (hb hby at_19) rfl ((if0 _ _).trans (feq hc11).2) (by decide) (by decide) k) ?_
    show OwnEnd p e below s _ _ _ (T5.setTop (mkF m 59 #[.val (.long q1), .second, .val (.long q2), .second, .val (.int p3), .val (.ref b1), .val (.int (p3 &&& (7 : Int32))), .unset, .unset, .unset] []))
    refine OwnEnd.go (fun _ k => XS.iload X5.here hx rfl (hb hby at_59) rfl  k) ?_
    show OwnEnd p e below s _ _ _ (T5.setTop (mkF m 61 #[.val (.long q1), .second, .val (.long q2), .second, .val (.int p3), .val (.ref b1), .val (.int (p3 &&& (7 : Int32))), .unset, .unset, .unset] [(.int (p3 &&& (7 : Int32)))]))
    refine OwnEnd.go (fun _ k => XS.iconst X5.here hx rfl (hb hby at_61) k) ?_
    show OwnEnd p e below s _ _ _ (T5.setTop (mkF m 62 #[.val (.long q1), .second, .val (.long q2), .second, .val (.int p3), .val (.ref b1), .val (.int (p3 &&& (7 : Int32))), .unset, .unset, .unset] [(.int (1 : Int32)), (.int (p3 &&& (7 : Int32)))]))
    by_cases hc29 : (p3 &&& (7 : Int32)) = (1 : Int32)
    · refine OwnEnd.go (fun _ k => XS.icmpNo X5.here hx rfl (hb hby at_62) rfl (teq hc29).2 k) ?_
      show OwnEnd p e below s _ _ _ (T5.setTop (mkF m 65 #[.val (.long q1), .second, .val (.long q2), .second, .val (.int p3), .val (.ref b1), .val (.int (p3 &&& (7 : Int32))), .unset, .unset, .unset] []))
      obtain ⟨T30, h30, X30, e30, E30, A30, D30, -, st30⟩ := newO X5 hx hZ hown ww0 ww1 ww2 (rfl : T5.heap = T5.heap) (g := (mkF m 65 #[.val (.long q1), .second, .val (.long q2), .second, .val (.int p3), .val (.ref b1), .val (.int (p3 &&& (7 : Int32))), .unset, .unset, .unset] [])) rfl (hb hby at_65) (by decide) (by decide)
      obtain ⟨b30, g30⟩ : ∃ z, z = T5.heap.size := ⟨_, rfl⟩
      rw [← g30] at A30 D30 st30
      have ne31 : a_N ≠ b30 := Nat.ne_of_lt (Nat.lt_of_lt_of_le F8.lt (Nat.le_of_eq g30.symm))
      have ne32 : b1 ≠ b30 := Nat.ne_of_lt (Nat.lt_of_lt_of_le P6.lt (Nat.le_of_eq g30.symm))
      have u30 : n0 ≤ b30 := Nat.le_trans Y5 (Nat.le_of_eq g30.symm)
      have v30 : h0.size ≤ b30 := Nat.le_trans K5.1 (Nat.le_of_eq g30.symm)
      have F33 := F8.ext E30
      have F34 := P6.ext E30
      have F35 := P7.ext E30
      have K30 := K5.ext E30
      have Y30 := Nat.le_trans Y5 E30.1
      have O30 := O5.ext E30
      have F36 : Fld Z h30 b30 "com/example/volens/volens/core/term/Int" "value" "J" (.long (0 : Int64)) := D30 (Or.inr ww15) (ty := .long) (by decide)
      refine OwnEnd.go (fun _ k => st30 _ k) ?_
      show OwnEnd p e below s _ _ _ (T30.setTop (mkF m 68 #[.val (.long q1), .second, .val (.long q2), .second, .val (.int p3), .val (.ref b1), .val (.int (p3 &&& (7 : Int32))), .unset, .unset, .unset] [(.ref b30)]))
      refine OwnEnd.go (fun _ k => XS.dup X30.here hx rfl (hb hby at_68) rfl rfl k) ?_
      show OwnEnd p e below s _ _ _ (T30.setTop (mkF m 69 #[.val (.long q1), .second, .val (.long q2), .second, .val (.int p3), .val (.ref b1), .val (.int (p3 &&& (7 : Int32))), .unset, .unset, .unset] [(.ref b30), (.ref b30)]))
      refine OwnEnd.go (fun _ k => XS.lloadN X30.here hx rfl (hb hby at_69) rfl  k) ?_
      show OwnEnd p e below s _ _ _ (T30.setTop (mkF m 70 #[.val (.long q1), .second, .val (.long q2), .second, .val (.int p3), .val (.ref b1), .val (.int (p3 &&& (7 : Int32))), .unset, .unset, .unset] [(.long q1), (.ref b30), (.ref b30)]))
      obtain ⟨_, T37, L37, X37, hQ37, st37⟩ := ownCallI X30 hx hZ hown rfl ww3 ww4 ww2 ww5 (by decide) (rm1 l Z a0 hw [] b30 q1 (.long (0 : Int64)) h30 n0 Y30  F36 A30 u30) e30 (b := b30) 1 (by decide) (by decide) (by decide) (by decide) (g := (mkF m 70 #[.val (.long q1), .second, .val (.long q2), .second, .val (.int p3), .val (.ref b1), .val (.int (p3 &&& (7 : Int32))), .unset, .unset, .unset] [(.long q1), (.ref b30), (.ref b30)])) rfl (by rw [hml]; rfl) (argsL := [(.long q1)]) (rest := [(.ref b30)]) (lenOf pd0_0 rfl) rfl rfl (by show 2 * 0 + _ ≤ _; exact Nat.le_of_eq rfl) (hb hby at_70)
      obtain ⟨rfl, N37q, K37q, P38, P39⟩ := hQ37
      have N37 := Fr.app N5 N37q
      have F40 := F33.keep K37q
      have F41 := F34.keep K37q
      have F42 := F35.keep K37q (ninS ne32 nin0)
      have F43 := A30.keep K37q
      have K37 := K30.trans K37q (allS (Or.inr v30) all0)
      have Y37 := Nat.le_trans Y30 K37q.1
      have O37 := O30.keep K37q (allS u30 all0)
      refine OwnEnd.go (fun _ k => st37 _ k) ?_
      show OwnEnd p e below s _ _ _ (T37.setTop (mkF m 73 #[.val (.long q1), .second, .val (.long q2), .second, .val (.int p3), .val (.ref b1), .val (.int (p3 &&& (7 : Int32))), .unset, .unset, .unset] [(.ref b30)]))
      refine OwnEnd.go (fun _ k => XS.astore X37.here hx rfl (hb hby at_73) rfl rfl (l' := #[.val (.long q1), .second, .val (.long q2), .second, .val (.int p3), .val (.ref b1), .val (.int (p3 &&& (7 : Int32))), .val (.ref b30), .unset, .unset]) rfl k) ?_
      show OwnEnd p e below s _ _ _ (T37.setTop (mkF m 75 #[.val (.long q1), .second, .val (.long q2), .second, .val (.int p3), .val (.ref b1), .val (.int (p3 &&& (7 : Int32))), .val (.ref b30), .unset, .unset] []))
      refine OwnEnd.go (fun _ k => XS.aload X37.here hx rfl (hb hby at_75) rfl rfl k) ?_
      show OwnEnd p e below s _ _ _ (T37.setTop (mkF m 77 #[.val (.long q1), .second, .val (.long q2), .second, .val (.int p3), .val (.ref b1), .val (.int (p3 &&& (7 : Int32))), .val (.ref b30), .unset, .unset] [(.ref b1)]))
      refine OwnEnd.go (fun _ k => XS.aload X37.here hx rfl (hb hby at_77) rfl rfl k) ?_
      show OwnEnd p e below s _ _ _ (T37.setTop (mkF m 79 #[.val (.long q1), .second, .val (.long q2), .second, .val (.int p3), .val (.ref b1), .val (.int (p3 &&& (7 : Int32))), .val (.ref b30), .unset, .unset] [(.ref b30), (.ref b1)]))
      obtain ⟨_, T45, L45, X45, hQ45, st45⟩ := ownCallV X37 hx hZ hown ww16 ww17 ww19 ww18 ww2 ww20 (by decide) (rm4 l Z a0 hw [] b1 b30 q1 q1 T37.heap n0 Y37  F42 P39 P38) (rfl : T37.heap = T37.heap) F41 0 (by decide) (by decide) (by decide) (by decide) (g := (mkF m 79 #[.val (.long q1), .second, .val (.long q2), .second, .val (.int p3), .val (.ref b1), .val (.int (p3 &&& (7 : Int32))), .val (.ref b30), .unset, .unset] [(.ref b30), (.ref b1)])) rfl (by rw [hml]; rfl) (argsL := [(.ref b30)]) (rest := []) (lenOf pd0_1 rfl) rfl rfl (by show 2 * 0 + _ ≤ _; exact Nat.le_of_eq rfl) (hb hby at_79)
      obtain ⟨rfl, N45q, e45⟩ := hQ45
      have N45 := Fr.app N37 N45q
      refine OwnEnd.go (fun _ k => st45 _ k) ?_
      show OwnEnd p e below s _ _ _ (T45.setTop (mkF m 82 #[.val (.long q1), .second, .val (.long q2), .second, .val (.int p3), .val (.ref b1), .val (.int (p3 &&& (7 : Int32))), .val (.ref b30), .unset, .unset] [(.int (own_eqL q1 q1))]))
      refine ownRetZ X45 hx hlk hret (hb hby at_82) (by decide) (by decide) (1 : Int32) (own_eqL_n _) ?_
      show Q0 Z q1 q2 p3 a_N ac h0 n0 _ T45.heap _
      rw [e45]
      exact ⟨rfl, N45⟩
    · refine OwnEnd.go (fun _ k => XS.icmpYes X5.here hx rfl (pc0 := 62) (pc' := 83) rfl (hb hby at_62) rfl (feq hc29).2 (by decide) (by decide) k) ?_
      show OwnEnd p e below s _ _ _ (T5.setTop (mkF m 83 #[.val (.long q1), .second, .val (.long q2), .second, .val (.int p3), .val (.ref b1), .val (.int (p3 &&& (7 : Int32))), .unset, .unset, .unset] []))
      refine OwnEnd.go (fun _ k => XS.iload X5.here hx rfl (hb hby at_83) rfl  k) ?_
      show OwnEnd p e below s _ _ _ (T5.setTop (mkF m 85 #[.val (.long q1), .second, .val (.long q2), .second, .val (.int p3), .val (.ref b1), .val (.int (p3 &&& (7 : Int32))), .unset, .unset, .unset] [(.int (p3 &&& (7 : Int32)))]))
      refine OwnEnd.go (fun _ k => XS.iconst X5.here hx rfl (hb hby at_85) k) ?_
      show OwnEnd p e below s _ _ _ (T5.setTop (mkF m 86 #[.val (.long q1), .second, .val (.long q2), .second, .val (.int p3), .val (.ref b1), .val (.int (p3 &&& (7 : Int32))), .unset, .unset, .unset] [(.int (2 : Int32)), (.int (p3 &&& (7 : Int32)))]))
      by_cases hc46 : (p3 &&& (7 : Int32)) = (2 : Int32)
      · refine OwnEnd.go (fun _ k => XS.icmpNo X5.here hx rfl (hb hby at_86) rfl (teq hc46).2 k) ?_
        show OwnEnd p e below s _ _ _ (T5.setTop (mkF m 89 #[.val (.long q1), .second, .val (.long q2), .second, .val (.int p3), .val (.ref b1), .val (.int (p3 &&& (7 : Int32))), .unset, .unset, .unset] []))
        obtain ⟨T47, h47, X47, e47, E47, A47, D47, -, st47⟩ := newO X5 hx hZ hown ww0 ww1 ww2 (rfl : T5.heap = T5.heap) (g := (mkF m 89 #[.val (.long q1), .second, .val (.long q2), .second, .val (.int p3), .val (.ref b1), .val (.int (p3 &&& (7 : Int32))), .unset, .unset, .unset] [])) rfl (hb hby at_89) (by decide) (by decide)
        obtain ⟨b47, g47⟩ : ∃ z, z = T5.heap.size := ⟨_, rfl⟩
        rw [← g47] at A47 D47 st47
        have ne48 : a_N ≠ b47 := Nat.ne_of_lt (Nat.lt_of_lt_of_le F8.lt (Nat.le_of_eq g47.symm))
        have ne49 : b1 ≠ b47 := Nat.ne_of_lt (Nat.lt_of_lt_of_le P6.lt (Nat.le_of_eq g47.symm))
        have u47 : n0 ≤ b47 := Nat.le_trans Y5 (Nat.le_of_eq g47.symm)
        have v47 : h0.size ≤ b47 := Nat.le_trans K5.1 (Nat.le_of_eq g47.symm)
        have F50 := F8.ext E47
        have F51 := P6.ext E47
        have F52 := P7.ext E47
        have K47 := K5.ext E47
        have Y47 := Nat.le_trans Y5 E47.1
        have O47 := O5.ext E47
        have F53 : Fld Z h47 b47 "com/example/volens/volens/core/term/Int" "value" "J" (.long (0 : Int64)) := D47 (Or.inr ww15) (ty := .long) (by decide)
        refine OwnEnd.go (fun _ k => st47 _ k) ?_
        show OwnEnd p e below s _ _ _ (T47.setTop (mkF m 92 #[.val (.long q1), .second, .val (.long q2), .second, .val (.int p3), .val (.ref b1), .val (.int (p3 &&& (7 : Int32))), .unset, .unset, .unset] [(.ref b47)]))
        refine OwnEnd.go (fun _ k => XS.dup X47.here hx rfl (hb hby at_92) rfl rfl k) ?_
        show OwnEnd p e below s _ _ _ (T47.setTop (mkF m 93 #[.val (.long q1), .second, .val (.long q2), .second, .val (.int p3), .val (.ref b1), .val (.int (p3 &&& (7 : Int32))), .unset, .unset, .unset] [(.ref b47), (.ref b47)]))
        refine OwnEnd.go (fun _ k => XS.lloadN X47.here hx rfl (hb hby at_93) rfl  k) ?_
        show OwnEnd p e below s _ _ _ (T47.setTop (mkF m 94 #[.val (.long q1), .second, .val (.long q2), .second, .val (.int p3), .val (.ref b1), .val (.int (p3 &&& (7 : Int32))), .unset, .unset, .unset] [(.long q1), (.ref b47), (.ref b47)]))
        refine OwnEnd.go (fun _ k => XS.lconst X47.here hx rfl (hb hby at_94) k) ?_
        show OwnEnd p e below s _ _ _ (T47.setTop (mkF m 95 #[.val (.long q1), .second, .val (.long q2), .second, .val (.int p3), .val (.ref b1), .val (.int (p3 &&& (7 : Int32))), .unset, .unset, .unset] [(.long (1 : Int64)), (.long q1), (.ref b47), (.ref b47)]))
        refine OwnEnd.go (fun _ k => XS.lloadN X47.here hx rfl (hb hby at_95) rfl  k) ?_
        show OwnEnd p e below s _ _ _ (T47.setTop (mkF m 96 #[.val (.long q1), .second, .val (.long q2), .second, .val (.int p3), .val (.ref b1), .val (.int (p3 &&& (7 : Int32))), .unset, .unset, .unset] [(.long q2), (.long (1 : Int64)), (.long q1), (.ref b47), (.ref b47)]))
        refine OwnEnd.go (fun _ k => X47.ldc2J hx hown (mvT hZ ww47) (g := (mkF m 96 #[.val (.long q1), .second, .val (.long q2), .second, .val (.int p3), .val (.ref b1), .val (.int (p3 &&& (7 : Int32))), .unset, .unset, .unset] [(.long q2), (.long (1 : Int64)), (.long q1), (.ref b47), (.ref b47)])) rfl (hb hby at_96) k) ?_
        show OwnEnd p e below s _ _ _ (T47.setTop (mkF m 99 #[.val (.long q1), .second, .val (.long q2), .second, .val (.int p3), .val (.ref b1), .val (.int (p3 &&& (7 : Int32))), .unset, .unset, .unset] [(.long (63 : Int64)), (.long q2), (.long (1 : Int64)), (.long q1), (.ref b47), (.ref b47)]))
        refine OwnEnd.go (fun _ k => XS.land X47.here hx rfl (hb hby at_99) rfl k) ?_
        show OwnEnd p e below s _ _ _ (T47.setTop (mkF m 100 #[.val (.long q1), .second, .val (.long q2), .second, .val (.int p3), .val (.ref b1), .val (.int (p3 &&& (7 : Int32))), .unset, .unset, .unset] [(.long (q2 &&& (63 : Int64))), (.long (1 : Int64)), (.long q1), (.ref b47), (.ref b47)]))
        refine OwnEnd.go (fun _ k => XS.l2i X47.here hx rfl (hb hby at_100) rfl k) ?_
        show OwnEnd p e below s _ _ _ (T47.setTop (mkF m 101 #[.val (.long q1), .second, .val (.long q2), .second, .val (.int p3), .val (.ref b1), .val (.int (p3 &&& (7 : Int32))), .unset, .unset, .unset] [(.int ((q2 &&& (63 : Int64)).toInt32)), (.long (1 : Int64)), (.long q1), (.ref b47), (.ref b47)]))
        refine OwnEnd.go (fun _ k => XS.lshl X47.here hx rfl (hb hby at_101) rfl k) ?_
        show OwnEnd p e below s _ _ _ (T47.setTop (mkF m 102 #[.val (.long q1), .second, .val (.long q2), .second, .val (.int p3), .val (.ref b1), .val (.int (p3 &&& (7 : Int32))), .unset, .unset, .unset] [(.long ((1 : Int64) <<< (((q2 &&& (63 : Int64)).toInt32) &&& 0x3f).toInt64)), (.long q1), (.ref b47), (.ref b47)]))
        refine OwnEnd.go (fun _ k => XS.lxor X47.here hx rfl (hb hby at_102) rfl k) ?_
        show OwnEnd p e below s _ _ _ (T47.setTop (mkF m 103 #[.val (.long q1), .second, .val (.long q2), .second, .val (.int p3), .val (.ref b1), .val (.int (p3 &&& (7 : Int32))), .unset, .unset, .unset] [(.long (q1 ^^^ ((1 : Int64) <<< (((q2 &&& (63 : Int64)).toInt32) &&& 0x3f).toInt64))), (.ref b47), (.ref b47)]))
        obtain ⟨_, T54, L54, X54, hQ54, st54⟩ := ownCallI X47 hx hZ hown rfl ww3 ww4 ww2 ww5 (by decide) (rm1 l Z a0 hw [] b47 (q1 ^^^ ((1 : Int64) <<< (((q2 &&& (63 : Int64)).toInt32) &&& 0x3f).toInt64)) (.long (0 : Int64)) h47 n0 Y47  F53 A47 u47) e47 (b := b47) 1 (by decide) (by decide) (by decide) (by decide) (g := (mkF m 103 #[.val (.long q1), .second, .val (.long q2), .second, .val (.int p3), .val (.ref b1), .val (.int (p3 &&& (7 : Int32))), .unset, .unset, .unset] [(.long (q1 ^^^ ((1 : Int64) <<< (((q2 &&& (63 : Int64)).toInt32) &&& 0x3f).toInt64))), (.ref b47), (.ref b47)])) rfl (by rw [hml]; rfl) (argsL := [(.long (q1 ^^^ ((1 : Int64) <<< (((q2 &&& (63 : Int64)).toInt32) &&& 0x3f).toInt64)))]) (rest := [(.ref b47)]) (lenOf pd0_0 rfl) rfl rfl (by show 2 * 0 + _ ≤ _; exact Nat.le_of_eq rfl) (hb hby at_103)
        obtain ⟨rfl, N54q, K54q, P55, P56⟩ := hQ54
        have N54 := Fr.app N5 N54q
        have F57 := F50.keep K54q
        have F58 := F51.keep K54q
        have F59 := F52.keep K54q (ninS ne49 nin0)
        have F60 := A47.keep K54q
        have K54 := K47.trans K54q (allS (Or.inr v47) all0)
        have Y54 := Nat.le_trans Y47 K54q.1
        have O54 := O47.keep K54q (allS u47 all0)
        refine OwnEnd.go (fun _ k => st54 _ k) ?_
        show OwnEnd p e below s _ _ _ (T54.setTop (mkF m 106 #[.val (.long q1), .second, .val (.long q2), .second, .val (.int p3), .val (.ref b1), .val (.int (p3 &&& (7 : Int32))), .unset, .unset, .unset] [(.ref b47)]))
        refine OwnEnd.go (fun _ k => XS.astore X54.here hx rfl (hb hby at_106) rfl rfl (l' := #[.val (.long q1), .second, .val (.long q2), .second, .val (.int p3), .val (.ref b1), .val (.int (p3 &&& (7 : Int32))), .val (.ref b47), .unset, .unset]) rfl k) ?_
        show OwnEnd p e below s _ _ _ (T54.setTop (mkF m 108 #[.val (.long q1), .second, .val (.long q2), .second, .val (.int p3), .val (.ref b1), .val (.int (p3 &&& (7 : Int32))), .val (.ref b47), .unset, .unset] []))
        refine OwnEnd.go (fun _ k => XS.aload X54.here hx rfl (hb hby at_108) rfl rfl k) ?_
        show OwnEnd p e below s _ _ _ (T54.setTop (mkF m 110 #[.val (.long q1), .second, .val (.long q2), .second, .val (.int p3), .val (.ref b1), .val (.int (p3 &&& (7 : Int32))), .val (.ref b47), .unset, .unset] [(.ref b1)]))
        refine OwnEnd.go (fun _ k => XS.aload X54.here hx rfl (hb hby at_110) rfl rfl k) ?_
        show OwnEnd p e below s _ _ _ (T54.setTop (mkF m 112 #[.val (.long q1), .second, .val (.long q2), .second, .val (.int p3), .val (.ref b1), .val (.int (p3 &&& (7 : Int32))), .val (.ref b47), .unset, .unset] [(.ref b47), (.ref b1)]))
        obtain ⟨_, T62, L62, X62, hQ62, st62⟩ := ownCallV X54 hx hZ hown ww16 ww17 ww19 ww18 ww2 ww20 (by decide) (rm4 l Z a0 hw [] b1 b47 q1 (q1 ^^^ ((1 : Int64) <<< (((q2 &&& (63 : Int64)).toInt32) &&& 0x3f).toInt64)) T54.heap n0 Y54  F59 P56 P55) (rfl : T54.heap = T54.heap) F58 0 (by decide) (by decide) (by decide) (by decide) (g := (mkF m 112 #[.val (.long q1), .second, .val (.long q2), .second, .val (.int p3), .val (.ref b1), .val (.int (p3 &&& (7 : Int32))), .val (.ref b47), .unset, .unset] [(.ref b47), (.ref b1)])) rfl (by rw [hml]; rfl) (argsL := [(.ref b47)]) (rest := []) (lenOf pd0_1 rfl) rfl rfl (by show 2 * 0 + _ ≤ _; exact Nat.le_of_eq rfl) (hb hby at_112)
        obtain ⟨rfl, N62q, e62⟩ := hQ62
        have N62 := Fr.app N54 N62q
        refine OwnEnd.go (fun _ k => st62 _ k) ?_
        show OwnEnd p e below s _ _ _ (T62.setTop (mkF m 115 #[.val (.long q1), .second, .val (.long q2), .second, .val (.int p3), .val (.ref b1), .val (.int (p3 &&& (7 : Int32))), .val (.ref b47), .unset, .unset] [(.int (own_eqL q1 (q1 ^^^ ((1 : Int64) <<< (((q2 &&& (63 : Int64)).toInt32) &&& 0x3f).toInt64))))]))
        refine OwnEnd.go (fun _ k => XS.ifNo X62.here hx rfl (hb hby at_115) rfl ((if0 _ _).trans (teq (own_flip _ _)).2) k) ?_
        show OwnEnd p e below s _ _ _ (T62.setTop (mkF m 118 #[.val (.long q1), .second, .val (.long q2), .second, .val (.int p3), .val (.ref b1), .val (.int (p3 &&& (7 : Int32))), .val (.ref b47), .unset, .unset] []))
        refine OwnEnd.go (fun _ k => XS.iconst X62.here hx rfl (hb hby at_118) k) ?_
        show OwnEnd p e below s _ _ _ (T62.setTop (mkF m 119 #[.val (.long q1), .second, .val (.long q2), .second, .val (.int p3), .val (.ref b1), .val (.int (p3 &&& (7 : Int32))), .val (.ref b47), .unset, .unset] [(.int (1 : Int32))]))
        refine OwnEnd.go (fun _ k => XS.goto X62.here hx rfl (pc0 := 119) (pc' := 123) rfl (hb hby at_119) (by decide) (by decide) k) ?_
        show OwnEnd p e below s _ _ _ (T62.setTop (mkF m 123 #[.val (.long q1), .second, .val (.long q2), .second, .val (.int p3), .val (.ref b1), .val (.int (p3 &&& (7 : Int32))), .val (.ref b47), .unset, .unset] [(.int (1 : Int32))]))
        refine ownRetZ X62 hx hlk hret (hb hby at_123) (by decide) (by decide) (1 : Int32) (by decide) ?_
        show Q0 Z q1 q2 p3 a_N ac h0 n0 _ T62.heap _
        rw [e62]
        exact ⟨rfl, N62⟩
      · refine OwnEnd.go (fun _ k => XS.icmpYes X5.here hx rfl (pc0 := 86) (pc' := 124) rfl (hb hby at_86) rfl (feq hc46).2 (by decide) (by decide) k) ?_
        show OwnEnd p e below s _ _ _ (T5.setTop (mkF m 124 #[.val (.long q1), .second, .val (.long q2), .second, .val (.int p3), .val (.ref b1), .val (.int (p3 &&& (7 : Int32))), .unset, .unset, .unset] []))
        refine OwnEnd.go (fun _ k => XS.iload X5.here hx rfl (hb hby at_124) rfl  k) ?_
        show OwnEnd p e below s _ _ _ (T5.setTop (mkF m 126 #[.val (.long q1), .second, .val (.long q2), .second, .val (.int p3), .val (.ref b1), .val (.int (p3 &&& (7 : Int32))), .unset, .unset, .unset] [(.int (p3 &&& (7 : Int32)))]))
        refine OwnEnd.go (fun _ k => XS.iconst X5.here hx rfl (hb hby at_126) k) ?_
        show OwnEnd p e below s _ _ _ (T5.setTop (mkF m 127 #[.val (.long q1), .second, .val (.long q2), .second, .val (.int p3), .val (.ref b1), .val (.int (p3 &&& (7 : Int32))), .unset, .unset, .unset] [(.int (3 : Int32)), (.int (p3 &&& (7 : Int32)))]))
        by_cases hc63 : (p3 &&& (7 : Int32)) = (3 : Int32)
        · refine OwnEnd.go (fun _ k => XS.icmpNo X5.here hx rfl (hb hby at_127) rfl (teq hc63).2 k) ?_
          show OwnEnd p e below s _ _ _ (T5.setTop (mkF m 130 #[.val (.long q1), .second, .val (.long q2), .second, .val (.int p3), .val (.ref b1), .val (.int (p3 &&& (7 : Int32))), .unset, .unset, .unset] []))
          refine OwnEnd.go (fun _ k => XS.aconstNull X5.here hx rfl (hb hby at_130) k) ?_
          show OwnEnd p e below s _ _ _ (T5.setTop (mkF m 131 #[.val (.long q1), .second, .val (.long q2), .second, .val (.int p3), .val (.ref b1), .val (.int (p3 &&& (7 : Int32))), .unset, .unset, .unset] [.null]))
          refine OwnEnd.go (fun _ k => XS.astore X5.here hx rfl (hb hby at_131) rfl rfl (l' := #[.val (.long q1), .second, .val (.long q2), .second, .val (.int p3), .val (.ref b1), .val (.int (p3 &&& (7 : Int32))), .val .null, .unset, .unset]) rfl k) ?_
          show OwnEnd p e below s _ _ _ (T5.setTop (mkF m 133 #[.val (.long q1), .second, .val (.long q2), .second, .val (.int p3), .val (.ref b1), .val (.int (p3 &&& (7 : Int32))), .val .null, .unset, .unset] []))
          refine OwnEnd.go (fun _ k => XS.aload X5.here hx rfl (hb hby at_133) rfl rfl k) ?_
          show OwnEnd p e below s _ _ _ (T5.setTop (mkF m 135 #[.val (.long q1), .second, .val (.long q2), .second, .val (.int p3), .val (.ref b1), .val (.int (p3 &&& (7 : Int32))), .val .null, .unset, .unset] [(.ref b1)]))
          refine OwnEnd.go (fun _ k => XS.aload X5.here hx rfl (hb hby at_135) rfl rfl k) ?_
          show OwnEnd p e below s _ _ _ (T5.setTop (mkF m 137 #[.val (.long q1), .second, .val (.long q2), .second, .val (.int p3), .val (.ref b1), .val (.int (p3 &&& (7 : Int32))), .val .null, .unset, .unset] [.null, (.ref b1)]))
          obtain ⟨_, T64, L64, X64, hQ64, st64⟩ := ownCallV X5 hx hZ hown ww16 ww17 ww19 ww18 ww2 ww20 (by decide) (rm4n l Z a0 hw [] b1 T5.heap n0 Y5  ) (rfl : T5.heap = T5.heap) P6 0 (by decide) (by decide) (by decide) (by decide) (g := (mkF m 137 #[.val (.long q1), .second, .val (.long q2), .second, .val (.int p3), .val (.ref b1), .val (.int (p3 &&& (7 : Int32))), .val .null, .unset, .unset] [.null, (.ref b1)])) rfl (by rw [hml]; rfl) (argsL := [.null]) (rest := []) (lenOf pd0_1 rfl) rfl rfl (by show 2 * 0 + _ ≤ _; exact Nat.le_of_eq rfl) (hb hby at_137)
          obtain ⟨rfl, N64q, e64⟩ := hQ64
          have N64 := Fr.app N5 N64q
          refine OwnEnd.go (fun _ k => st64 _ k) ?_
          show OwnEnd p e below s _ _ _ (T64.setTop (mkF m 140 #[.val (.long q1), .second, .val (.long q2), .second, .val (.int p3), .val (.ref b1), .val (.int (p3 &&& (7 : Int32))), .val .null, .unset, .unset] [(.int (0 : Int32))]))
          refine OwnEnd.go (fun _ k => XS.ifNo X64.here hx rfl (hb hby at_140) rfl ((if0 _ _).trans (teq (by decide : (0 : Int32) = (0 : Int32))).2) k) ?_
          show OwnEnd p e below s _ _ _ (T64.setTop (mkF m 143 #[.val (.long q1), .second, .val (.long q2), .second, .val (.int p3), .val (.ref b1), .val (.int (p3 &&& (7 : Int32))), .val .null, .unset, .unset] []))
          refine OwnEnd.go (fun _ k => XS.iconst X64.here hx rfl (hb hby at_143) k) ?_
          show OwnEnd p e below s _ _ _ (T64.setTop (mkF m 144 #[.val (.long q1), .second, .val (.long q2), .second, .val (.int p3), .val (.ref b1), .val (.int (p3 &&& (7 : Int32))), .val .null, .unset, .unset] [(.int (1 : Int32))]))
          refine OwnEnd.go (fun _ k => XS.goto X64.here hx rfl (pc0 := 144) (pc' := 148) rfl (hb hby at_144) (by decide) (by decide) k) ?_
          show OwnEnd p e below s _ _ _ (T64.setTop (mkF m 148 #[.val (.long q1), .second, .val (.long q2), .second, .val (.int p3), .val (.ref b1), .val (.int (p3 &&& (7 : Int32))), .val .null, .unset, .unset] [(.int (1 : Int32))]))
          refine ownRetZ X64 hx hlk hret (hb hby at_148) (by decide) (by decide) (1 : Int32) (by decide) ?_
          show Q0 Z q1 q2 p3 a_N ac h0 n0 _ T64.heap _
          rw [e64]
          exact ⟨rfl, N64⟩
        · refine OwnEnd.go (fun _ k => XS.icmpYes X5.here hx rfl (pc0 := 127) (pc' := 149) rfl (hb hby at_127) rfl (feq hc63).2 (by decide) (by decide) k) ?_
          show OwnEnd p e below s _ _ _ (T5.setTop (mkF m 149 #[.val (.long q1), .second, .val (.long q2), .second, .val (.int p3), .val (.ref b1), .val (.int (p3 &&& (7 : Int32))), .unset, .unset, .unset] []))
          refine OwnEnd.go (fun _ k => XS.iload X5.here hx rfl (hb hby at_149) rfl  k) ?_
          show OwnEnd p e below s _ _ _ (T5.setTop (mkF m 151 #[.val (.long q1), .second, .val (.long q2), .second, .val (.int p3), .val (.ref b1), .val (.int (p3 &&& (7 : Int32))), .unset, .unset, .unset] [(.int (p3 &&& (7 : Int32)))]))
          refine OwnEnd.go (fun _ k => XS.iconst X5.here hx rfl (hb hby at_151) k) ?_
          show OwnEnd p e below s _ _ _ (T5.setTop (mkF m 152 #[.val (.long q1), .second, .val (.long q2), .second, .val (.int p3), .val (.ref b1), .val (.int (p3 &&& (7 : Int32))), .unset, .unset, .unset] [(.int (4 : Int32)), (.int (p3 &&& (7 : Int32)))]))
          by_cases hc65 : (p3 &&& (7 : Int32)) = (4 : Int32)
          · refine OwnEnd.go (fun _ k => XS.icmpNo X5.here hx rfl (hb hby at_152) rfl (teq hc65).2 k) ?_
            show OwnEnd p e below s _ _ _ (T5.setTop (mkF m 155 #[.val (.long q1), .second, .val (.long q2), .second, .val (.int p3), .val (.ref b1), .val (.int (p3 &&& (7 : Int32))), .unset, .unset, .unset] []))
            obtain ⟨T66, X66, e66, st66⟩ := getS2 X5 hx hZ hown (host := "") (Or.inl ww48) Via.refl (rfl : T5.heap = T5.heap) (S_N.ext O5.2) (g := (mkF m 155 #[.val (.long q1), .second, .val (.long q2), .second, .val (.int p3), .val (.ref b1), .val (.int (p3 &&& (7 : Int32))), .unset, .unset, .unset] [])) rfl (hb hby at_155)
            refine OwnEnd.go (fun _ k => st66 _ k) ?_
            show OwnEnd p e below s _ _ _ (T66.setTop (mkF m 158 #[.val (.long q1), .second, .val (.long q2), .second, .val (.int p3), .val (.ref b1), .val (.int (p3 &&& (7 : Int32))), .unset, .unset, .unset] [(.ref a_N)]))
            refine OwnEnd.go (fun _ k => XS.astore X66.here hx rfl (hb hby at_158) rfl rfl (l' := #[.val (.long q1), .second, .val (.long q2), .second, .val (.int p3), .val (.ref b1), .val (.int (p3 &&& (7 : Int32))), .val (.ref a_N), .unset, .unset]) rfl k) ?_
            show OwnEnd p e below s _ _ _ (T66.setTop (mkF m 160 #[.val (.long q1), .second, .val (.long q2), .second, .val (.int p3), .val (.ref b1), .val (.int (p3 &&& (7 : Int32))), .val (.ref a_N), .unset, .unset] []))
            refine OwnEnd.go (fun _ k => XS.aload X66.here hx rfl (hb hby at_160) rfl rfl k) ?_
            show OwnEnd p e below s _ _ _ (T66.setTop (mkF m 162 #[.val (.long q1), .second, .val (.long q2), .second, .val (.int p3), .val (.ref b1), .val (.int (p3 &&& (7 : Int32))), .val (.ref a_N), .unset, .unset] [(.ref b1)]))
            refine OwnEnd.go (fun _ k => XS.aload X66.here hx rfl (hb hby at_162) rfl rfl k) ?_
            show OwnEnd p e below s _ _ _ (T66.setTop (mkF m 164 #[.val (.long q1), .second, .val (.long q2), .second, .val (.int p3), .val (.ref b1), .val (.int (p3 &&& (7 : Int32))), .val (.ref a_N), .unset, .unset] [(.ref a_N), (.ref b1)]))
            obtain ⟨_, T67, L67, X67, hQ67, st67⟩ := ownCallV X66 hx hZ hown ww16 ww17 ww19 ww18 ww2 ww20 (by decide) (rm4o l Z a0 hw [] b1 a_N "com/example/volens/volens/core/term/Nil" T5.heap n0 Y5  F8 (own_no ww51 ww1 (NS.step ww51 (NS.step ww52 (own_root ww46 ww1 (by decide)) (by decide)) (by decide)) (by decide))) e66 P6 0 (by decide) (by decide) (by decide) (by decide) (g := (mkF m 164 #[.val (.long q1), .second, .val (.long q2), .second, .val (.int p3), .val (.ref b1), .val (.int (p3 &&& (7 : Int32))), .val (.ref a_N), .unset, .unset] [(.ref a_N), (.ref b1)])) rfl (by rw [hml]; rfl) (argsL := [(.ref a_N)]) (rest := []) (lenOf pd0_1 rfl) rfl rfl (by show 2 * 0 + _ ≤ _; exact Nat.le_of_eq rfl) (hb hby at_164)
            obtain ⟨rfl, N67q, e67⟩ := hQ67
            have N67 := Fr.app N5 N67q
            refine OwnEnd.go (fun _ k => st67 _ k) ?_
            show OwnEnd p e below s _ _ _ (T67.setTop (mkF m 167 #[.val (.long q1), .second, .val (.long q2), .second, .val (.int p3), .val (.ref b1), .val (.int (p3 &&& (7 : Int32))), .val (.ref a_N), .unset, .unset] [(.int (0 : Int32))]))
            refine OwnEnd.go (fun _ k => XS.ifNo X67.here hx rfl (hb hby at_167) rfl ((if0 _ _).trans (teq (by decide : (0 : Int32) = (0 : Int32))).2) k) ?_
            show OwnEnd p e below s _ _ _ (T67.setTop (mkF m 170 #[.val (.long q1), .second, .val (.long q2), .second, .val (.int p3), .val (.ref b1), .val (.int (p3 &&& (7 : Int32))), .val (.ref a_N), .unset, .unset] []))
            refine OwnEnd.go (fun _ k => XS.iconst X67.here hx rfl (hb hby at_170) k) ?_
            show OwnEnd p e below s _ _ _ (T67.setTop (mkF m 171 #[.val (.long q1), .second, .val (.long q2), .second, .val (.int p3), .val (.ref b1), .val (.int (p3 &&& (7 : Int32))), .val (.ref a_N), .unset, .unset] [(.int (1 : Int32))]))
            refine OwnEnd.go (fun _ k => XS.goto X67.here hx rfl (pc0 := 171) (pc' := 175) rfl (hb hby at_171) (by decide) (by decide) k) ?_
            show OwnEnd p e below s _ _ _ (T67.setTop (mkF m 175 #[.val (.long q1), .second, .val (.long q2), .second, .val (.int p3), .val (.ref b1), .val (.int (p3 &&& (7 : Int32))), .val (.ref a_N), .unset, .unset] [(.int (1 : Int32))]))
            refine ownRetZ X67 hx hlk hret (hb hby at_175) (by decide) (by decide) (1 : Int32) (by decide) ?_
            show Q0 Z q1 q2 p3 a_N ac h0 n0 _ T67.heap _
            rw [e67]
            exact ⟨rfl, N67⟩
          · refine OwnEnd.go (fun _ k => XS.icmpYes X5.here hx rfl (pc0 := 152) (pc' := 176) rfl (hb hby at_152) rfl (feq hc65).2 (by decide) (by decide) k) ?_
            show OwnEnd p e below s _ _ _ (T5.setTop (mkF m 176 #[.val (.long q1), .second, .val (.long q2), .second, .val (.int p3), .val (.ref b1), .val (.int (p3 &&& (7 : Int32))), .unset, .unset, .unset] []))
            refine OwnEnd.go (fun _ k => XS.iload X5.here hx rfl (hb hby at_176) rfl  k) ?_
            show OwnEnd p e below s _ _ _ (T5.setTop (mkF m 178 #[.val (.long q1), .second, .val (.long q2), .second, .val (.int p3), .val (.ref b1), .val (.int (p3 &&& (7 : Int32))), .unset, .unset, .unset] [(.int (p3 &&& (7 : Int32)))]))
            refine OwnEnd.go (fun _ k => XS.iconst X5.here hx rfl (hb hby at_178) k) ?_
            show OwnEnd p e below s _ _ _ (T5.setTop (mkF m 179 #[.val (.long q1), .second, .val (.long q2), .second, .val (.int p3), .val (.ref b1), .val (.int (p3 &&& (7 : Int32))), .unset, .unset, .unset] [(.int (5 : Int32)), (.int (p3 &&& (7 : Int32)))]))
            by_cases hc68 : (p3 &&& (7 : Int32)) = (5 : Int32)
            · refine OwnEnd.go (fun _ k => XS.icmpNo X5.here hx rfl (hb hby at_179) rfl (teq hc68).2 k) ?_
              show OwnEnd p e below s _ _ _ (T5.setTop (mkF m 182 #[.val (.long q1), .second, .val (.long q2), .second, .val (.int p3), .val (.ref b1), .val (.int (p3 &&& (7 : Int32))), .unset, .unset, .unset] []))
              refine OwnEnd.go (fun _ k => XS.lloadN X5.here hx rfl (hb hby at_182) rfl  k) ?_
              show OwnEnd p e below s _ _ _ (T5.setTop (mkF m 183 #[.val (.long q1), .second, .val (.long q2), .second, .val (.int p3), .val (.ref b1), .val (.int (p3 &&& (7 : Int32))), .unset, .unset, .unset] [(.long q1)]))
              obtain ⟨_, T69, L69, X69, hQ69, st69⟩ := ownCallS X5 hx hZ hown ww23 ww24 ww25 ww26 (by decide) (rm5 l Z a0 hw [] q1 ac T5.heap n0 Y5 O5 SC LC) (rfl : T5.heap = T5.heap) 0 (by decide) (by decide) (by decide) (by decide) (g := (mkF m 183 #[.val (.long q1), .second, .val (.long q2), .second, .val (.int p3), .val (.ref b1), .val (.int (p3 &&& (7 : Int32))), .unset, .unset, .unset] [(.long q1)])) rfl (by rw [hml]; rfl) (argsL := [(.long q1)]) (rest := []) (lenOf pd0_2 rfl) rfl rfl (by show 2 * 0 + _ ≤ _; exact Nat.le_of_eq rfl) (hb hby at_183)
              obtain ⟨y71, hQ69⟩ := hQ69
              obtain ⟨rfl, N69q, K69q, P70⟩ := hQ69
              have N69 := Fr.app N5 N69q
              have F72 := F8.keep K69q
              have F73 := P6.keep K69q
              have F74 := P7.keep K69q nin0
              have K69 := K5.trans K69q all0
              have Y69 := Nat.le_trans Y5 K69q.1
              have O69 := O5.keep K69q all0
              refine OwnEnd.go (fun _ k => st69 _ k) ?_
              show OwnEnd p e below s _ _ _ (T69.setTop (mkF m 186 #[.val (.long q1), .second, .val (.long q2), .second, .val (.int p3), .val (.ref b1), .val (.int (p3 &&& (7 : Int32))), .unset, .unset, .unset] [(.ref y71)]))
              refine OwnEnd.go (fun _ k => XS.astore X69.here hx rfl (hb hby at_186) rfl rfl (l' := #[.val (.long q1), .second, .val (.long q2), .second, .val (.int p3), .val (.ref b1), .val (.int (p3 &&& (7 : Int32))), .val (.ref y71), .unset, .unset]) rfl k) ?_
              show OwnEnd p e below s _ _ _ (T69.setTop (mkF m 188 #[.val (.long q1), .second, .val (.long q2), .second, .val (.int p3), .val (.ref b1), .val (.int (p3 &&& (7 : Int32))), .val (.ref y71), .unset, .unset] []))
              refine OwnEnd.go (fun _ k => XS.aload X69.here hx rfl (hb hby at_188) rfl rfl k) ?_
              show OwnEnd p e below s _ _ _ (T69.setTop (mkF m 190 #[.val (.long q1), .second, .val (.long q2), .second, .val (.int p3), .val (.ref b1), .val (.int (p3 &&& (7 : Int32))), .val (.ref y71), .unset, .unset] [(.ref b1)]))
              refine OwnEnd.go (fun _ k => XS.aload X69.here hx rfl (hb hby at_190) rfl rfl k) ?_
              show OwnEnd p e below s _ _ _ (T69.setTop (mkF m 192 #[.val (.long q1), .second, .val (.long q2), .second, .val (.int p3), .val (.ref b1), .val (.int (p3 &&& (7 : Int32))), .val (.ref y71), .unset, .unset] [(.ref y71), (.ref b1)]))
              obtain ⟨_, T75, L75, X75, hQ75, st75⟩ := ownCallV X69 hx hZ hown ww16 ww17 ww19 ww18 ww2 ww20 (by decide) (rm4o l Z a0 hw [] b1 y71 "java/lang/Long" T69.heap n0 Y69  P70 (own_no ww44 ww1 (NS.step ww44 (NS.step ww45 (own_root ww46 ww1 (by decide)) (by decide)) (by decide)) (by decide))) (rfl : T69.heap = T69.heap) F73 0 (by decide) (by decide) (by decide) (by decide) (g := (mkF m 192 #[.val (.long q1), .second, .val (.long q2), .second, .val (.int p3), .val (.ref b1), .val (.int (p3 &&& (7 : Int32))), .val (.ref y71), .unset, .unset] [(.ref y71), (.ref b1)])) rfl (by rw [hml]; rfl) (argsL := [(.ref y71)]) (rest := []) (lenOf pd0_1 rfl) rfl rfl (by show 2 * 0 + _ ≤ _; exact Nat.le_of_eq rfl) (hb hby at_192)
              obtain ⟨rfl, N75q, e75⟩ := hQ75
              have N75 := Fr.app N69 N75q
              refine OwnEnd.go (fun _ k => st75 _ k) ?_
              show OwnEnd p e below s _ _ _ (T75.setTop (mkF m 195 #[.val (.long q1), .second, .val (.long q2), .second, .val (.int p3), .val (.ref b1), .val (.int (p3 &&& (7 : Int32))), .val (.ref y71), .unset, .unset] [(.int (0 : Int32))]))
              refine OwnEnd.go (fun _ k => XS.ifNo X75.here hx rfl (hb hby at_195) rfl ((if0 _ _).trans (teq (by decide : (0 : Int32) = (0 : Int32))).2) k) ?_
              show OwnEnd p e below s _ _ _ (T75.setTop (mkF m 198 #[.val (.long q1), .second, .val (.long q2), .second, .val (.int p3), .val (.ref b1), .val (.int (p3 &&& (7 : Int32))), .val (.ref y71), .unset, .unset] []))
              refine OwnEnd.go (fun _ k => XS.iconst X75.here hx rfl (hb hby at_198) k) ?_
              show OwnEnd p e below s _ _ _ (T75.setTop (mkF m 199 #[.val (.long q1), .second, .val (.long q2), .second, .val (.int p3), .val (.ref b1), .val (.int (p3 &&& (7 : Int32))), .val (.ref y71), .unset, .unset] [(.int (1 : Int32))]))
              refine OwnEnd.go (fun _ k => XS.goto X75.here hx rfl (pc0 := 199) (pc' := 203) rfl (hb hby at_199) (by decide) (by decide) k) ?_
              show OwnEnd p e below s _ _ _ (T75.setTop (mkF m 203 #[.val (.long q1), .second, .val (.long q2), .second, .val (.int p3), .val (.ref b1), .val (.int (p3 &&& (7 : Int32))), .val (.ref y71), .unset, .unset] [(.int (1 : Int32))]))
              refine ownRetZ X75 hx hlk hret (hb hby at_203) (by decide) (by decide) (1 : Int32) (by decide) ?_
              show Q0 Z q1 q2 p3 a_N ac h0 n0 _ T75.heap _
              rw [e75]
              exact ⟨rfl, N75⟩
            · refine OwnEnd.go (fun _ k => XS.icmpYes X5.here hx rfl (pc0 := 179) (pc' := 204) rfl (hb hby at_179) rfl (feq hc68).2 (by decide) (by decide) k) ?_
              show OwnEnd p e below s _ _ _ (T5.setTop (mkF m 204 #[.val (.long q1), .second, .val (.long q2), .second, .val (.int p3), .val (.ref b1), .val (.int (p3 &&& (7 : Int32))), .unset, .unset, .unset] []))
              refine OwnEnd.go (fun _ k => XS.iload X5.here hx rfl (hb hby at_204) rfl  k) ?_
              show OwnEnd p e below s _ _ _ (T5.setTop (mkF m 206 #[.val (.long q1), .second, .val (.long q2), .second, .val (.int p3), .val (.ref b1), .val (.int (p3 &&& (7 : Int32))), .unset, .unset, .unset] [(.int (p3 &&& (7 : Int32)))]))
              refine OwnEnd.go (fun _ k => XS.bipush X5.here hx rfl (hb hby at_206) k) ?_
              show OwnEnd p e below s _ _ _ (T5.setTop (mkF m 208 #[.val (.long q1), .second, .val (.long q2), .second, .val (.int p3), .val (.ref b1), .val (.int (p3 &&& (7 : Int32))), .unset, .unset, .unset] [(.int (6 : Int32)), (.int (p3 &&& (7 : Int32)))]))
              by_cases hc76 : (p3 &&& (7 : Int32)) = (6 : Int32)
              · refine OwnEnd.go (fun _ k => XS.icmpNo X5.here hx rfl (hb hby at_208) rfl (teq hc76).2 k) ?_
                show OwnEnd p e below s _ _ _ (T5.setTop (mkF m 211 #[.val (.long q1), .second, .val (.long q2), .second, .val (.int p3), .val (.ref b1), .val (.int (p3 &&& (7 : Int32))), .unset, .unset, .unset] []))
                refine OwnEnd.go (fun _ k => XS.aload X5.here hx rfl (hb hby at_211) rfl rfl k) ?_
                show OwnEnd p e below s _ _ _ (T5.setTop (mkF m 213 #[.val (.long q1), .second, .val (.long q2), .second, .val (.int p3), .val (.ref b1), .val (.int (p3 &&& (7 : Int32))), .unset, .unset, .unset] [(.ref b1)]))
                refine OwnEnd.go (fun _ k => XS.astore X5.here hx rfl (hb hby at_213) rfl rfl (l' := #[.val (.long q1), .second, .val (.long q2), .second, .val (.int p3), .val (.ref b1), .val (.int (p3 &&& (7 : Int32))), .val (.ref b1), .unset, .unset]) rfl k) ?_
                show OwnEnd p e below s _ _ _ (T5.setTop (mkF m 215 #[.val (.long q1), .second, .val (.long q2), .second, .val (.int p3), .val (.ref b1), .val (.int (p3 &&& (7 : Int32))), .val (.ref b1), .unset, .unset] []))
                refine OwnEnd.go (fun _ k => XS.aload X5.here hx rfl (hb hby at_215) rfl rfl k) ?_
                show OwnEnd p e below s _ _ _ (T5.setTop (mkF m 217 #[.val (.long q1), .second, .val (.long q2), .second, .val (.int p3), .val (.ref b1), .val (.int (p3 &&& (7 : Int32))), .val (.ref b1), .unset, .unset] [(.ref b1)]))
                refine OwnEnd.go (fun _ k => XS.aload X5.here hx rfl (hb hby at_217) rfl rfl k) ?_
                show OwnEnd p e below s _ _ _ (T5.setTop (mkF m 219 #[.val (.long q1), .second, .val (.long q2), .second, .val (.int p3), .val (.ref b1), .val (.int (p3 &&& (7 : Int32))), .val (.ref b1), .unset, .unset] [(.ref b1), (.ref b1)]))
                obtain ⟨_, T77, L77, X77, hQ77, st77⟩ := ownCallV X5 hx hZ hown ww16 ww17 ww19 ww18 ww2 ww20 (by decide) (rm4 l Z a0 hw [] b1 b1 q1 q1 T5.heap n0 Y5  P7 P7 P6) (rfl : T5.heap = T5.heap) P6 0 (by decide) (by decide) (by decide) (by decide) (g := (mkF m 219 #[.val (.long q1), .second, .val (.long q2), .second, .val (.int p3), .val (.ref b1), .val (.int (p3 &&& (7 : Int32))), .val (.ref b1), .unset, .unset] [(.ref b1), (.ref b1)])) rfl (by rw [hml]; rfl) (argsL := [(.ref b1)]) (rest := []) (lenOf pd0_1 rfl) rfl rfl (by show 2 * 0 + _ ≤ _; exact Nat.le_of_eq rfl) (hb hby at_219)
                obtain ⟨rfl, N77q, e77⟩ := hQ77
                have N77 := Fr.app N5 N77q
                refine OwnEnd.go (fun _ k => st77 _ k) ?_
                show OwnEnd p e below s _ _ _ (T77.setTop (mkF m 222 #[.val (.long q1), .second, .val (.long q2), .second, .val (.int p3), .val (.ref b1), .val (.int (p3 &&& (7 : Int32))), .val (.ref b1), .unset, .unset] [(.int (own_eqL q1 q1))]))
                refine ownRetZ X77 hx hlk hret (hb hby at_222) (by decide) (by decide) (1 : Int32) (own_eqL_n _) ?_
                show Q0 Z q1 q2 p3 a_N ac h0 n0 _ T77.heap _
                rw [e77]
                exact ⟨rfl, N77⟩
              · refine OwnEnd.go (fun _ k => XS.icmpYes X5.here hx rfl (pc0 := 208) (pc' := 223) rfl (hb hby at_208) rfl (feq hc76).2 (by decide) (by decide) k) ?_
                show OwnEnd p e below s _ _ _ (T5.setTop (mkF m 223 #[.val (.long q1), .second, .val (.long q2), .second, .val (.int p3), .val (.ref b1), .val (.int (p3 &&& (7 : Int32))), .unset, .unset, .unset] []))
                obtain ⟨T78, h78, X78, e78, E78, A78, D78, -, st78⟩ := newO X5 hx hZ hown ww0 ww1 ww2 (rfl : T5.heap = T5.heap) (g := (mkF m 223 #[.val (.long q1), .second, .val (.long q2), .second, .val (.int p3), .val (.ref b1), .val (.int (p3 &&& (7 : Int32))), .unset, .unset, .unset] [])) rfl (hb hby at_223) (by decide) (by decide)
                obtain ⟨b78, g78⟩ : ∃ z, z = T5.heap.size := ⟨_, rfl⟩
                rw [← g78] at A78 D78 st78
                have ne79 : a_N ≠ b78 := Nat.ne_of_lt (Nat.lt_of_lt_of_le F8.lt (Nat.le_of_eq g78.symm))
                have ne80 : b1 ≠ b78 := Nat.ne_of_lt (Nat.lt_of_lt_of_le P6.lt (Nat.le_of_eq g78.symm))
                have u78 : n0 ≤ b78 := Nat.le_trans Y5 (Nat.le_of_eq g78.symm)
                have v78 : h0.size ≤ b78 := Nat.le_trans K5.1 (Nat.le_of_eq g78.symm)
                have F81 := F8.ext E78
                have F82 := P6.ext E78
                have F83 := P7.ext E78
                have K78 := K5.ext E78
                have Y78 := Nat.le_trans Y5 E78.1
                have O78 := O5.ext E78
                have F84 : Fld Z h78 b78 "com/example/volens/volens/core/term/Int" "value" "J" (.long (0 : Int64)) := D78 (Or.inr ww15) (ty := .long) (by decide)
                refine OwnEnd.go (fun _ k => st78 _ k) ?_
                show OwnEnd p e below s _ _ _ (T78.setTop (mkF m 226 #[.val (.long q1), .second, .val (.long q2), .second, .val (.int p3), .val (.ref b1), .val (.int (p3 &&& (7 : Int32))), .unset, .unset, .unset] [(.ref b78)]))
                refine OwnEnd.go (fun _ k => XS.dup X78.here hx rfl (hb hby at_226) rfl rfl k) ?_
                show OwnEnd p e below s _ _ _ (T78.setTop (mkF m 227 #[.val (.long q1), .second, .val (.long q2), .second, .val (.int p3), .val (.ref b1), .val (.int (p3 &&& (7 : Int32))), .unset, .unset, .unset] [(.ref b78), (.ref b78)]))
                refine OwnEnd.go (fun _ k => XS.lloadN X78.here hx rfl (hb hby at_227) rfl  k) ?_
                show OwnEnd p e below s _ _ _ (T78.setTop (mkF m 228 #[.val (.long q1), .second, .val (.long q2), .second, .val (.int p3), .val (.ref b1), .val (.int (p3 &&& (7 : Int32))), .unset, .unset, .unset] [(.long q2), (.ref b78), (.ref b78)]))
                obtain ⟨_, T85, L85, X85, hQ85, st85⟩ := ownCallI X78 hx hZ hown rfl ww3 ww4 ww2 ww5 (by decide) (rm1 l Z a0 hw [] b78 q2 (.long (0 : Int64)) h78 n0 Y78  F84 A78 u78) e78 (b := b78) 1 (by decide) (by decide) (by decide) (by decide) (g := (mkF m 228 #[.val (.long q1), .second, .val (.long q2), .second, .val (.int p3), .val (.ref b1), .val (.int (p3 &&& (7 : Int32))), .unset, .unset, .unset] [(.long q2), (.ref b78), (.ref b78)])) rfl (by rw [hml]; rfl) (argsL := [(.long q2)]) (rest := [(.ref b78)]) (lenOf pd0_0 rfl) rfl rfl (by show 2 * 0 + _ ≤ _; exact Nat.le_of_eq rfl) (hb hby at_228)
                obtain ⟨rfl, N85q, K85q, P86, P87⟩ := hQ85
                have N85 := Fr.app N5 N85q
                have F88 := F81.keep K85q
                have F89 := F82.keep K85q
                have F90 := F83.keep K85q (ninS ne80 nin0)
                have F91 := A78.keep K85q
                have K85 := K78.trans K85q (allS (Or.inr v78) all0)
                have Y85 := Nat.le_trans Y78 K85q.1
                have O85 := O78.keep K85q (allS u78 all0)
                refine OwnEnd.go (fun _ k => st85 _ k) ?_
                show OwnEnd p e below s _ _ _ (T85.setTop (mkF m 231 #[.val (.long q1), .second, .val (.long q2), .second, .val (.int p3), .val (.ref b1), .val (.int (p3 &&& (7 : Int32))), .unset, .unset, .unset] [(.ref b78)]))
                refine OwnEnd.go (fun _ k => XS.astore X85.here hx rfl (hb hby at_231) rfl rfl (l' := #[.val (.long q1), .second, .val (.long q2), .second, .val (.int p3), .val (.ref b1), .val (.int (p3 &&& (7 : Int32))), .val (.ref b78), .unset, .unset]) rfl k) ?_
                show OwnEnd p e below s _ _ _ (T85.setTop (mkF m 233 #[.val (.long q1), .second, .val (.long q2), .second, .val (.int p3), .val (.ref b1), .val (.int (p3 &&& (7 : Int32))), .val (.ref b78), .unset, .unset] []))
                refine OwnEnd.go (fun _ k => XS.aload X85.here hx rfl (hb hby at_233) rfl rfl k) ?_
                show OwnEnd p e below s _ _ _ (T85.setTop (mkF m 235 #[.val (.long q1), .second, .val (.long q2), .second, .val (.int p3), .val (.ref b1), .val (.int (p3 &&& (7 : Int32))), .val (.ref b78), .unset, .unset] [(.ref b1)]))
                refine OwnEnd.go (fun _ k => XS.aload X85.here hx rfl (hb hby at_235) rfl rfl k) ?_
                show OwnEnd p e below s _ _ _ (T85.setTop (mkF m 237 #[.val (.long q1), .second, .val (.long q2), .second, .val (.int p3), .val (.ref b1), .val (.int (p3 &&& (7 : Int32))), .val (.ref b78), .unset, .unset] [(.ref b78), (.ref b1)]))
                obtain ⟨_, T93, L93, X93, hQ93, st93⟩ := ownCallV X85 hx hZ hown ww16 ww17 ww19 ww18 ww2 ww20 (by decide) (rm4 l Z a0 hw [] b1 b78 q1 q2 T85.heap n0 Y85  F90 P87 P86) (rfl : T85.heap = T85.heap) F89 0 (by decide) (by decide) (by decide) (by decide) (g := (mkF m 237 #[.val (.long q1), .second, .val (.long q2), .second, .val (.int p3), .val (.ref b1), .val (.int (p3 &&& (7 : Int32))), .val (.ref b78), .unset, .unset] [(.ref b78), (.ref b1)])) rfl (by rw [hml]; rfl) (argsL := [(.ref b78)]) (rest := []) (lenOf pd0_1 rfl) rfl rfl (by show 2 * 0 + _ ≤ _; exact Nat.le_of_eq rfl) (hb hby at_237)
                obtain ⟨rfl, N93q, e93⟩ := hQ93
                have N93 := Fr.app N85 N93q
                refine OwnEnd.go (fun _ k => st93 _ k) ?_
                show OwnEnd p e below s _ _ _ (T93.setTop (mkF m 240 #[.val (.long q1), .second, .val (.long q2), .second, .val (.int p3), .val (.ref b1), .val (.int (p3 &&& (7 : Int32))), .val (.ref b78), .unset, .unset] [(.int (own_eqL q1 q2))]))
                refine OwnEnd.go (fun _ k => XS.istore X93.here hx rfl (hb hby at_240) rfl  (l' := #[.val (.long q1), .second, .val (.long q2), .second, .val (.int p3), .val (.ref b1), .val (.int (p3 &&& (7 : Int32))), .val (.ref b78), .val (.int (own_eqL q1 q2)), .unset]) rfl k) ?_
                show OwnEnd p e below s _ _ _ (T93.setTop (mkF m 242 #[.val (.long q1), .second, .val (.long q2), .second, .val (.int p3), .val (.ref b1), .val (.int (p3 &&& (7 : Int32))), .val (.ref b78), .val (.int (own_eqL q1 q2)), .unset] []))
                refine OwnEnd.go (fun _ k => XS.aload X93.here hx rfl (hb hby at_242) rfl rfl k) ?_
                show OwnEnd p e below s _ _ _ (T93.setTop (mkF m 244 #[.val (.long q1), .second, .val (.long q2), .second, .val (.int p3), .val (.ref b1), .val (.int (p3 &&& (7 : Int32))), .val (.ref b78), .val (.int (own_eqL q1 q2)), .unset] [(.ref b78)]))
                refine OwnEnd.go (fun _ k => XS.aload X93.here hx rfl (hb hby at_244) rfl rfl k) ?_
                show OwnEnd p e below s _ _ _ (T93.setTop (mkF m 246 #[.val (.long q1), .second, .val (.long q2), .second, .val (.int p3), .val (.ref b1), .val (.int (p3 &&& (7 : Int32))), .val (.ref b78), .val (.int (own_eqL q1 q2)), .unset] [(.ref b1), (.ref b78)]))
                obtain ⟨_, T94, L94, X94, hQ94, st94⟩ := ownCallV X93 hx hZ hown ww16 ww17 ww19 ww18 ww2 ww20 (by decide) (rm4 l Z a0 hw [] b78 b1 q2 q1 T85.heap n0 Y85  P87 F90 F89) e93 P86 0 (by decide) (by decide) (by decide) (by decide) (g := (mkF m 246 #[.val (.long q1), .second, .val (.long q2), .second, .val (.int p3), .val (.ref b1), .val (.int (p3 &&& (7 : Int32))), .val (.ref b78), .val (.int (own_eqL q1 q2)), .unset] [(.ref b1), (.ref b78)])) rfl (by rw [hml]; rfl) (argsL := [(.ref b1)]) (rest := []) (lenOf pd0_1 rfl) rfl rfl (by show 2 * 0 + _ ≤ _; exact Nat.le_of_eq rfl) (hb hby at_246)
                obtain ⟨rfl, N94q, e94⟩ := hQ94
                have N94 := Fr.app N93 N94q
                refine OwnEnd.go (fun _ k => st94 _ k) ?_
                show OwnEnd p e below s _ _ _ (T94.setTop (mkF m 249 #[.val (.long q1), .second, .val (.long q2), .second, .val (.int p3), .val (.ref b1), .val (.int (p3 &&& (7 : Int32))), .val (.ref b78), .val (.int (own_eqL q1 q2)), .unset] [(.int (own_eqL q2 q1))]))
                refine OwnEnd.go (fun _ k => XS.istore X94.here hx rfl (hb hby at_249) rfl  (l' := #[.val (.long q1), .second, .val (.long q2), .second, .val (.int p3), .val (.ref b1), .val (.int (p3 &&& (7 : Int32))), .val (.ref b78), .val (.int (own_eqL q1 q2)), .val (.int (own_eqL q2 q1))]) rfl k) ?_
                show OwnEnd p e below s _ _ _ (T94.setTop (mkF m 251 #[.val (.long q1), .second, .val (.long q2), .second, .val (.int p3), .val (.ref b1), .val (.int (p3 &&& (7 : Int32))), .val (.ref b78), .val (.int (own_eqL q1 q2)), .val (.int (own_eqL q2 q1))] []))
                refine OwnEnd.go (fun _ k => XS.iload X94.here hx rfl (hb hby at_251) rfl  k) ?_
                show OwnEnd p e below s _ _ _ (T94.setTop (mkF m 253 #[.val (.long q1), .second, .val (.long q2), .second, .val (.int p3), .val (.ref b1), .val (.int (p3 &&& (7 : Int32))), .val (.ref b78), .val (.int (own_eqL q1 q2)), .val (.int (own_eqL q2 q1))] [(.int (own_eqL q1 q2))]))
                refine OwnEnd.go (fun _ k => XS.iload X94.here hx rfl (hb hby at_253) rfl  k) ?_
                show OwnEnd p e below s _ _ _ (T94.setTop (mkF m 255 #[.val (.long q1), .second, .val (.long q2), .second, .val (.int p3), .val (.ref b1), .val (.int (p3 &&& (7 : Int32))), .val (.ref b78), .val (.int (own_eqL q1 q2)), .val (.int (own_eqL q2 q1))] [(.int (own_eqL q2 q1)), (.int (own_eqL q1 q2))]))
                refine OwnEnd.go (fun _ k => XS.icmpNo X94.here hx rfl (hb hby at_255) rfl (teq (own_eqL_c _ _)).2 k) ?_
                show OwnEnd p e below s _ _ _ (T94.setTop (mkF m 258 #[.val (.long q1), .second, .val (.long q2), .second, .val (.int p3), .val (.ref b1), .val (.int (p3 &&& (7 : Int32))), .val (.ref b78), .val (.int (own_eqL q1 q2)), .val (.int (own_eqL q2 q1))] []))
                refine OwnEnd.go (fun _ k => XS.iload X94.here hx rfl (hb hby at_258) rfl  k) ?_
                show OwnEnd p e below s _ _ _ (T94.setTop (mkF m 260 #[.val (.long q1), .second, .val (.long q2), .second, .val (.int p3), .val (.ref b1), .val (.int (p3 &&& (7 : Int32))), .val (.ref b78), .val (.int (own_eqL q1 q2)), .val (.int (own_eqL q2 q1))] [(.int (own_eqL q1 q2))]))
                refine OwnEnd.go (fun _ k => XS.lloadN X94.here hx rfl (hb hby at_260) rfl  k) ?_
                show OwnEnd p e below s _ _ _ (T94.setTop (mkF m 261 #[.val (.long q1), .second, .val (.long q2), .second, .val (.int p3), .val (.ref b1), .val (.int (p3 &&& (7 : Int32))), .val (.ref b78), .val (.int (own_eqL q1 q2)), .val (.int (own_eqL q2 q1))] [(.long q1), (.int (own_eqL q1 q2))]))
                refine OwnEnd.go (fun _ k => XS.lloadN X94.here hx rfl (hb hby at_261) rfl  k) ?_
                show OwnEnd p e below s _ _ _ (T94.setTop (mkF m 262 #[.val (.long q1), .second, .val (.long q2), .second, .val (.int p3), .val (.ref b1), .val (.int (p3 &&& (7 : Int32))), .val (.ref b78), .val (.int (own_eqL q1 q2)), .val (.int (own_eqL q2 q1))] [(.long q2), (.long q1), (.int (own_eqL q1 q2))]))
                refine OwnEnd.go (fun _ k => XS.lcmp X94.here hx rfl (hb hby at_262) rfl k) ?_
                show OwnEnd p e below s _ _ _ (T94.setTop (mkF m 263 #[.val (.long q1), .second, .val (.long q2), .second, .val (.int p3), .val (.ref b1), .val (.int (p3 &&& (7 : Int32))), .val (.ref b78), .val (.int (own_eqL q1 q2)), .val (.int (own_eqL q2 q1))] [(.int (lcmpW q1 q2)), (.int (own_eqL q1 q2))]))
                by_cases hc95 : q1 = q2
                · refine OwnEnd.go (fun _ k => XS.ifNo X94.here hx rfl (hb hby at_263) rfl (ownEq hc95).2 k) ?_
                  show OwnEnd p e below s _ _ _ (T94.setTop (mkF m 266 #[.val (.long q1), .second, .val (.long q2), .second, .val (.int p3), .val (.ref b1), .val (.int (p3 &&& (7 : Int32))), .val (.ref b78), .val (.int (own_eqL q1 q2)), .val (.int (own_eqL q2 q1))] [(.int (own_eqL q1 q2))]))
                  refine OwnEnd.go (fun _ k => XS.iconst X94.here hx rfl (hb hby at_266) k) ?_
                  show OwnEnd p e below s _ _ _ (T94.setTop (mkF m 267 #[.val (.long q1), .second, .val (.long q2), .second, .val (.int p3), .val (.ref b1), .val (.int (p3 &&& (7 : Int32))), .val (.ref b78), .val (.int (own_eqL q1 q2)), .val (.int (own_eqL q2 q1))] [(.int (1 : Int32)), (.int (own_eqL q1 q2))]))
                  refine OwnEnd.go (fun _ k => XS.goto X94.here hx rfl (pc0 := 267) (pc' := 271) rfl (hb hby at_267) (by decide) (by decide) k) ?_
                  show OwnEnd p e below s _ _ _ (T94.setTop (mkF m 271 #[.val (.long q1), .second, .val (.long q2), .second, .val (.int p3), .val (.ref b1), .val (.int (p3 &&& (7 : Int32))), .val (.ref b78), .val (.int (own_eqL q1 q2)), .val (.int (own_eqL q2 q1))] [(.int (1 : Int32)), (.int (own_eqL q1 q2))]))
                  refine OwnEnd.go (fun _ k => XS.icmpNo X94.here hx rfl (hb hby at_271) rfl (teq (own_eqL_t hc95)).2 k) ?_
                  show OwnEnd p e below s _ _ _ (T94.setTop (mkF m 274 #[.val (.long q1), .second, .val (.long q2), .second, .val (.int p3), .val (.ref b1), .val (.int (p3 &&& (7 : Int32))), .val (.ref b78), .val (.int (own_eqL q1 q2)), .val (.int (own_eqL q2 q1))] []))
                  refine OwnEnd.go (fun _ k => XS.iconst X94.here hx rfl (hb hby at_274) k) ?_
                  show OwnEnd p e below s _ _ _ (T94.setTop (mkF m 275 #[.val (.long q1), .second, .val (.long q2), .second, .val (.int p3), .val (.ref b1), .val (.int (p3 &&& (7 : Int32))), .val (.ref b78), .val (.int (own_eqL q1 q2)), .val (.int (own_eqL q2 q1))] [(.int (1 : Int32))]))
                  refine OwnEnd.go (fun _ k => XS.goto X94.here hx rfl (pc0 := 275) (pc' := 279) rfl (hb hby at_275) (by decide) (by decide) k) ?_
                  show OwnEnd p e below s _ _ _ (T94.setTop (mkF m 279 #[.val (.long q1), .second, .val (.long q2), .second, .val (.int p3), .val (.ref b1), .val (.int (p3 &&& (7 : Int32))), .val (.ref b78), .val (.int (own_eqL q1 q2)), .val (.int (own_eqL q2 q1))] [(.int (1 : Int32))]))
                  refine ownRetZ X94 hx hlk hret (hb hby at_279) (by decide) (by decide) (1 : Int32) (by decide) ?_
                  show Q0 Z q1 q2 p3 a_N ac h0 n0 _ T94.heap _
                  rw [e94]
                  exact ⟨rfl, N94⟩
                · refine OwnEnd.go (fun _ k => XS.ifYes X94.here hx rfl (pc0 := 263) (pc' := 270) rfl (hb hby at_263) rfl (ownNeq hc95).2 (by decide) (by decide) k) ?_
                  show OwnEnd p e below s _ _ _ (T94.setTop (mkF m 270 #[.val (.long q1), .second, .val (.long q2), .second, .val (.int p3), .val (.ref b1), .val (.int (p3 &&& (7 : Int32))), .val (.ref b78), .val (.int (own_eqL q1 q2)), .val (.int (own_eqL q2 q1))] [(.int (own_eqL q1 q2))]))
                  refine OwnEnd.go (fun _ k => XS.iconst X94.here hx rfl (hb hby at_270) k) ?_
                  show OwnEnd p e below s _ _ _ (T94.setTop (mkF m 271 #[.val (.long q1), .second, .val (.long q2), .second, .val (.int p3), .val (.ref b1), .val (.int (p3 &&& (7 : Int32))), .val (.ref b78), .val (.int (own_eqL q1 q2)), .val (.int (own_eqL q2 q1))] [(.int (0 : Int32)), (.int (own_eqL q1 q2))]))
                  refine OwnEnd.go (fun _ k => XS.icmpNo X94.here hx rfl (hb hby at_271) rfl (teq (own_eqL_f hc95)).2 k) ?_
                  show OwnEnd p e below s _ _ _ (T94.setTop (mkF m 274 #[.val (.long q1), .second, .val (.long q2), .second, .val (.int p3), .val (.ref b1), .val (.int (p3 &&& (7 : Int32))), .val (.ref b78), .val (.int (own_eqL q1 q2)), .val (.int (own_eqL q2 q1))] []))
                  refine OwnEnd.go (fun _ k => XS.iconst X94.here hx rfl (hb hby at_274) k) ?_
                  show OwnEnd p e below s _ _ _ (T94.setTop (mkF m 275 #[.val (.long q1), .second, .val (.long q2), .second, .val (.int p3), .val (.ref b1), .val (.int (p3 &&& (7 : Int32))), .val (.ref b78), .val (.int (own_eqL q1 q2)), .val (.int (own_eqL q2 q1))] [(.int (1 : Int32))]))
                  refine OwnEnd.go (fun _ k => XS.goto X94.here hx rfl (pc0 := 275) (pc' := 279) rfl (hb hby at_275) (by decide) (by decide) k) ?_
                  show OwnEnd p e below s _ _ _ (T94.setTop (mkF m 279 #[.val (.long q1), .second, .val (.long q2), .second, .val (.int p3), .val (.ref b1), .val (.int (p3 &&& (7 : Int32))), .val (.ref b78), .val (.int (own_eqL q1 q2)), .val (.int (own_eqL q2 q1))] [(.int (1 : Int32))]))
                  refine ownRetZ X94 hx hlk hret (hb hby at_279) (by decide) (by decide) (1 : Int32) (by decide) ?_
                  show Q0 Z q1 q2 p3 a_N ac h0 n0 _ T94.heap _
                  rw [e94]
                  exact ⟨rfl, N94⟩
set_option maxRecDepth 65536 in
set_option maxHeartbeats 40000000 in
theorem comes_1 {Post : Tables → Env → Array Value → State → Outcome → State → Prop} (hpost : ∀ tb e args s v u, (limb_1_1.after args s (.returned v) u = true ∧ limb_1_2.after args s (.returned v) u = true ∧ True) → FrameEnd s (.returned v) u (Jvm.fieldLocs frame_1_writes args s ++ Jvm.arrayLocs frame_1_arrays args s ++ Jvm.staticLocs frame_1_statics s) 16 128 → Post tb e args s (.returned v) u) :
    ArmFor flags0 classFile x code maxLocals ret World_1 tables_1 room_1 Calls_1 rest_1 Pre_1 Post := by
  intro l hfl _ _ p e ha hc hk s m args below hf hA hF happ hP
  obtain ⟨hcalls, hrest, hpre⟩ := hP
  obtain ⟨-, -, -, hnamed, -, -, -, hat⟩ := (Spec.applies_iff hf).mp happ
  obtain ⟨hg, hn⟩ := and_e (Cond.before_iff.mp (show (Jvm.Cond.and given_1 narrow_1).before args s = true from hpre))
  obtain ⟨hcount, hg⟩ := and_e hg
  obtain ⟨hv0, hg⟩ := and_e hg
  obtain ⟨hv1, hg⟩ := and_e hg
  have hv2 := hg
  obtain ⟨w0, w1, w2, rfl⟩ : ∃ w0 w1 w2 : Value, args = #[w0, w1, w2] := by
    have hs : args.size = 3 := by simpa [Cond.value, given_1] using hcount
    obtain ⟨L⟩ := args
    match L, hs with
    | [w0, w1, w2], _ => exact ⟨w0, w1, w2, rfl⟩
  have hw := fun d (hd : d ∈ tables_1) => atoms_spec (ws := Jvm.Cond.code x code maxLocals ret :: tables_1) hat d (List.mem_cons_of_mem _ hd)
  have hfit : Fit s := fun {y c} hc i hi => by
    obtain ⟨ha, rfl⟩ := Array.getElem?_eq_some_iff.mp hc
    have q := List.all_eq_true.mp ((Array.all_eq_true_iff_forall_mem.mp hF) _ (Array.getElem_mem ha)) i (List.mem_range.mpr hi)
    simpa [Array.getElem?_eq_getElem hi] using q
  obtain ⟨hsets, hown0⟩ := atoms_of _ (rest_1_c_eq ▸ (show rest_1_c.before _ s = true from hrest))
  obtain ⟨i0, ei0⟩ := isL_v hv0
  obtain rfl : w0 = (.long i0) := Option.some.inj ei0
  obtain ⟨i1, ei1⟩ := isL_v hv1
  obtain rfl : w1 = (.long i1) := Option.some.inj ei1
  obtain ⟨i2, ei2⟩ := is_v hv2
  obtain rfl : w2 = (.int i2) := Option.some.inj ei2
  have ww49 := hw _ (List.mem_of_getElem? (i := 49) rfl)
  have ww50 := hw _ (List.mem_of_getElem? (i := 50) rfl)
  obtain ⟨a_N, ev_N⟩ := exa_v hn
  have E_N := Exa.start ev_N hn
  have S_N := Sta.start ev_N (Or.inr ⟨ww49, ww50⟩)
  have c2 := Cond.before_iff.mp (hsets _ (List.mem_of_getElem? (i := 2) rfl))
  have c4 := Cond.before_iff.mp (hsets _ (List.mem_of_getElem? (i := 4) rfl))
  have c5 := hsets _ (List.mem_of_getElem? (i := 5) rfl)
  obtain ⟨ac, ev_C⟩ := arr_v c2
  have SC := Sta.start ev_C (Or.inl (hsets _ (List.mem_of_getElem? (i := 1) rfl)))
  have LC : own_LC s ac := own_LC_start hfit ev_C c2 c4 c5
  obtain ⟨n, o, h1, h2, h3, _, L, rfl, ⟨rfl, N⟩, hq⟩ := rm0 l s _ hw tables_1 i0 i1 i2 a_N ac s.heap s.heap.size (Nat.le_refl _) (Old.start s) S_N E_N SC LC p e ha hc hk s m _ below hf ((Spec.applies_iff_loose hf).mp happ).1 ⟨rfl, State.Warmed39.refl s, rfl⟩ trivial
  refine ⟨n, _, h1, h2, h3, hpost _ _ _ _ _ _ ⟨Cond.after_iff.mpr rfl, Cond.after_iff.mpr (eq_i res_at (Term.int_eval (1)) rfl), trivial⟩ ⟨hq.1, hq.2.1, (hq.2.2.sift fun y hy => Or.inr (N y hy)).mono (by decide) (by decide)⟩⟩
theorem main_1_1 : Claimed_1_1 := comes_1 fun _ _ _ _ _ _ h hF => ⟨h.1, hF⟩
theorem main_1_2 : Claimed_1_2 := comes_1 fun _ _ _ _ _ _ h hF => ⟨h.2.1, hF⟩
end Jvm.Pilot.@@N@@
namespace Jvm.Pilot.@@N@@
open Jvm Jvm.ClassFile Sem Op Lib Jvm.Free Jvm.Stand Jvm.Pilot.@@N@@.Jvm.D
/-! MADE BY PROGRAM (witnessworld.py) out of the Statement's table words and the real class files: 20 classes; the members and pool entries that the words name. The judged class is class 1, her method 1. -/
namespace start1
open Jvm.ClassFile
def u (s : String) : CpInfo := .utf8 (stringToUtf16 s)
/-- a pool by its gaps: so many unusable entries, then the entry; so many at the end -/
def gap : Nat → List CpInfo → List CpInfo
  | 0, r => r
  | n + 1, r => .unusable :: gap n r
def poolList (es : List (Nat × CpInfo)) (last : Nat) : List CpInfo := es.foldr (fun e r => gap e.1 (e.2 :: r)) (gap last [])
def pool (es : List (Nat × CpInfo)) (last : Nat) : Array CpInfo := ⟨poolList es last⟩
def fileOf (pool : Array CpInfo) (this : Nat) (attrs : Array Attribute := #[]) (ms : Array MethodInfo := #[]) (fl : Nat := 33) (sup : Nat := 0) (ifs : Array Nat := #[]) (fds : Array FieldInfo := #[]) : ClassFile where
  minorVersion := 0
  majorVersion := 65
  constantPool := pool
  accessFlags := fl
  thisClass := this
  superClass := sup
  interfaces := ifs
  fields := fds
  methods := ms
  attributes := attrs
def plain (name : String) (sup : Option ClassId) : Class where
  name := name
  kind := .ordinary
  loader := none
  accessFlags := 33
  super := sup
  interfaces := #[]
  cf := none
  fields := #[]
  methods := #[]
  instanceTypes := #[]
  staticTypes := #[]
  resolved := #[]
  callSites := []
  init := .initialized
  statics := none
  mirror := none

def pool0 : Array CpInfo := pool [(5, u "<init>"), (0, u "()V"), (1, .class_ 10), (1, u "java/lang/Object")] 113

def k0c0 : Code := { maxStack := 0, maxLocals := 1, code := object_method_1_code, exceptionTable := #[], attributes := #[] }
def k0m0 : Method := { name := "<init>", desc := "()V", sig := { parameters := [], returnType := none }, accessFlags := 1, code := some k0c0 }
/-- java/lang/Object -/
def k0 : Class := { plain "java/lang/Object" none with
  accessFlags := 33
  interfaces := #[]
  cf := some (fileOf pool0 8 #[] #[{ accessFlags := 1, nameIndex := 5, descriptorIndex := 6, attributes := #[] }] 33 0 #[] #[])
  fields := #[]
  methods := #[k0m0]
  instanceTypes := #[]
  staticTypes := #[]
  resolved := Array.replicate 124 none
  statics := none }

def pool1 : Array CpInfo := pool [(2, .class_ 4), (1, u "java/lang/Object"), (0, u "<init>"), (0, u "()V"), (0, .class_ 8), (0, u "com/example/volens/volens/core/term/Int"), (0, .methodref 7 10), (0, .nameAndType 5 11), (0, u "(J)V"), (0, .methodref 7 13), (0, .nameAndType 14 15), (0, u "equals"), (0, u "(Ljava/lang/Object;)Z"), (0, .long 63), (1, .fieldref 19 20), (0, .class_ 21), (0, .nameAndType 22 23), (0, u "com/example/volens/volens/core/term/Nil"), (0, u "INSTANCE"), (0, u "Lcom/example/volens/volens/core/term/Nil;"), (0, .methodref 25 26), (0, .class_ 27), (0, .nameAndType 28 29), (0, u "java/lang/Long"), (0, u "valueOf"), (0, u "(J)Ljava/lang/Long;"), (0, .class_ 31), (0, u "com/example/volens/volens/core/term/IntEqualsPinLaw"), (2, u "law"), (0, u "(JJI)Z")] 3

def k1m0 : Method := { name := "<init>", desc := "()V", sig := { parameters := [], returnType := none }, accessFlags := 1, code := none }
def k1c1 : Code := { maxStack := 10, maxLocals := 10, code := code, exceptionTable := #[], attributes := #[] }
def k1m1 : Method := { name := "law", desc := "(JJI)Z", sig := { parameters := [.long, .long, .int], returnType := some .boolean }, accessFlags := 9, code := some k1c1 }
/-- com/example/volens/volens/core/term/IntEqualsPinLaw -/
def k1 : Class := { plain "com/example/volens/volens/core/term/IntEqualsPinLaw" (some 0) with
  accessFlags := 49
  interfaces := #[]
  cf := some (fileOf pool1 30 #[] #[{ accessFlags := 1, nameIndex := 5, descriptorIndex := 6, attributes := #[] }, { accessFlags := 9, nameIndex := 34, descriptorIndex := 35, attributes := #[] }] 49 2 #[] #[])
  fields := #[]
  methods := #[k1m0, k1m1]
  instanceTypes := #[]
  staticTypes := #[]
  resolved := Array.replicate 39 none
  statics := none }

def pool2 : Array CpInfo := pool [(1, .methodref 2 3), (0, .class_ 4), (0, .nameAndType 5 6), (0, u "java/lang/Object"), (0, u "<init>"), (0, u "()V"), (0, .class_ 8), (0, u "java/lang/Record")] 13

def k2c0 : Code := { maxStack := 1, maxLocals := 1, code := jdk_30_method_1_code, exceptionTable := #[], attributes := #[] }
def k2m0 : Method := { name := "<init>", desc := "()V", sig := { parameters := [], returnType := none }, accessFlags := 4, code := some k2c0 }
/-- java/lang/Record -/
def k2 : Class := { plain "java/lang/Record" (some 0) with
  accessFlags := 1057
  interfaces := #[]
  cf := some (fileOf pool2 7 #[] #[{ accessFlags := 4, nameIndex := 5, descriptorIndex := 6, attributes := #[] }] 1057 2 #[] #[])
  fields := #[]
  methods := #[k2m0]
  instanceTypes := #[]
  staticTypes := #[]
  resolved := Array.replicate 22 none
  statics := none }

def pool3 : Array CpInfo := pool [(1, .class_ 2), (0, u "com/example/volens/volens/core/term/Term"), (0, .class_ 4), (0, u "java/lang/Object")] 19

/-- com/example/volens/volens/core/term/Term -/
def k3 : Class := { plain "com/example/volens/volens/core/term/Term" (some 0) with
  accessFlags := 1537
  interfaces := #[]
  cf := some (fileOf pool3 1 #[] #[] 1537 3 #[] #[])
  fields := #[]
  methods := #[]
  instanceTypes := #[]
  staticTypes := #[]
  resolved := Array.replicate 24 none
  statics := none }

def pool4 : Array CpInfo := pool [(1, .methodref 2 3), (0, .class_ 4), (0, .nameAndType 5 6), (0, u "java/lang/Record"), (0, u "<init>"), (0, u "()V"), (0, .fieldref 8 9), (0, .class_ 10), (0, .nameAndType 11 12), (0, u "com/example/volens/volens/core/term/Int"), (0, u "value"), (0, u "J"), (10, .class_ 24), (0, u "com/example/volens/volens/core/term/Term"), (0, u "(J)V"), (3, u "equals"), (0, u "(Ljava/lang/Object;)Z")] 23

def k4c0 : Code := { maxStack := 3, maxLocals := 3, code := prog_79_method_1_code, exceptionTable := #[], attributes := #[] }
def k4m0 : Method := { name := "<init>", desc := "(J)V", sig := { parameters := [.long], returnType := none }, accessFlags := 1, code := some k4c0 }
def k4c1 : Code := { maxStack := 4, maxLocals := 3, code := prog_79_method_2_code, exceptionTable := #[], attributes := #[] }
def k4m1 : Method := { name := "equals", desc := "(Ljava/lang/Object;)Z", sig := { parameters := [(.object "java/lang/Object")], returnType := some .boolean }, accessFlags := 1, code := some k4c1 }
/-- com/example/volens/volens/core/term/Int -/
def k4 : Class := { plain "com/example/volens/volens/core/term/Int" (some 2) with
  accessFlags := 49
  interfaces := #[3]
  cf := some (fileOf pool4 8 #[] #[{ accessFlags := 1, nameIndex := 5, descriptorIndex := 25, attributes := #[] }, { accessFlags := 1, nameIndex := 29, descriptorIndex := 30, attributes := #[] }] 49 2 #[23] #[{ accessFlags := 18, nameIndex := 11, descriptorIndex := 12, attributes := #[] }])
  fields := #[{ name := "value", type := .long, accessFlags := 18, slot := 0, constantValue := 0 }]
  methods := #[k4m0, k4m1]
  instanceTypes := #[.long]
  staticTypes := #[]
  resolved := Array.replicate 54 none
  statics := none }

def pool5 : Array CpInfo := pool [(1, .class_ 2), (0, u "java/io/Serializable"), (0, .class_ 4), (0, u "java/lang/Object")] 2

/-- java/io/Serializable -/
def k5 : Class := { plain "java/io/Serializable" (some 0) with
  accessFlags := 1537
  interfaces := #[]
  cf := some (fileOf pool5 1 #[] #[] 1537 3 #[] #[])
  fields := #[]
  methods := #[]
  instanceTypes := #[]
  staticTypes := #[]
  resolved := Array.replicate 7 none
  statics := none }

def pool6 : Array CpInfo := pool [(1, .methodref 2 3), (0, .class_ 4), (0, .nameAndType 5 6), (0, u "java/lang/Object"), (0, u "<init>"), (0, u "()V"), (1, .class_ 10), (1, u "java/lang/Number"), (2, .class_ 14), (0, u "java/io/Serializable"), (0, u "serialVersionUID"), (0, u "J")] 20

def k6c0 : Code := { maxStack := 1, maxLocals := 1, code := jdk_18_method_1_code, exceptionTable := #[], attributes := #[] }
def k6m0 : Method := { name := "<init>", desc := "()V", sig := { parameters := [], returnType := none }, accessFlags := 1, code := some k6c0 }
/-- java/lang/Number -/
def k6 : Class := { plain "java/lang/Number" (some 0) with
  accessFlags := 1057
  interfaces := #[5]
  cf := some (fileOf pool6 8 #[] #[{ accessFlags := 1, nameIndex := 5, descriptorIndex := 6, attributes := #[] }] 1057 2 #[13] #[{ accessFlags := 26, nameIndex := 15, descriptorIndex := 16, attributes := #[] }])
  fields := #[{ name := "serialVersionUID", type := .long, accessFlags := 26, slot := 0, constantValue := 0 }]
  methods := #[k6m0]
  instanceTypes := #[]
  staticTypes := #[.long]
  resolved := Array.replicate 37 none
  statics := none }

def pool7 : Array CpInfo := pool [(1, .class_ 2), (0, u "java/lang/Comparable"), (0, .class_ 4), (0, u "java/lang/Object")] 7

/-- java/lang/Comparable -/
def k7 : Class := { plain "java/lang/Comparable" (some 0) with
  accessFlags := 1537
  interfaces := #[]
  cf := some (fileOf pool7 1 #[] #[] 1537 3 #[] #[])
  fields := #[]
  methods := #[]
  instanceTypes := #[]
  staticTypes := #[]
  resolved := Array.replicate 12 none
  statics := none }

def pool8 : Array CpInfo := pool [(1, .class_ 2), (0, u "java/lang/constant/Constable"), (0, .class_ 4), (0, u "java/lang/Object")] 6

/-- java/lang/constant/Constable -/
def k8 : Class := { plain "java/lang/constant/Constable" (some 0) with
  accessFlags := 1537
  interfaces := #[]
  cf := some (fileOf pool8 1 #[] #[] 1537 3 #[] #[])
  fields := #[]
  methods := #[]
  instanceTypes := #[]
  staticTypes := #[]
  resolved := Array.replicate 11 none
  statics := none }

def pool9 : Array CpInfo := pool [(1, .class_ 2), (0, u "java/lang/constant/ConstantDesc"), (0, .class_ 4), (0, u "java/lang/Object")] 32

/-- java/lang/constant/ConstantDesc -/
def k9 : Class := { plain "java/lang/constant/ConstantDesc" (some 0) with
  accessFlags := 1537
  interfaces := #[]
  cf := some (fileOf pool9 1 #[] #[] 1537 3 #[] #[])
  fields := #[]
  methods := #[]
  instanceTypes := #[]
  staticTypes := #[]
  resolved := Array.replicate 37 none
  statics := none }

def pool10 : Array CpInfo := pool [(1, .class_ 2), (0, u "java/lang/Long"), (55, .nameAndType 59 60), (0, u "<init>"), (0, u "()V"), (24, u "valueOf"), (143, u "(J)Ljava/lang/Long;"), (0, .long 18446744073709551488), (1, .long 127), (1, .fieldref 235 236), (0, .class_ 237), (0, .nameAndType 238 239), (0, u "java/lang/Long$LongCache"), (0, u "cache"), (0, u "[Ljava/lang/Long;"), (0, .methodref 1 241), (0, .nameAndType 59 242), (0, u "(J)V"), (27, .methodref 271 58), (0, .class_ 272), (0, u "java/lang/Number"), (0, .fieldref 1 274), (0, .nameAndType 275 276), (0, u "value"), (0, u "J"), (84, u "TYPE"), (0, u "Ljava/lang/Class;"), (0, .class_ 364), (0, u "java/lang/Comparable"), (0, .class_ 366), (0, u "java/lang/constant/Constable"), (0, .class_ 368), (0, u "java/lang/constant/ConstantDesc"), (0, u "MIN_VALUE"), (1, u "MAX_VALUE"), (4, u "SIZE"), (0, u "I"), (1, u "BYTES"), (1, u "serialVersionUID")] 142

def k10c0 : Code := { maxStack := 4, maxLocals := 3, code := jdk_35_method_24_code, exceptionTable := #[], attributes := #[] }
def k10m0 : Method := { name := "valueOf", desc := "(J)Ljava/lang/Long;", sig := { parameters := [.long], returnType := some (.object "java/lang/Long") }, accessFlags := 9, code := some k10c0 }
def k10c1 : Code := { maxStack := 3, maxLocals := 3, code := jdk_35_method_26_code, exceptionTable := #[], attributes := #[] }
def k10m1 : Method := { name := "<init>", desc := "(J)V", sig := { parameters := [.long], returnType := none }, accessFlags := 1, code := some k10c1 }
/-- java/lang/Long -/
def k10 : Class := { plain "java/lang/Long" (some 6) with
  accessFlags := 49
  interfaces := #[7, 8, 9]
  cf := some (fileOf pool10 1 #[.nestMembers #[235]] #[{ accessFlags := 9, nameIndex := 85, descriptorIndex := 229, attributes := #[] }, { accessFlags := 1, nameIndex := 59, descriptorIndex := 242, attributes := #[] }] 49 271 #[363, 365, 367] #[{ accessFlags := 25, nameIndex := 369, descriptorIndex := 276, attributes := #[] }, { accessFlags := 25, nameIndex := 371, descriptorIndex := 276, attributes := #[] }, { accessFlags := 25, nameIndex := 361, descriptorIndex := 362, attributes := #[] }, { accessFlags := 18, nameIndex := 275, descriptorIndex := 276, attributes := #[] }, { accessFlags := 25, nameIndex := 376, descriptorIndex := 377, attributes := #[] }, { accessFlags := 25, nameIndex := 379, descriptorIndex := 377, attributes := #[] }, { accessFlags := 26, nameIndex := 381, descriptorIndex := 276, attributes := #[] }])
  fields := #[{ name := "MIN_VALUE", type := .long, accessFlags := 25, slot := 0, constantValue := 0 }, { name := "MAX_VALUE", type := .long, accessFlags := 25, slot := 1, constantValue := 0 }, { name := "TYPE", type := (.object "java/lang/Class"), accessFlags := 25, slot := 2, constantValue := 0 }, { name := "value", type := .long, accessFlags := 18, slot := 0, constantValue := 0 }, { name := "SIZE", type := .int, accessFlags := 25, slot := 3, constantValue := 0 }, { name := "BYTES", type := .int, accessFlags := 25, slot := 4, constantValue := 0 }, { name := "serialVersionUID", type := .long, accessFlags := 26, slot := 5, constantValue := 0 }]
  methods := #[k10m0, k10m1]
  instanceTypes := #[.long]
  staticTypes := #[.long, .long, (.object "java/lang/Class"), .int, .int, .long]
  resolved := Array.replicate 524 none
  statics := none }

def pool11 : Array CpInfo := pool [(2, .class_ 4), (1, u "java/lang/Enum"), (0, u "name"), (0, u "Ljava/lang/String;"), (2, u "ordinal"), (0, u "I"), (1, .class_ 14), (1, u "java/lang/Object"), (4, u "hash"), (86, .class_ 108), (1, u "java/lang/Enum$EnumDesc"), (2, .class_ 112), (0, u "java/lang/constant/Constable"), (0, .class_ 114), (0, u "java/lang/Comparable"), (0, .class_ 116), (0, u "java/io/Serializable")] 87

/-- java/lang/Enum -/
def k11 : Class := { plain "java/lang/Enum" (some 0) with
  accessFlags := 1057
  interfaces := #[8, 7, 5]
  cf := some (fileOf pool11 2 #[.nestMembers #[106]] #[] 1057 12 #[111, 113, 115] #[{ accessFlags := 18, nameIndex := 5, descriptorIndex := 6, attributes := #[] }, { accessFlags := 18, nameIndex := 9, descriptorIndex := 10, attributes := #[] }, { accessFlags := 2, nameIndex := 19, descriptorIndex := 10, attributes := #[] }])
  fields := #[{ name := "name", type := (.object "java/lang/String"), accessFlags := 18, slot := 0, constantValue := 0 }, { name := "ordinal", type := .int, accessFlags := 18, slot := 1, constantValue := 0 }, { name := "hash", type := .int, accessFlags := 2, slot := 2, constantValue := 0 }]
  methods := #[]
  instanceTypes := #[(.object "java/lang/String"), .int, .int]
  staticTypes := #[]
  resolved := Array.replicate 204 none
  statics := none }

def pool12 : Array CpInfo := pool [(1, .class_ 2), (0, u "com/example/volens/volens/core/term/Nil"), (2, u "INSTANCE"), (0, u "Lcom/example/volens/volens/core/term/Nil;"), (2, u "$VALUES"), (0, u "[Lcom/example/volens/volens/core/term/Nil;"), (6, .class_ 19), (1, u "java/lang/Enum"), (12, .class_ 33), (0, u "com/example/volens/volens/core/term/Term")] 11

/-- com/example/volens/volens/core/term/Nil -/
def k12 : Class := { plain "com/example/volens/volens/core/term/Nil" (some 11) with
  accessFlags := 16433
  interfaces := #[3]
  cf := some (fileOf pool12 1 #[] #[] 16433 17 #[32] #[{ accessFlags := 16409, nameIndex := 5, descriptorIndex := 6, attributes := #[] }, { accessFlags := 4122, nameIndex := 9, descriptorIndex := 10, attributes := #[] }])
  fields := #[{ name := "INSTANCE", type := (.object "com/example/volens/volens/core/term/Nil"), accessFlags := 16409, slot := 0, constantValue := 0 }, { name := "$VALUES", type := (.array (.object "com/example/volens/volens/core/term/Nil")), accessFlags := 4122, slot := 1, constantValue := 0 }]
  methods := #[]
  instanceTypes := #[(.object "java/lang/String"), .int, .int]
  staticTypes := #[(.object "com/example/volens/volens/core/term/Nil"), (.array (.object "com/example/volens/volens/core/term/Nil"))]
  resolved := Array.replicate 45 none
  statics := some 0 }

def pool13 : Array CpInfo := pool [(2, .class_ 4), (1, u "java/lang/Object"), (0, u "<init>"), (0, u "()V"), (0, .class_ 8), (0, u "java/lang/Long"), (7, .class_ 18), (1, u "java/lang/Long$LongCache"), (0, u "$assertionsDisabled"), (0, u "Z"), (8, u "archivedCache"), (0, u "[Ljava/lang/Long;"), (7, u "cache")] 24

def k13m0 : Method := { name := "<init>", desc := "()V", sig := { parameters := [], returnType := none }, accessFlags := 2, code := none }
/-- java/lang/Long$LongCache -/
def k13 : Class := { plain "java/lang/Long$LongCache" (some 0) with
  accessFlags := 48
  interfaces := #[]
  cf := some (fileOf pool13 16 #[.nestHost 7] #[{ accessFlags := 2, nameIndex := 5, descriptorIndex := 6, attributes := #[] }] 48 2 #[] #[{ accessFlags := 24, nameIndex := 38, descriptorIndex := 30, attributes := #[] }, { accessFlags := 8, nameIndex := 29, descriptorIndex := 30, attributes := #[] }, { accessFlags := 4120, nameIndex := 19, descriptorIndex := 20, attributes := #[] }])
  fields := #[{ name := "cache", type := (.array (.object "java/lang/Long")), accessFlags := 24, slot := 0, constantValue := 0 }, { name := "archivedCache", type := (.array (.object "java/lang/Long")), accessFlags := 8, slot := 1, constantValue := 0 }, { name := "$assertionsDisabled", type := .boolean, accessFlags := 4120, slot := 2, constantValue := 0 }]
  methods := #[k13m0]
  instanceTypes := #[]
  staticTypes := #[(.array (.object "java/lang/Long")), (.array (.object "java/lang/Long")), .boolean]
  resolved := Array.replicate 63 none
  statics := some 1 }

def pool14 : Array CpInfo := pool [(1, u "java/lang/Cloneable"), (0, .class_ 1), (0, u "java/lang/Object"), (0, .class_ 3)] 3

/-- java/lang/Cloneable -/
def k14 : Class := { plain "java/lang/Cloneable" (some 0) with
  accessFlags := 1537
  interfaces := #[]
  cf := some (fileOf pool14 2 #[] #[] 1537 4 #[] #[])
  fields := #[]
  methods := #[]
  instanceTypes := #[]
  staticTypes := #[]
  resolved := Array.replicate 8 none
  statics := none }

/-- the primitive byte -/
def k15 : Class := { plain "byte" none with kind := .primitive 'B', accessFlags := 0x411 }
/-- [B -/
def k16 : Class := { plain "[B" (some 0) with kind := .array 15 .byte, interfaces := #[14, 5], accessFlags := 1041 }

/-- the primitive int -/
def k17 : Class := { plain "int" none with kind := .primitive 'I', accessFlags := 0x411 }
/-- [I -/
def k18 : Class := { plain "[I" (some 0) with kind := .array 17 .int, interfaces := #[14, 5], accessFlags := 1041 }

/-- [Ljava/lang/Long; -/
def k19 : Class := { plain "[Ljava/lang/Long;" (some 0) with kind := .array 10 (.object "java/lang/Long"), interfaces := #[14, 5], accessFlags := 1041 }

def heap : Heap := #[{ cls := 12, slots := #[.ref 259, .null], vm := .statics 12 },
  { cls := 13, slots := #[.ref 2, .null, .int 0], vm := .statics 13 },
  { cls := 19, slots := #[.ref 3, .ref 4, .ref 5, .ref 6, .ref 7, .ref 8, .ref 9, .ref 10, .ref 11, .ref 12, .ref 13, .ref 14, .ref 15, .ref 16, .ref 17, .ref 18, .ref 19, .ref 20, .ref 21, .ref 22, .ref 23, .ref 24, .ref 25, .ref 26, .ref 27, .ref 28, .ref 29, .ref 30, .ref 31, .ref 32, .ref 33, .ref 34, .ref 35, .ref 36, .ref 37, .ref 38, .ref 39, .ref 40, .ref 41, .ref 42, .ref 43, .ref 44, .ref 45, .ref 46, .ref 47, .ref 48, .ref 49, .ref 50, .ref 51, .ref 52, .ref 53, .ref 54, .ref 55, .ref 56, .ref 57, .ref 58, .ref 59, .ref 60, .ref 61, .ref 62, .ref 63, .ref 64, .ref 65, .ref 66, .ref 67, .ref 68, .ref 69, .ref 70, .ref 71, .ref 72, .ref 73, .ref 74, .ref 75, .ref 76, .ref 77, .ref 78, .ref 79, .ref 80, .ref 81, .ref 82, .ref 83, .ref 84, .ref 85, .ref 86, .ref 87, .ref 88, .ref 89, .ref 90, .ref 91, .ref 92, .ref 93, .ref 94, .ref 95, .ref 96, .ref 97, .ref 98, .ref 99, .ref 100, .ref 101, .ref 102, .ref 103, .ref 104, .ref 105, .ref 106, .ref 107, .ref 108, .ref 109, .ref 110, .ref 111, .ref 112, .ref 113, .ref 114, .ref 115, .ref 116, .ref 117, .ref 118, .ref 119, .ref 120, .ref 121, .ref 122, .ref 123, .ref 124, .ref 125, .ref 126, .ref 127, .ref 128, .ref 129, .ref 130, .ref 131, .ref 132, .ref 133, .ref 134, .ref 135, .ref 136, .ref 137, .ref 138, .ref 139, .ref 140, .ref 141, .ref 142, .ref 143, .ref 144, .ref 145, .ref 146, .ref 147, .ref 148, .ref 149, .ref 150, .ref 151, .ref 152, .ref 153, .ref 154, .ref 155, .ref 156, .ref 157, .ref 158, .ref 159, .ref 160, .ref 161, .ref 162, .ref 163, .ref 164, .ref 165, .ref 166, .ref 167, .ref 168, .ref 169, .ref 170, .ref 171, .ref 172, .ref 173, .ref 174, .ref 175, .ref 176, .ref 177, .ref 178, .ref 179, .ref 180, .ref 181, .ref 182, .ref 183, .ref 184, .ref 185, .ref 186, .ref 187, .ref 188, .ref 189, .ref 190, .ref 191, .ref 192, .ref 193, .ref 194, .ref 195, .ref 196, .ref 197, .ref 198, .ref 199, .ref 200, .ref 201, .ref 202, .ref 203, .ref 204, .ref 205, .ref 206, .ref 207, .ref 208, .ref 209, .ref 210, .ref 211, .ref 212, .ref 213, .ref 214, .ref 215, .ref 216, .ref 217, .ref 218, .ref 219, .ref 220, .ref 221, .ref 222, .ref 223, .ref 224, .ref 225, .ref 226, .ref 227, .ref 228, .ref 229, .ref 230, .ref 231, .ref 232, .ref 233, .ref 234, .ref 235, .ref 236, .ref 237, .ref 238, .ref 239, .ref 240, .ref 241, .ref 242, .ref 243, .ref 244, .ref 245, .ref 246, .ref 247, .ref 248, .ref 249, .ref 250, .ref 251, .ref 252, .ref 253, .ref 254, .ref 255, .ref 256, .ref 257, .ref 258], vm := .none },
  { cls := 10, slots := #[.long (-128)], vm := .none },
  { cls := 10, slots := #[.long (-127)], vm := .none },
  { cls := 10, slots := #[.long (-126)], vm := .none },
  { cls := 10, slots := #[.long (-125)], vm := .none },
  { cls := 10, slots := #[.long (-124)], vm := .none },
  { cls := 10, slots := #[.long (-123)], vm := .none },
  { cls := 10, slots := #[.long (-122)], vm := .none },
  { cls := 10, slots := #[.long (-121)], vm := .none },
  { cls := 10, slots := #[.long (-120)], vm := .none },
  { cls := 10, slots := #[.long (-119)], vm := .none },
  { cls := 10, slots := #[.long (-118)], vm := .none },
  { cls := 10, slots := #[.long (-117)], vm := .none },
  { cls := 10, slots := #[.long (-116)], vm := .none },
  { cls := 10, slots := #[.long (-115)], vm := .none },
  { cls := 10, slots := #[.long (-114)], vm := .none },
  { cls := 10, slots := #[.long (-113)], vm := .none },
  { cls := 10, slots := #[.long (-112)], vm := .none },
  { cls := 10, slots := #[.long (-111)], vm := .none },
  { cls := 10, slots := #[.long (-110)], vm := .none },
  { cls := 10, slots := #[.long (-109)], vm := .none },
  { cls := 10, slots := #[.long (-108)], vm := .none },
  { cls := 10, slots := #[.long (-107)], vm := .none },
  { cls := 10, slots := #[.long (-106)], vm := .none },
  { cls := 10, slots := #[.long (-105)], vm := .none },
  { cls := 10, slots := #[.long (-104)], vm := .none },
  { cls := 10, slots := #[.long (-103)], vm := .none },
  { cls := 10, slots := #[.long (-102)], vm := .none },
  { cls := 10, slots := #[.long (-101)], vm := .none },
  { cls := 10, slots := #[.long (-100)], vm := .none },
  { cls := 10, slots := #[.long (-99)], vm := .none },
  { cls := 10, slots := #[.long (-98)], vm := .none },
  { cls := 10, slots := #[.long (-97)], vm := .none },
  { cls := 10, slots := #[.long (-96)], vm := .none },
  { cls := 10, slots := #[.long (-95)], vm := .none },
  { cls := 10, slots := #[.long (-94)], vm := .none },
  { cls := 10, slots := #[.long (-93)], vm := .none },
  { cls := 10, slots := #[.long (-92)], vm := .none },
  { cls := 10, slots := #[.long (-91)], vm := .none },
  { cls := 10, slots := #[.long (-90)], vm := .none },
  { cls := 10, slots := #[.long (-89)], vm := .none },
  { cls := 10, slots := #[.long (-88)], vm := .none },
  { cls := 10, slots := #[.long (-87)], vm := .none },
  { cls := 10, slots := #[.long (-86)], vm := .none },
  { cls := 10, slots := #[.long (-85)], vm := .none },
  { cls := 10, slots := #[.long (-84)], vm := .none },
  { cls := 10, slots := #[.long (-83)], vm := .none },
  { cls := 10, slots := #[.long (-82)], vm := .none },
  { cls := 10, slots := #[.long (-81)], vm := .none },
  { cls := 10, slots := #[.long (-80)], vm := .none },
  { cls := 10, slots := #[.long (-79)], vm := .none },
  { cls := 10, slots := #[.long (-78)], vm := .none },
  { cls := 10, slots := #[.long (-77)], vm := .none },
  { cls := 10, slots := #[.long (-76)], vm := .none },
  { cls := 10, slots := #[.long (-75)], vm := .none },
  { cls := 10, slots := #[.long (-74)], vm := .none },
  { cls := 10, slots := #[.long (-73)], vm := .none },
  { cls := 10, slots := #[.long (-72)], vm := .none },
  { cls := 10, slots := #[.long (-71)], vm := .none },
  { cls := 10, slots := #[.long (-70)], vm := .none },
  { cls := 10, slots := #[.long (-69)], vm := .none },
  { cls := 10, slots := #[.long (-68)], vm := .none },
  { cls := 10, slots := #[.long (-67)], vm := .none },
  { cls := 10, slots := #[.long (-66)], vm := .none },
  { cls := 10, slots := #[.long (-65)], vm := .none },
  { cls := 10, slots := #[.long (-64)], vm := .none },
  { cls := 10, slots := #[.long (-63)], vm := .none },
  { cls := 10, slots := #[.long (-62)], vm := .none },
  { cls := 10, slots := #[.long (-61)], vm := .none },
  { cls := 10, slots := #[.long (-60)], vm := .none },
  { cls := 10, slots := #[.long (-59)], vm := .none },
  { cls := 10, slots := #[.long (-58)], vm := .none },
  { cls := 10, slots := #[.long (-57)], vm := .none },
  { cls := 10, slots := #[.long (-56)], vm := .none },
  { cls := 10, slots := #[.long (-55)], vm := .none },
  { cls := 10, slots := #[.long (-54)], vm := .none },
  { cls := 10, slots := #[.long (-53)], vm := .none },
  { cls := 10, slots := #[.long (-52)], vm := .none },
  { cls := 10, slots := #[.long (-51)], vm := .none },
  { cls := 10, slots := #[.long (-50)], vm := .none },
  { cls := 10, slots := #[.long (-49)], vm := .none },
  { cls := 10, slots := #[.long (-48)], vm := .none },
  { cls := 10, slots := #[.long (-47)], vm := .none },
  { cls := 10, slots := #[.long (-46)], vm := .none },
  { cls := 10, slots := #[.long (-45)], vm := .none },
  { cls := 10, slots := #[.long (-44)], vm := .none },
  { cls := 10, slots := #[.long (-43)], vm := .none },
  { cls := 10, slots := #[.long (-42)], vm := .none },
  { cls := 10, slots := #[.long (-41)], vm := .none },
  { cls := 10, slots := #[.long (-40)], vm := .none },
  { cls := 10, slots := #[.long (-39)], vm := .none },
  { cls := 10, slots := #[.long (-38)], vm := .none },
  { cls := 10, slots := #[.long (-37)], vm := .none },
  { cls := 10, slots := #[.long (-36)], vm := .none },
  { cls := 10, slots := #[.long (-35)], vm := .none },
  { cls := 10, slots := #[.long (-34)], vm := .none },
  { cls := 10, slots := #[.long (-33)], vm := .none },
  { cls := 10, slots := #[.long (-32)], vm := .none },
  { cls := 10, slots := #[.long (-31)], vm := .none },
  { cls := 10, slots := #[.long (-30)], vm := .none },
  { cls := 10, slots := #[.long (-29)], vm := .none },
  { cls := 10, slots := #[.long (-28)], vm := .none },
  { cls := 10, slots := #[.long (-27)], vm := .none },
  { cls := 10, slots := #[.long (-26)], vm := .none },
  { cls := 10, slots := #[.long (-25)], vm := .none },
  { cls := 10, slots := #[.long (-24)], vm := .none },
  { cls := 10, slots := #[.long (-23)], vm := .none },
  { cls := 10, slots := #[.long (-22)], vm := .none },
  { cls := 10, slots := #[.long (-21)], vm := .none },
  { cls := 10, slots := #[.long (-20)], vm := .none },
  { cls := 10, slots := #[.long (-19)], vm := .none },
  { cls := 10, slots := #[.long (-18)], vm := .none },
  { cls := 10, slots := #[.long (-17)], vm := .none },
  { cls := 10, slots := #[.long (-16)], vm := .none },
  { cls := 10, slots := #[.long (-15)], vm := .none },
  { cls := 10, slots := #[.long (-14)], vm := .none },
  { cls := 10, slots := #[.long (-13)], vm := .none },
  { cls := 10, slots := #[.long (-12)], vm := .none },
  { cls := 10, slots := #[.long (-11)], vm := .none },
  { cls := 10, slots := #[.long (-10)], vm := .none },
  { cls := 10, slots := #[.long (-9)], vm := .none },
  { cls := 10, slots := #[.long (-8)], vm := .none },
  { cls := 10, slots := #[.long (-7)], vm := .none },
  { cls := 10, slots := #[.long (-6)], vm := .none },
  { cls := 10, slots := #[.long (-5)], vm := .none },
  { cls := 10, slots := #[.long (-4)], vm := .none },
  { cls := 10, slots := #[.long (-3)], vm := .none },
  { cls := 10, slots := #[.long (-2)], vm := .none },
  { cls := 10, slots := #[.long (-1)], vm := .none },
  { cls := 10, slots := #[.long 0], vm := .none },
  { cls := 10, slots := #[.long 1], vm := .none },
  { cls := 10, slots := #[.long 2], vm := .none },
  { cls := 10, slots := #[.long 3], vm := .none },
  { cls := 10, slots := #[.long 4], vm := .none },
  { cls := 10, slots := #[.long 5], vm := .none },
  { cls := 10, slots := #[.long 6], vm := .none },
  { cls := 10, slots := #[.long 7], vm := .none },
  { cls := 10, slots := #[.long 8], vm := .none },
  { cls := 10, slots := #[.long 9], vm := .none },
  { cls := 10, slots := #[.long 10], vm := .none },
  { cls := 10, slots := #[.long 11], vm := .none },
  { cls := 10, slots := #[.long 12], vm := .none },
  { cls := 10, slots := #[.long 13], vm := .none },
  { cls := 10, slots := #[.long 14], vm := .none },
  { cls := 10, slots := #[.long 15], vm := .none },
  { cls := 10, slots := #[.long 16], vm := .none },
  { cls := 10, slots := #[.long 17], vm := .none },
  { cls := 10, slots := #[.long 18], vm := .none },
  { cls := 10, slots := #[.long 19], vm := .none },
  { cls := 10, slots := #[.long 20], vm := .none },
  { cls := 10, slots := #[.long 21], vm := .none },
  { cls := 10, slots := #[.long 22], vm := .none },
  { cls := 10, slots := #[.long 23], vm := .none },
  { cls := 10, slots := #[.long 24], vm := .none },
  { cls := 10, slots := #[.long 25], vm := .none },
  { cls := 10, slots := #[.long 26], vm := .none },
  { cls := 10, slots := #[.long 27], vm := .none },
  { cls := 10, slots := #[.long 28], vm := .none },
  { cls := 10, slots := #[.long 29], vm := .none },
  { cls := 10, slots := #[.long 30], vm := .none },
  { cls := 10, slots := #[.long 31], vm := .none },
  { cls := 10, slots := #[.long 32], vm := .none },
  { cls := 10, slots := #[.long 33], vm := .none },
  { cls := 10, slots := #[.long 34], vm := .none },
  { cls := 10, slots := #[.long 35], vm := .none },
  { cls := 10, slots := #[.long 36], vm := .none },
  { cls := 10, slots := #[.long 37], vm := .none },
  { cls := 10, slots := #[.long 38], vm := .none },
  { cls := 10, slots := #[.long 39], vm := .none },
  { cls := 10, slots := #[.long 40], vm := .none },
  { cls := 10, slots := #[.long 41], vm := .none },
  { cls := 10, slots := #[.long 42], vm := .none },
  { cls := 10, slots := #[.long 43], vm := .none },
  { cls := 10, slots := #[.long 44], vm := .none },
  { cls := 10, slots := #[.long 45], vm := .none },
  { cls := 10, slots := #[.long 46], vm := .none },
  { cls := 10, slots := #[.long 47], vm := .none },
  { cls := 10, slots := #[.long 48], vm := .none },
  { cls := 10, slots := #[.long 49], vm := .none },
  { cls := 10, slots := #[.long 50], vm := .none },
  { cls := 10, slots := #[.long 51], vm := .none },
  { cls := 10, slots := #[.long 52], vm := .none },
  { cls := 10, slots := #[.long 53], vm := .none },
  { cls := 10, slots := #[.long 54], vm := .none },
  { cls := 10, slots := #[.long 55], vm := .none },
  { cls := 10, slots := #[.long 56], vm := .none },
  { cls := 10, slots := #[.long 57], vm := .none },
  { cls := 10, slots := #[.long 58], vm := .none },
  { cls := 10, slots := #[.long 59], vm := .none },
  { cls := 10, slots := #[.long 60], vm := .none },
  { cls := 10, slots := #[.long 61], vm := .none },
  { cls := 10, slots := #[.long 62], vm := .none },
  { cls := 10, slots := #[.long 63], vm := .none },
  { cls := 10, slots := #[.long 64], vm := .none },
  { cls := 10, slots := #[.long 65], vm := .none },
  { cls := 10, slots := #[.long 66], vm := .none },
  { cls := 10, slots := #[.long 67], vm := .none },
  { cls := 10, slots := #[.long 68], vm := .none },
  { cls := 10, slots := #[.long 69], vm := .none },
  { cls := 10, slots := #[.long 70], vm := .none },
  { cls := 10, slots := #[.long 71], vm := .none },
  { cls := 10, slots := #[.long 72], vm := .none },
  { cls := 10, slots := #[.long 73], vm := .none },
  { cls := 10, slots := #[.long 74], vm := .none },
  { cls := 10, slots := #[.long 75], vm := .none },
  { cls := 10, slots := #[.long 76], vm := .none },
  { cls := 10, slots := #[.long 77], vm := .none },
  { cls := 10, slots := #[.long 78], vm := .none },
  { cls := 10, slots := #[.long 79], vm := .none },
  { cls := 10, slots := #[.long 80], vm := .none },
  { cls := 10, slots := #[.long 81], vm := .none },
  { cls := 10, slots := #[.long 82], vm := .none },
  { cls := 10, slots := #[.long 83], vm := .none },
  { cls := 10, slots := #[.long 84], vm := .none },
  { cls := 10, slots := #[.long 85], vm := .none },
  { cls := 10, slots := #[.long 86], vm := .none },
  { cls := 10, slots := #[.long 87], vm := .none },
  { cls := 10, slots := #[.long 88], vm := .none },
  { cls := 10, slots := #[.long 89], vm := .none },
  { cls := 10, slots := #[.long 90], vm := .none },
  { cls := 10, slots := #[.long 91], vm := .none },
  { cls := 10, slots := #[.long 92], vm := .none },
  { cls := 10, slots := #[.long 93], vm := .none },
  { cls := 10, slots := #[.long 94], vm := .none },
  { cls := 10, slots := #[.long 95], vm := .none },
  { cls := 10, slots := #[.long 96], vm := .none },
  { cls := 10, slots := #[.long 97], vm := .none },
  { cls := 10, slots := #[.long 98], vm := .none },
  { cls := 10, slots := #[.long 99], vm := .none },
  { cls := 10, slots := #[.long 100], vm := .none },
  { cls := 10, slots := #[.long 101], vm := .none },
  { cls := 10, slots := #[.long 102], vm := .none },
  { cls := 10, slots := #[.long 103], vm := .none },
  { cls := 10, slots := #[.long 104], vm := .none },
  { cls := 10, slots := #[.long 105], vm := .none },
  { cls := 10, slots := #[.long 106], vm := .none },
  { cls := 10, slots := #[.long 107], vm := .none },
  { cls := 10, slots := #[.long 108], vm := .none },
  { cls := 10, slots := #[.long 109], vm := .none },
  { cls := 10, slots := #[.long 110], vm := .none },
  { cls := 10, slots := #[.long 111], vm := .none },
  { cls := 10, slots := #[.long 112], vm := .none },
  { cls := 10, slots := #[.long 113], vm := .none },
  { cls := 10, slots := #[.long 114], vm := .none },
  { cls := 10, slots := #[.long 115], vm := .none },
  { cls := 10, slots := #[.long 116], vm := .none },
  { cls := 10, slots := #[.long 117], vm := .none },
  { cls := 10, slots := #[.long 118], vm := .none },
  { cls := 10, slots := #[.long 119], vm := .none },
  { cls := 10, slots := #[.long 120], vm := .none },
  { cls := 10, slots := #[.long 121], vm := .none },
  { cls := 10, slots := #[.long 122], vm := .none },
  { cls := 10, slots := #[.long 123], vm := .none },
  { cls := 10, slots := #[.long 124], vm := .none },
  { cls := 10, slots := #[.long 125], vm := .none },
  { cls := 10, slots := #[.long 126], vm := .none },
  { cls := 10, slots := #[.long 127], vm := .none },
  { cls := 12, slots := #[.null, .int 0, .int 0], vm := .none }]
def classes : Array Class := #[k0, k1, k2, k3, k4, k5, k6, k7, k8, k9, k10, k11, k12, k13, k14, k15, k16, k17, k18, k19]
def interned : List (Array UInt16 × Addr) := []
def slotsUsed : Nat := 520
def theMethod : MethodId := ⟨1, 1⟩
def args0 : Array Value := #[.long 5, .long 7, .int 2]
def aboutOver (below : List Frame) : State where
  vm := { classes := classes, interned := interned.toArray }
  heap := heap
  slotsUsed := slotsUsed
  threads := #[{ frames := .invoking theMethod args0 :: below }]
def below0 : List Frame := [.native { method := ⟨0, 0⟩, args := #[] }]
def about1 : State := aboutOver below0
def p0 : Program := .bare "" "" ""
def e0 : Env := launch0.env 0 0 0
theorem w_frames : about1.frames = Frame.invoking theMethod args0 :: below0 := rfl
set_option maxRecDepth 65536 in
theorem w_args : argsFit about1.vm theMethod args0 = true := by decide +kernel
set_option maxRecDepth 65536 in
theorem w_heap : heapFits about1 = true := by decide +kernel
set_option maxRecDepth 65536 in
theorem w_runnable : about1.curStatus? = some .runnable := by decide +kernel
set_option maxRecDepth 65536 in
theorem w_alone : about1.alone = true := by decide +kernel
set_option maxRecDepth 65536 in
theorem w_named : about1.methodNamed? x = some theMethod := by decide +kernel
set_option maxRecDepth 65536 in
theorem w_hears : about1.hears theMethod below0 = true := by decide +kernel
set_option maxRecDepth 65536 in
theorem w_ripe : about1.ripe theMethod args0 below0 = true := by decide +kernel
theorem w_running : about1.status = .running := rfl
set_option maxRecDepth 65536 in
theorem w_room : about1.hasRoom e0.platform room_1 = true :=
  launch0.hasRoom_least _ room_1 (by decide +kernel) (by decide +kernel) (by decide +kernel) (by decide +kernel) (by decide +kernel) (by decide +kernel)
theorem allAtoms_all (ts : List Jvm.Cond) (a : Array Jvm.Value) (st : Jvm.State) : (allAtoms ts).before a st = ts.all (fun c => c.before a st) := by
  induction ts with
  | nil => rfl
  | cons c t ih =>
    show (Jvm.Cond.and c (allAtoms t)).before a st = _
    rw [Jvm.Cond.before_and, ih, List.all_cons]
def words1 : List Jvm.Cond := Jvm.Cond.code x code maxLocals ret :: tables_1
/-- a 'code' word, met by the world's own term for the bytes: nothing is compared byte by byte -/
theorem code_word {y : MethodName} {bytes : ByteArray} {mx : Nat} {rt : Option FieldType} {a : Array Value} {s : State} {m : MethodId} {meth : Method} {c : Code} (h1 : s.methodNamed? y = some m) (h2 : s.vm.method? m = some meth) (h3 : meth.code = some c) (h4 : c.code = bytes)
    (h5 : (c.maxLocals == mx && c.exceptionTable.isEmpty && decide (c.maxStack ≤ mostOperands) && decide (meth.sig.returnType = rt) && !meth.locks && decide (parseMethodDescriptor y.desc = some meth.sig)) = true) : (Jvm.Cond.code y bytes mx rt).before a s = true := by
  simp only [Bool.and_eq_true, beq_iff_eq, Bool.not_eq_true', decide_eq_true_eq] at h5
  obtain ⟨⟨⟨⟨⟨g1, g2⟩, g3⟩, g4⟩, g5⟩, g6⟩ := h5
  simp [Cond.before, Cond.holds, Cond.value, h1, h2, h3, h4, g1, g2, g3, g4, g5, g6]
def isCode : Jvm.Cond → Bool
  | .code _ _ _ _ => true
  | _ => false
theorem all_split {L : List Jvm.Cond} {P : Jvm.Cond → Bool} (h1 : L.all (fun c => isCode c || P c) = true) (h2 : ∀ c ∈ L.filter isCode, P c = true) : L.all P = true := by
  refine List.all_eq_true.mpr fun c hc => ?_
  have h := List.all_eq_true.mp h1 c hc
  rcases Bool.eq_false_or_eq_true (isCode c) with hi | hi
  · exact h2 c (List.mem_filter.mpr ⟨hc, hi⟩)
  · simpa [hi] using h
set_option maxRecDepth 65536 in
theorem w_c0 : (Jvm.Cond.code x code maxLocals ret).before args0 about1 = true := code_word (m := ⟨1, 1⟩) (meth := k1m1) (c := k1c1) (by decide +kernel) rfl rfl rfl (by decide +kernel)
set_option maxRecDepth 65536 in
theorem w_c1 : (Jvm.Cond.code ({ cls := "com/example/volens/volens/core/term/Int", name := "<init>", desc := "(J)V" } : Jvm.MethodName) prog_79_method_1_code (3 : Nat) (Option.none : Option Jvm.ClassFile.FieldType)).before args0 about1 = true := code_word (m := ⟨4, 0⟩) (meth := k4m0) (c := k4c0) (by decide +kernel) rfl rfl rfl (by decide +kernel)
set_option maxRecDepth 65536 in
theorem w_c2 : (Jvm.Cond.code ({ cls := "java/lang/Record", name := "<init>", desc := "()V" } : Jvm.MethodName) jdk_30_method_1_code (1 : Nat) (Option.none : Option Jvm.ClassFile.FieldType)).before args0 about1 = true := code_word (m := ⟨2, 0⟩) (meth := k2m0) (c := k2c0) (by decide +kernel) rfl rfl rfl (by decide +kernel)
set_option maxRecDepth 65536 in
theorem w_c3 : (Jvm.Cond.code ({ cls := "java/lang/Object", name := "<init>", desc := "()V" } : Jvm.MethodName) object_method_1_code (1 : Nat) (Option.none : Option Jvm.ClassFile.FieldType)).before args0 about1 = true := code_word (m := ⟨0, 0⟩) (meth := k0m0) (c := k0c0) (by decide +kernel) rfl rfl rfl (by decide +kernel)
set_option maxRecDepth 65536 in
theorem w_c4 : (Jvm.Cond.code ({ cls := "com/example/volens/volens/core/term/Int", name := "equals", desc := "(Ljava/lang/Object;)Z" } : Jvm.MethodName) prog_79_method_2_code (3 : Nat) (Option.some Jvm.ClassFile.FieldType.boolean)).before args0 about1 = true := code_word (m := ⟨4, 1⟩) (meth := k4m1) (c := k4c1) (by decide +kernel) rfl rfl rfl (by decide +kernel)
set_option maxRecDepth 65536 in
theorem w_c5 : (Jvm.Cond.code ({ cls := "java/lang/Long", name := "valueOf", desc := "(J)Ljava/lang/Long;" } : Jvm.MethodName) jdk_35_method_24_code (3 : Nat) (Option.some (Jvm.ClassFile.FieldType.object "java/lang/Long"))).before args0 about1 = true := code_word (m := ⟨10, 0⟩) (meth := k10m0) (c := k10c0) (by decide +kernel) rfl rfl rfl (by decide +kernel)
set_option maxRecDepth 65536 in
theorem w_c6 : (Jvm.Cond.code ({ cls := "java/lang/Long", name := "<init>", desc := "(J)V" } : Jvm.MethodName) jdk_35_method_26_code (3 : Nat) (Option.none : Option Jvm.ClassFile.FieldType)).before args0 about1 = true := code_word (m := ⟨10, 1⟩) (meth := k10m1) (c := k10c1) (by decide +kernel) rfl rfl rfl (by decide +kernel)
set_option maxRecDepth 65536 in
theorem w_c7 : (Jvm.Cond.code ({ cls := "java/lang/Number", name := "<init>", desc := "()V" } : Jvm.MethodName) jdk_18_method_1_code (1 : Nat) (Option.none : Option Jvm.ClassFile.FieldType)).before args0 about1 = true := code_word (m := ⟨6, 0⟩) (meth := k6m0) (c := k6c0) (by decide +kernel) rfl rfl rfl (by decide +kernel)
def codes1 : List Jvm.Cond := [Jvm.Cond.code x code maxLocals ret, Jvm.Cond.code ({ cls := "com/example/volens/volens/core/term/Int", name := "<init>", desc := "(J)V" } : Jvm.MethodName) prog_79_method_1_code (3 : Nat) (Option.none : Option Jvm.ClassFile.FieldType), Jvm.Cond.code ({ cls := "java/lang/Record", name := "<init>", desc := "()V" } : Jvm.MethodName) jdk_30_method_1_code (1 : Nat) (Option.none : Option Jvm.ClassFile.FieldType), Jvm.Cond.code ({ cls := "java/lang/Object", name := "<init>", desc := "()V" } : Jvm.MethodName) object_method_1_code (1 : Nat) (Option.none : Option Jvm.ClassFile.FieldType), Jvm.Cond.code ({ cls := "com/example/volens/volens/core/term/Int", name := "equals", desc := "(Ljava/lang/Object;)Z" } : Jvm.MethodName) prog_79_method_2_code (3 : Nat) (Option.some Jvm.ClassFile.FieldType.boolean), Jvm.Cond.code ({ cls := "java/lang/Long", name := "valueOf", desc := "(J)Ljava/lang/Long;" } : Jvm.MethodName) jdk_35_method_24_code (3 : Nat) (Option.some (Jvm.ClassFile.FieldType.object "java/lang/Long")), Jvm.Cond.code ({ cls := "java/lang/Long", name := "<init>", desc := "(J)V" } : Jvm.MethodName) jdk_35_method_26_code (3 : Nat) (Option.none : Option Jvm.ClassFile.FieldType), Jvm.Cond.code ({ cls := "java/lang/Number", name := "<init>", desc := "()V" } : Jvm.MethodName) jdk_18_method_1_code (1 : Nat) (Option.none : Option Jvm.ClassFile.FieldType)]
set_option maxRecDepth 65536 in
theorem codes_eq : words1.filter isCode = codes1 := rfl
theorem w_codes : ∀ c ∈ words1.filter isCode, c.before args0 about1 = true := by
  rw [codes_eq]
  intro c hc
  simp only [codes1, List.mem_cons, List.not_mem_nil, or_false] at hc
  rcases hc with rfl | rfl | rfl | rfl | rfl | rfl | rfl | rfl
  · exact w_c0
  · exact w_c1
  · exact w_c2
  · exact w_c3
  · exact w_c4
  · exact w_c5
  · exact w_c6
  · exact w_c7
set_option maxRecDepth 65536 in
theorem w_t1 : (words1.take 24).all (fun c => isCode c || c.before args0 about1) = true := by decide +kernel
set_option maxRecDepth 65536 in
theorem w_t2 : ((words1.drop 24).take 24).all (fun c => isCode c || c.before args0 about1) = true := by decide +kernel
set_option maxRecDepth 65536 in
theorem w_t3 : ((words1.drop 24).drop 24).all (fun c => isCode c || c.before args0 about1) = true := by decide +kernel
theorem w_tables : (allAtoms (Jvm.Cond.code x code maxLocals ret :: tables_1)).before args0 about1 = true := by
  rw [allAtoms_all]
  show words1.all (fun c => c.before args0 about1) = true
  refine all_split ?_ w_codes
  rw [← List.take_append_drop 24 words1, List.all_append, w_t1, ← List.take_append_drop 24 (words1.drop 24), List.all_append, w_t2, w_t3]
  rfl
set_option maxRecDepth 65536 in
theorem w_rest : rest_1_c.before args0 about1 = true := by decide +kernel
set_option maxRecDepth 65536 in
theorem w_case : (Jvm.Cond.and given_1 narrow_1).before args0 about1 = true := by decide +kernel
theorem w_applies : (headSpec (Jvm.Cond.code x code maxLocals ret :: tables_1) room_1).applies x e0.platform about1 = true :=
  (Spec.applies_iff w_frames).mpr ⟨w_running, w_runnable, w_alone, w_named, w_hears, w_ripe, w_room, w_tables⟩
theorem atStart : AtStart classFile x code maxLocals ret World_1 tables_1 room_1 Calls_1 rest_1 Pre_1 launch0 p0 e0 about1 theMethod args0 below0 :=
  ⟨lists_1, trivial, launch0.admits_env _ _ _, launch0.least_env, fairChoices_fair.cas, fairChoices_fair.clock, w_frames, w_args, w_heap, w_applies, trivial, w_rest, w_case⟩
end start1
theorem witness_1 : WitnessClaimed_1 := ⟨start1.p0, start1.e0, start1.about1, start1.theMethod, start1.args0, start1.below0, start1.atStart⟩
end Jvm.Pilot.@@N@@
