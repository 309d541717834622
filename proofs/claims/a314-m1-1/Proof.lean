import JvmDerived
import JvmDerived.Pilot.@@N@@Statement
import JvmDerived.Pilot.@@N@@Code
set_option linter.unusedVariables false
set_option linter.unusedSimpArgs false
namespace Jvm.Pilot.@@N@@
open Jvm Jvm.ClassFile Sem Op Lib Jvm.Free Jvm.Stand Jvm.LawKit Jvm.RoadKit Bundle Jvm.Pilot.@@N@@.Jvm.D
section Own
variable {p : Program} {l : Launch} {e : Env} {R : Room} {s : State} {m : MethodId} {args : Array Value} {below : List Frame} {meth : Method} {c : Code} {T : State} {locs : List Loc} {cells slots : Nat} {Z : State} {a0 : Array Value} {h : Heap}
/-- the run from A ends by returning, Q holds of what it returned and of the heap, and no more than k cells and n slots are new -/
def OwnEnd (p : Program) (e : Env) (below : List Frame) (s : State) (Q : Option Value → Heap → List Loc → Prop) (k n : Nat) (A : State) : Prop :=
  ∃ t o, Steps p.tables e below A t ∧ t.status = .running ∧ Ended t below o ∧ ∃ v L, o = .returned v ∧ Q v t.heap L ∧ FrameEnd s o t L k n
theorem OwnEnd.go {Q : Option Value → Heap → List Loc → Prop} {k n : Nat} {A B : State} (st : ∀ t, Steps p.tables e below B t → Steps p.tables e below A t) (K : OwnEnd p e below s Q k n B) : OwnEnd p e below s Q k n A := by
  obtain ⟨t, o, h1, h2⟩ := K
  exact ⟨t, o, st t h1, h2⟩
theorem OwnEnd.stop {Q : Option Value → Heap → List Loc → Prop} {k n : Nat} {A : State} (X : Stand p l e R s m args below meth c T locs cells slots) (hlk : meth.locks = false) {v : Option Value} (hv : meth.sig.returnType = none → v = none)
    (st : ∀ fs, (∀ (f : JFrame) (acts : List Action), f.method = m → f.locked = none → f.entered = [] → (doReturn e (T.setTop f) acts v).1 = T.setFrames fs) → Steps p.tables e below A (T.setFrames fs))
    (hk : cells ≤ k) (hn : slots ≤ n) (hQ : Q v T.heap locs) : OwnEnd p e below s Q k n A := by
  obtain ⟨fs, hr, hrun, hended, hW, hsame⟩ := X.leave hv hlk
  exact ⟨_, _, st fs hr, hrun, hended, _, _, rfl, hQ, ⟨_, rfl⟩, hW, hsame.mono hk hn⟩
theorem OwnEnd.weak {Q Q' : Option Value → Heap → List Loc → Prop} {k n : Nat} {A : State} (K : OwnEnd p e below s Q k n A) (q : ∀ v h L, Q v h L → Q' v h L) : OwnEnd p e below s Q' k n A := by
  obtain ⟨t, o, h1, h2, h3, v, L, h4, h5, h6⟩ := K
  exact ⟨t, o, h1, h2, h3, v, L, h4, q _ _ _ h5, h6⟩
/-- the returns -/
theorem ownRetI {Q : Option Value → Heap → List Loc → Prop} {k n : Nat} (X : Stand p l e R s m args below meth c T locs cells slots) (hx : p.tables.exec = Jvm.exec) (hlk : meth.locks = false) {pc : Nat} {Ls : Array Slot} {z : Int32} {rest : List Value} (hret : meth.sig.returnType = some .int) (hd : decode c.code pc = .ok (.ireturn, 1))
    (hk : cells ≤ k) (hn : slots ≤ n) (hQ : Q (some (.int z)) T.heap locs) : OwnEnd p e below s Q k n (T.setTop (mkF m pc Ls (.int z :: rest))) :=
  OwnEnd.stop X hlk (fun q => by rw [hret] at q; cases q) (fun fs hr => retOut X hx hret rfl (Or.inl ⟨rfl, Or.inl rfl, z, rfl⟩) hd hr) hk hn hQ
theorem ownRetZ {Q : Option Value → Heap → List Loc → Prop} {k n : Nat} (X : Stand p l e R s m args below meth c T locs cells slots) (hx : p.tables.exec = Jvm.exec) (hlk : meth.locks = false) {pc : Nat} {Ls : Array Slot} {z : Int32} {rest : List Value} (hret : meth.sig.returnType = some .boolean) (hd : decode c.code pc = .ok (.ireturn, 1))
    (hk : cells ≤ k) (hn : slots ≤ n) (w : Int32) (hw : nar .boolean z = w) (hQ : Q (some (.int w)) T.heap locs) : OwnEnd p e below s Q k n (T.setTop (mkF m pc Ls (.int z :: rest))) :=
  OwnEnd.stop X hlk (fun q => by rw [hret] at q; cases q) (fun fs hr => retN X hx (t := .boolean) hret (by simp) hd (by rw [hw]; exact hr)) hk hn hQ
theorem ownRetJ {Q : Option Value → Heap → List Loc → Prop} {k n : Nat} (X : Stand p l e R s m args below meth c T locs cells slots) (hx : p.tables.exec = Jvm.exec) (hlk : meth.locks = false) {pc : Nat} {Ls : Array Slot} {z : Int64} {rest : List Value} (hret : meth.sig.returnType = some .long) (hd : decode c.code pc = .ok (.lreturn, 1))
    (hk : cells ≤ k) (hn : slots ≤ n) (hQ : Q (some (.long z)) T.heap locs) : OwnEnd p e below s Q k n (T.setTop (mkF m pc Ls (.long z :: rest))) :=
  OwnEnd.stop X hlk (fun q => by rw [hret] at q; cases q) (fun fs hr => retOut X hx hret rfl (Or.inr (Or.inl ⟨rfl, rfl, z, rfl⟩)) hd hr) hk hn hQ
theorem ownRetA {Q : Option Value → Heap → List Loc → Prop} {k n : Nat} (X : Stand p l e R s m args below meth c T locs cells slots) (hx : p.tables.exec = Jvm.exec) (hlk : meth.locks = false) {pc : Nat} {Ls : Array Slot} {w : Value} {rest : List Value} {t : FieldType} (hret : meth.sig.returnType = some t) (ht : t.isReference = true) (hw : w.isRef = true) (hn' : narrow t w = w) (hd : decode c.code pc = .ok (.areturn, 1))
    (hk : cells ≤ k) (hn : slots ≤ n) (hQ : Q (some w) T.heap locs) : OwnEnd p e below s Q k n (T.setTop (mkF m pc Ls (w :: rest))) :=
  OwnEnd.stop X hlk (fun q => by rw [hret] at q; cases q) (fun fs hr => retOut X hx hret hn' (Or.inr (Or.inr (Or.inr (Or.inr ⟨rfl, ht, hw⟩)))) hd hr) hk hn hQ
theorem ownRetV {Q : Option Value → Heap → List Loc → Prop} {k n : Nat} (X : Stand p l e R s m args below meth c T locs cells slots) (hx : p.tables.exec = Jvm.exec) (hlk : meth.locks = false) {pc : Nat} {Ls : Array Slot} (hret : meth.sig.returnType = none) (hd : decode c.code pc = .ok (.return_, 1))
    (hk : cells ≤ k) (hn : slots ≤ n) (hQ : Q none T.heap locs) : OwnEnd p e below s Q k n (T.setTop (mkF m pc Ls [])) :=
  OwnEnd.stop X hlk (fun _ => rfl) (fun fs hr => X.returnOut hx hret hd hr) hk hn hQ
/-- the calls, each by the callee's own theorem -/
theorem ownCallS (X : Stand p l e R s m args below meth c T locs cells slots) (hx : p.tables.exec = Jvm.exec) (hZ : Z.Warmed39 s.vm) {own : String} {index : Nat} {y : MethodName} {bytes : ByteArray} {maxL : Nat} {ret : Option FieldType} {rm : Room} {as' : Array Value} {Q : Option Value → Heap → List Loc → Prop} (hown : s.vm.findClass own = some m.cls)
    (w1 : (Cond.methodLink own index y).before a0 Z = true) (w2 : (Cond.static y).before a0 Z = true) (w3 : (Cond.initialized y.cls).before a0 Z = true) (w4 : (Cond.code y bytes maxL ret).before a0 Z = true) (hy : y.cls ≠ "java/lang/invoke/MethodHandle" ∧ y.cls ≠ "java/lang/invoke/VarHandle")
    (hM : MetFree l y (head1 [Cond.code y bytes maxL ret] rm) (fun a U => a = as' ∧ Z.Warmed39 U.vm ∧ U.heap = h) (fun _ _ _ _ _ => True) (fun _ U o U' => ∃ v L, o = .returned v ∧ Q v U'.heap L ∧ FrameEnd U o U' L rm.cells rm.slots)) (eT : T.heap = h)
    (W : Nat) (hf : rm.frames + 1 ≤ R.frames) (hl : W + (maxL + 11) + rm.locals ≤ R.locals) (hc : cells + rm.cells ≤ R.cells) (hs : slots + rm.slots ≤ R.slots) {g : JFrame} (hg : g.method = m) (hsize : g.locals.size = c.maxLocals) {argsL rest : List Value} (hlen : ∀ sig, parseMethodDescriptor y.desc = some sig → argsL.length = sig.parameters.length)
    (hstack : g.stack = argsL.reverse ++ rest) (has : argsL.toArray = as') (hW : 2 * g.monitorRoom + (rest.map fun v => v.category).sum ≤ W) (hdg : decode c.code g.pc = .ok (.invokestatic index, 3)) :
    ∃ (v : Option Value) (T' : State) (L : List Loc), Stand p l e R s m args below meth c T' (locs ++ L) (cells + rm.cells) (slots + rm.slots) ∧ Q v T'.heap L ∧ ∀ target, Steps p.tables e below (T'.setTop { g with pc := g.pc + 3, stack := v.toList ++ rest }) target → Steps p.tables e below (T.setTop g) target := by
  obtain ⟨v, vm₁, ⟨T', L', k', n'⟩, -, X', ⟨L, hQ, l', y', z'⟩, st⟩ := Jvm.LawKit.callS X hx hown (mvT hZ w1) (mvT hZ w2) (mvT hZ w3) (mvT hZ w4) hy (backOf (W := W) hM hZ w4 w3 hf hl) hg hsize hlen hstack hW hdg (fun _ _ => ⟨has, eT, hc, hs⟩)
  dsimp only [Pt.U, Pt.locs, Pt.cells, Pt.slots] at X' l' y' z' st hQ
  subst l' y' z'
  exact ⟨v, T', L, X', hQ, st⟩
theorem ownCallV (X : Stand p l e R s m args below meth c T locs cells slots) (hx : p.tables.exec = Jvm.exec) (hZ : Z.Warmed39 s.vm) {own C : String} {index : Nat} {y : MethodName} {bytes : ByteArray} {maxL : Nat} {ret : Option FieldType} {rm : Room} {as' : Array Value} {Q : Option Value → Heap → List Loc → Prop} (hown : s.vm.findClass own = some m.cls)
    (w1 : (Cond.methodLink own index y).before a0 Z = true) (w2 : (Cond.declares y).before a0 Z = true) (w5 : (Cond.selects C y y).before a0 Z = true) (w6 : (Cond.instanceMethod y).before a0 Z = true) (w3 : (Cond.initialized y.cls).before a0 Z = true) (w4 : (Cond.code y bytes maxL ret).before a0 Z = true) (hy : y.cls ≠ "java/lang/invoke/MethodHandle" ∧ y.cls ≠ "java/lang/invoke/VarHandle")
    (hM : MetFree l y (head1 [Cond.code y bytes maxL ret] rm) (fun a U => a = as' ∧ Z.Warmed39 U.vm ∧ U.heap = h) (fun _ _ _ _ _ => True) (fun _ U o U' => ∃ v L, o = .returned v ∧ Q v U'.heap L ∧ FrameEnd U o U' L rm.cells rm.slots)) (eT : T.heap = h) {b : Addr} (E : Exa Z h b C)
    (W : Nat) (hf : rm.frames + 1 ≤ R.frames) (hl : W + (maxL + 11) + rm.locals ≤ R.locals) (hc : cells + rm.cells ≤ R.cells) (hs : slots + rm.slots ≤ R.slots) {g : JFrame} (hg : g.method = m) (hsize : g.locals.size = c.maxLocals) {argsL rest : List Value} (hlen : ∀ sig, parseMethodDescriptor y.desc = some sig → argsL.length = sig.parameters.length)
    (hstack : g.stack = argsL.reverse ++ .ref b :: rest) (has : (.ref b :: argsL).toArray = as') (hW : 2 * g.monitorRoom + (rest.map fun v => v.category).sum ≤ W) (hdg : decode c.code g.pc = .ok (.invokevirtual index, 3)) :
    ∃ (v : Option Value) (T' : State) (L : List Loc), Stand p l e R s m args below meth c T' (locs ++ L) (cells + rm.cells) (slots + rm.slots) ∧ Q v T'.heap L ∧ ∀ target, Steps p.tables e below (T'.setTop { g with pc := g.pc + 3, stack := v.toList ++ rest }) target → Steps p.tables e below (T.setTop g) target := by
  obtain ⟨cq, kq, qa, qb, qc⟩ := isOf hZ eT E
  obtain ⟨v, vm₁, ⟨T', L', k', n'⟩, -, X', ⟨L, hQ, l', y', z'⟩, st⟩ := X.virtualBack hx hown (mvT hZ w1) (mvT hZ w2) (notFace_of_selects (args := #[]) (mvT hZ w5)) (mvT hZ w5) (mvT hZ w6) hy (backOf (W := W) hM hZ w4 w3 hf hl) qa qc hg hsize (Steps.refl _) hlen hstack hW hdg (fun _ _ => ⟨has, eT, hc, hs⟩)
  dsimp only [Pt.U, Pt.locs, Pt.cells, Pt.slots] at X' l' y' z' st hQ
  subst l' y' z'
  exact ⟨v, T', L, X', hQ, fun _ k => st.trans k⟩
theorem ownCallI (X : Stand p l e R s m args below meth c T locs cells slots) (hx : p.tables.exec = Jvm.exec) (hZ : Z.Warmed39 s.vm) {own : String} {index : Nat} {y : MethodName} {bytes : ByteArray} {maxL : Nat} {rm : Room} {as' : Array Value} {Q : Option Value → Heap → List Loc → Prop} (hown : s.vm.findClass own = some m.cls) (hy1 : y.name = "<init>")
    (w1 : (Cond.methodLink own index y).before a0 Z = true) (w6 : (Cond.instanceMethod y).before a0 Z = true) (w3 : (Cond.initialized y.cls).before a0 Z = true) (w4 : (Cond.code y bytes maxL none).before a0 Z = true) (hy : y.cls ≠ "java/lang/invoke/MethodHandle" ∧ y.cls ≠ "java/lang/invoke/VarHandle")
    (hM : MetFree l y (head1 [Cond.code y bytes maxL none] rm) (fun a U => a = as' ∧ Z.Warmed39 U.vm ∧ U.heap = h) (fun _ _ _ _ _ => True) (fun _ U o U' => ∃ v L, o = .returned v ∧ Q v U'.heap L ∧ FrameEnd U o U' L rm.cells rm.slots)) (eT : T.heap = h) {b : Addr}
    (W : Nat) (hf : rm.frames + 1 ≤ R.frames) (hl : W + (maxL + 11) + rm.locals ≤ R.locals) (hc : cells + rm.cells ≤ R.cells) (hs : slots + rm.slots ≤ R.slots) {g : JFrame} (hg : g.method = m) (hsize : g.locals.size = c.maxLocals) {argsL rest : List Value} (hlen : ∀ sig, parseMethodDescriptor y.desc = some sig → argsL.length = sig.parameters.length)
    (hstack : g.stack = argsL.reverse ++ .ref b :: rest) (has : (.ref b :: argsL).toArray = as') (hW : 2 * g.monitorRoom + (rest.map fun v => v.category).sum ≤ W) (hdg : decode c.code g.pc = .ok (.invokespecial index, 3)) :
    ∃ (v : Option Value) (T' : State) (L : List Loc), Stand p l e R s m args below meth c T' (locs ++ L) (cells + rm.cells) (slots + rm.slots) ∧ Q v T'.heap L ∧ ∀ target, Steps p.tables e below (T'.setTop { g with pc := g.pc + 3, stack := v.toList ++ rest }) target → Steps p.tables e below (T.setTop g) target := by
  obtain ⟨v, vm₁, ⟨T', L', k', n'⟩, -, X', ⟨L, hQ, l', y', z'⟩, st⟩ := X.specialBack hx hy1 hown (mvT hZ w1) (mvT hZ w6) (mvT hZ w4) hy (backOf (W := W) hM hZ w4 w3 hf hl) hg hsize (Steps.refl _) hlen hstack hW hdg (fun _ _ => ⟨has, eT, hc, hs⟩)
  dsimp only [Pt.U, Pt.locs, Pt.cells, Pt.slots] at X' l' y' z' st hQ
  subst l' y' z'
  exact ⟨v, T', L, X', hQ, fun _ k => st.trans k⟩
end Own
section Own2
variable {p : Program} {l : Launch} {e : Env} {R : Room} {s : State} {m : MethodId} {args : Array Value} {below : List Frame} {meth : Method} {c : Code} {T : State} {locs : List Loc} {cells slots : Nat} {Z : State} {a0 : Array Value} {h : Heap}
/-- branches behind lcmp -/
theorem ownLt {x y : Int64} (q : x < y) : ifCond.holds .lt (lcmpW x y) = true ∧ ifCond.holds .ge (lcmpW x y) = false ∧ ifCond.holds .gt (lcmpW y x) = true ∧ ifCond.holds .le (lcmpW y x) = false := by
  simp only [if0]
  have h1 : lcmpW x y < 0 := by rw [lcW]; exact (lc_lt x y).2 q
  have h2 : 0 < lcmpW y x := by rw [lcW]; exact (lc_gt y x).2 q
  exact ⟨(tlt h1).1, (tlt h1).2.1, (tlt h2).2.2.1, (tlt h2).2.2.2⟩
theorem ownNlt {x y : Int64} (q : ¬ x < y) : ifCond.holds .lt (lcmpW x y) = false ∧ ifCond.holds .ge (lcmpW x y) = true ∧ ifCond.holds .gt (lcmpW y x) = false ∧ ifCond.holds .le (lcmpW y x) = true := by
  simp only [if0]
  have h1 : ¬ lcmpW x y < 0 := by rw [lcW]; exact fun z => q ((lc_lt x y).1 z)
  have h2 : ¬ 0 < lcmpW y x := by rw [lcW]; exact fun z => q ((lc_gt y x).1 z)
  exact ⟨(flt h1).1, (flt h1).2.1, (flt h2).2.2.1, (flt h2).2.2.2⟩
theorem ownEq {x y : Int64} (q : x = y) : ifCond.holds .eq (lcmpW x y) = true ∧ ifCond.holds .ne (lcmpW x y) = false := by
  simp only [if0]
  have h1 : lcmpW x y = 0 := by rw [lcW]; exact (lc_eq x y).2 q
  exact teq h1
theorem ownNeq {x y : Int64} (q : ¬ x = y) : ifCond.holds .eq (lcmpW x y) = false ∧ ifCond.holds .ne (lcmpW x y) = true := by
  simp only [if0]
  have h1 : ¬ lcmpW x y = 0 := by rw [lcW]; exact fun z => q ((lc_eq x y).1 z)
  exact feq h1
theorem ownLrem {tb : Tables} [Ours tb] {e : Env} {below : List Frame} {T target : State} {m : MethodId} {c : Code} {g : JFrame} (h : At T m c below) (hx : tb.exec = Jvm.exec) (hg : g.method = m) {x y : Int64} {rest : List Value} (hd : decode c.code g.pc = .ok (.lrem, 1)) (hs : g.stack = .long y :: .long x :: rest) (hy : y ≠ 0)
    (hr : Steps tb e below (T.setTop { g with pc := g.pc + 1, stack := .long (x % y) :: rest }) target) : Steps tb e below (T.setTop g) target :=
  XS.lrem h hx hg hd hs hy (by rw [lrem_mod]; exact hr)
theorem ownLen (X : Stand p l e R s m args below meth c T locs cells slots) (hx : p.tables.exec = Jvm.exec) (hZ : Z.Warmed39 s.vm) (eT : T.heap = h) {a : Addr} {cl : Cell} {ty : FieldType} {z : Int32} (A : Arr Z h a cl ty) (S : cl.slots.size = z.toNatClampNeg) (q : ¬ z < 0) {g : JFrame} (hg : g.method = m) {rest : List Value} (hs : g.stack = .ref a :: rest) (hd : decode c.code g.pc = .ok (.arraylength, 1)) :
    ∀ target, Steps p.tables e below (T.setTop { g with pc := g.pc + 1, stack := .int z :: rest }) target → Steps p.tables e below (T.setTop g) target := fun target k =>
  X.arraylength hx (by rw [eT]; exact A.1) (State.isArrayOf_alike hZ.alike A.2.1) hg hs hd target (by rw [len_of S q]; exact k)
theorem ownOrd {C f d : String} {a : Addr} {v : Int32} {args : Array Value} (ev : (Term.static C f d).eval args Z none [] Z = some (.ref a)) (hq : (Jvm.Cond.eq (Term.field (Term.static C f d) "java/lang/Enum" "ordinal" "I") (Term.int v)).value args Z none Z [] = some true) : Fld Z Z.heap a "java/lang/Enum" "ordinal" "I" (.int v) := by
  obtain ⟨x, y, h1, h2, h3, h4⟩ := cmp_v (Or.inl hq)
  rw [fld_at ev] at h1
  cases h2
  obtain ⟨z, rfl⟩ := h4
  have h5 : (Term.field (Term.static C f d) "java/lang/Enum" "ordinal" "I").eval args Z none [] Z = some (.int z) := by rw [fld_at ev]; exact h1
  have : z = v := gotT (Cond.eq_ints h5 (Term.int_eval v)) hq
  subst this
  exact Fld.start h1
end Own2
section Own3
variable {p : Program} {l : Launch} {e : Env} {R : Room} {s : State} {m : MethodId} {args : Array Value} {below : List Frame} {meth : Method} {c : Code} {T : State} {locs : List Loc} {cells slots : Nat} {Z : State} {a0 : Array Value} {h : Heap}
/-- two ways that come to one place, the heap as it was -/
def ownDia {α : Type} (X : Stand p l e R s m args below meth c T locs cells slots) (h : Heap) (P : α → Prop) (f : α → JFrame) (g : JFrame) : Prop :=
  ∃ (T' : State) (v : α), Stand p l e R s m args below meth c T' locs cells slots ∧ T'.heap = h ∧ P v ∧ ∀ t, Steps p.tables e below (T'.setTop (f v)) t → Steps p.tables e below (T.setTop g) t
end Own3

def own_at (e y : Int64) : Int64 := if e = 0 then 9223372036854775807 else if e < 0 then -9223372036854775808 else if 2592000 < e then (if e < 9223372036854775 then e * 1000 else 9223372036854775807) else y + e * 1000
theorem own_at0 (y : Int64) : own_at 0 y = 9223372036854775807 := rfl
theorem own_neg (x : Int64) : (x ||| (-9223372036854775808 : Int64)) < 0 := by
  rw [Int64.lt_iff_toInt_lt]
  exact (c_orSL x (-9223372036854775808 : Int64)).2.2 (by decide)
theorem own_at1 (x y : Int64) : own_at (x ||| (-9223372036854775808 : Int64)) y = -9223372036854775808 := by
  have h := own_neg x
  have h' : ¬ (x ||| (-9223372036854775808 : Int64)) = 0 := fun q => by rw [q] at h; exact absurd h (by decide)
  unfold own_at
  rw [if_neg h', if_pos h]
theorem own_rem (x m n : Int64) (k : Nat) (hk : k ≤ 63) (hm : m.toBitVec.toNat = 2 ^ k - 1) (hn : 0 < n.toInt) : 0 ≤ ((x &&& m) % n).toInt ∧ ((x &&& m) % n).toInt < n.toInt := by
  have h1 := c_maskL x m k hk hm
  have h2 : 0 ≤ (x &&& m).toInt := by rw [h1]; exact Int.emod_nonneg _ (by have : 0 < 2 ^ k := Nat.two_pow_pos k; omega)
  rw [Int64.toInt_mod, Int.tmod_eq_emod_of_nonneg h2]
  exact ⟨Int.emod_nonneg _ (by omega), Int.emod_lt_of_pos _ hn⟩
theorem own_rng2 (x : Int64) : ¬ ((1 : Int64) + (x &&& (2147483647 : Int64)) % (2592000 : Int64)) < 1 ∧ ¬ (2592000 : Int64) < (1 : Int64) + (x &&& (2147483647 : Int64)) % (2592000 : Int64) := by
  have h := own_rem x 2147483647 2592000 31 (by decide) (by decide) (by decide)
  generalize (x &&& (2147483647 : Int64)) % (2592000 : Int64) = z at h
  have e2 : (2592000 : Int64).toInt = 2592000 := by decide
  have e1 : (1 : Int64).toInt = 1 := by decide
  rw [e2] at h
  have h3 : ((1 : Int64) + z).toInt = 1 + z.toInt := by rw [XT.add64 ⟨by rw [e1]; omega, by rw [e1]; omega⟩, e1]
  rw [Int64.lt_iff_toInt_lt, Int64.lt_iff_toInt_lt, h3, e1, e2]
  omega
theorem own_rng3 (x : Int64) : (2592000 : Int64) < (2592001 : Int64) + (x &&& (9223372036854775807 : Int64)) % (9223372036852183807 : Int64) := by
  have h := own_rem x 9223372036854775807 9223372036852183807 63 (by decide) (by decide) (by decide)
  generalize (x &&& (9223372036854775807 : Int64)) % (9223372036852183807 : Int64) = z at h
  have e2 : (9223372036852183807 : Int64).toInt = 9223372036852183807 := by decide
  have e1 : (2592001 : Int64).toInt = 2592001 := by decide
  have e0 : (2592000 : Int64).toInt = 2592000 := by decide
  rw [e2] at h
  have h3 : ((2592001 : Int64) + z).toInt = 2592001 + z.toInt := by rw [XT.add64 ⟨by rw [e1]; omega, by rw [e1]; omega⟩, e1]
  rw [Int64.lt_iff_toInt_lt, h3, e0]
  omega
theorem own_pos {e : Int64} (h : ¬ e < 1) : ¬ e = 0 ∧ ¬ e < 0 := by
  constructor
  · intro q; subst q; exact h (by decide)
  · intro q
    apply h
    rw [Int64.lt_iff_toInt_lt] at q ⊢
    have e0 : (0 : Int64).toInt = 0 := by decide
    have e1 : (1 : Int64).toInt = 1 := by decide
    omega
theorem own_at2 (x y : Int64) : own_at ((1 : Int64) + (x &&& (2147483647 : Int64)) % (2592000 : Int64)) y = y + ((1 : Int64) + (x &&& (2147483647 : Int64)) % (2592000 : Int64)) * 1000 := by
  obtain ⟨h1, h2⟩ := own_rng2 x
  obtain ⟨h3, h4⟩ := own_pos h1
  unfold own_at
  rw [if_neg h3, if_neg h4, if_neg h2]
theorem own_at3 {e : Int64} (h : 2592000 < e) (y : Int64) : own_at e y = if e < 9223372036854775 then e * 1000 else 9223372036854775807 := by
  have h1 : ¬ e < 1 := by
    rw [Int64.lt_iff_toInt_lt] at h ⊢
    have e0 : (2592000 : Int64).toInt = 2592000 := by decide
    have e1 : (1 : Int64).toInt = 1 := by decide
    omega
  obtain ⟨h3, h4⟩ := own_pos h1
  unfold own_at
  rw [if_neg h3, if_neg h4, if_pos h]
theorem own_at3a {e : Int64} (h : 2592000 < e) (h' : e < 9223372036854775) (y : Int64) : own_at e y = e * 1000 := by rw [own_at3 h, if_pos h']
theorem own_at3b {e : Int64} (h : 2592000 < e) (h' : ¬ e < 9223372036854775) (y : Int64) : own_at e y = 9223372036854775807 := by rw [own_at3 h, if_neg h']

theorem d1_0 : decode prog_6_method_2_code 0 = .ok (.lload_n 0, 1) := by decide +kernel
theorem d1_1 : decode prog_6_method_2_code 1 = .ok (.lconst 0, 1) := by decide +kernel
theorem d1_2 : decode prog_6_method_2_code 2 = .ok (.lcmp, 1) := by decide +kernel
theorem d1_3 : decode prog_6_method_2_code 3 = .ok (.ifCond .ne 7, 3) := by decide +kernel
theorem d1_6 : decode prog_6_method_2_code 6 = .ok (.ldc2_w 11, 3) := by decide +kernel
theorem d1_9 : decode prog_6_method_2_code 9 = .ok (.lreturn, 1) := by decide +kernel
theorem d1_10 : decode prog_6_method_2_code 10 = .ok (.lload_n 0, 1) := by decide +kernel
theorem d1_11 : decode prog_6_method_2_code 11 = .ok (.lconst 0, 1) := by decide +kernel
theorem d1_12 : decode prog_6_method_2_code 12 = .ok (.lcmp, 1) := by decide +kernel
theorem d1_13 : decode prog_6_method_2_code 13 = .ok (.ifCond .ge 7, 3) := by decide +kernel
theorem d1_16 : decode prog_6_method_2_code 16 = .ok (.ldc2_w 13, 3) := by decide +kernel
theorem d1_19 : decode prog_6_method_2_code 19 = .ok (.lreturn, 1) := by decide +kernel
theorem d1_20 : decode prog_6_method_2_code 20 = .ok (.lload_n 0, 1) := by decide +kernel
theorem d1_21 : decode prog_6_method_2_code 21 = .ok (.ldc2_w 15, 3) := by decide +kernel
theorem d1_24 : decode prog_6_method_2_code 24 = .ok (.lcmp, 1) := by decide +kernel
theorem d1_25 : decode prog_6_method_2_code 25 = .ok (.ifCond .gt 11, 3) := by decide +kernel
theorem d1_28 : decode prog_6_method_2_code 28 = .ok (.lload_n 2, 1) := by decide +kernel
theorem d1_29 : decode prog_6_method_2_code 29 = .ok (.lload_n 0, 1) := by decide +kernel
theorem d1_30 : decode prog_6_method_2_code 30 = .ok (.ldc2_w 17, 3) := by decide +kernel
theorem d1_33 : decode prog_6_method_2_code 33 = .ok (.lmul, 1) := by decide +kernel
theorem d1_34 : decode prog_6_method_2_code 34 = .ok (.ladd, 1) := by decide +kernel
theorem d1_35 : decode prog_6_method_2_code 35 = .ok (.lreturn, 1) := by decide +kernel
theorem d1_36 : decode prog_6_method_2_code 36 = .ok (.lload_n 0, 1) := by decide +kernel
theorem d1_37 : decode prog_6_method_2_code 37 = .ok (.ldc2_w 19, 3) := by decide +kernel
theorem d1_40 : decode prog_6_method_2_code 40 = .ok (.lcmp, 1) := by decide +kernel
theorem d1_41 : decode prog_6_method_2_code 41 = .ok (.ifCond .ge 11, 3) := by decide +kernel
theorem d1_44 : decode prog_6_method_2_code 44 = .ok (.lload_n 0, 1) := by decide +kernel
theorem d1_45 : decode prog_6_method_2_code 45 = .ok (.ldc2_w 17, 3) := by decide +kernel
theorem d1_48 : decode prog_6_method_2_code 48 = .ok (.lmul, 1) := by decide +kernel
theorem d1_49 : decode prog_6_method_2_code 49 = .ok (.goto 6, 3) := by decide +kernel
theorem d1_52 : decode prog_6_method_2_code 52 = .ok (.ldc2_w 11, 3) := by decide +kernel
theorem d1_55 : decode prog_6_method_2_code 55 = .ok (.lreturn, 1) := by decide +kernel
theorem pn_1 : plainName "com/example/brisk_lookaside/brisklookaside/model/Exptime" = true := by first | (simp [plainName, overriddenIn]; done) | decide +kernel
theorem ef_1 (m : MethodId) (x0 : Int64) (x1 : Int64) : entryFrame m #[(.long x0), (.long x1)] 4 = mkF m 0 #[.val (.long x0), .second, .val (.long x1), .second] [] := by first | (simp [entryFrame, mkF, argsToLocals, Value.category]; done) | rfl
def Q1 (Z : State) (q1 : Int64) (q2 : Int64) (h0 : Heap) (n0 : Nat) (v : Option Value) (h : Heap) (L : List Loc) : Prop := v = some (.long (own_at q1 q2)) ∧ Fr n0 L ∧ h = h0
set_option maxRecDepth 65536 in
set_option maxHeartbeats 40000000 in
theorem rm1 (l : Launch) (Z : State) (a0 : Array Value) (hw : ∀ d ∈ tables_1, d.before a0 Z = true) (ws : List Jvm.Cond) (q1 : Int64) (q2 : Int64) (h0 : Heap) (n0 : Nat) (Z0 : n0 ≤ h0.size) :
    MetFree l (⟨"com/example/brisk_lookaside/brisklookaside/model/Exptime", "expiresAt", "(JJ)J"⟩ : MethodName) (head1 (Jvm.Cond.code (⟨"com/example/brisk_lookaside/brisklookaside/model/Exptime", "expiresAt", "(JJ)J"⟩ : MethodName) prog_6_method_2_code 4 (some .long) :: ws) ({ frames := 0, cells := 0, slots := 0, locals := 0 } : Room)) (fun a U => a = #[(.long q1), (.long q2)] ∧ Z.Warmed39 U.vm ∧ U.heap = h0) (fun _ _ _ _ _ => True) (fun _ U o U' => ∃ v L, o = .returned v ∧ Q1 Z q1 q2 h0 n0 v U'.heap L ∧ FrameEnd U o U' L ({ frames := 0, cells := 0, slots := 0, locals := 0 } : Room).cells ({ frames := 0, cells := 0, slots := 0, locals := 0 } : Room).slots) := by
  have ww4 := hw _ (List.mem_of_getElem? (i := 4) rfl)
  have ww11 := hw _ (List.mem_of_getElem? (i := 11) rfl)
  have ww12 := hw _ (List.mem_of_getElem? (i := 12) rfl)
  have ww13 := hw _ (List.mem_of_getElem? (i := 13) rfl)
  have ww15 := hw _ (List.mem_of_getElem? (i := 15) rfl)
  refine MetFree.of_bodySF (plainFor_of_name pn_1) hisR ?_
  intro p e s m args below meth c s₁ Bd hml0 hP hK
  obtain ⟨rfl, hZ, hh⟩ := hP
  have hx := Bd.exec
  have hby := Bd.bytes
  have hlk : meth.locks = false := Bd.notSynchronized
  have hret := Bd.returns
  have hml : c.maxLocals = 4 := hml0
  have hown : s.vm.findClass "com/example/brisk_lookaside/brisklookaside/model/Exptime" = some m.cls := findClass_of_methodNamed Bd.named
  have hnm := (name_of_methodNamed Bd.named Bd.method).1
  have X0 : Stand p l e ({ frames := 0, cells := 0, slots := 0, locals := 0 } : Room) s m #[(.long q1), (.long q2)] below meth c s₁ [] 0 0 := Stand.of_body Bd
  have e0 : s₁.heap = h0 := by rw [← hh, Bd.state]; rfl
  have N0 := Fr.nil n0
  have K0 := Keep.refl h0 []
  show OwnEnd p e below s (Q1 Z q1 q2 h0 n0) ({ frames := 0, cells := 0, slots := 0, locals := 0 } : Room).cells ({ frames := 0, cells := 0, slots := 0, locals := 0 } : Room).slots _
  refine OwnEnd.go (fun _ k => castTop (ef_1 m q1 q2) k) ?_
  show OwnEnd p e below s _ _ _ (s₁.setTop (mkF m 0 #[.val (.long q1), .second, .val (.long q2), .second] []))
  refine OwnEnd.go (fun _ k => XS.lloadN X0.here hx rfl (hb hby d1_0) rfl  k) ?_
  show OwnEnd p e below s _ _ _ (s₁.setTop (mkF m 1 #[.val (.long q1), .second, .val (.long q2), .second] [(.long q1)]))
  refine OwnEnd.go (fun _ k => XS.lconst X0.here hx rfl (hb hby d1_1) k) ?_
  show OwnEnd p e below s _ _ _ (s₁.setTop (mkF m 2 #[.val (.long q1), .second, .val (.long q2), .second] [(.long (0 : Int64)), (.long q1)]))
  refine OwnEnd.go (fun _ k => XS.lcmp X0.here hx rfl (hb hby d1_2) rfl k) ?_
  show OwnEnd p e below s _ _ _ (s₁.setTop (mkF m 3 #[.val (.long q1), .second, .val (.long q2), .second] [(.int (lcmpW q1 (0 : Int64)))]))
  by_cases hc1 : q1 = (0 : Int64)
  · refine OwnEnd.go (fun _ k => XS.ifNo X0.here hx rfl (hb hby d1_3) rfl (ownEq hc1).2 k) ?_
    show OwnEnd p e below s _ _ _ (s₁.setTop (mkF m 6 #[.val (.long q1), .second, .val (.long q2), .second] []))
    refine OwnEnd.go (fun _ k => X0.ldc2J hx hown (mvT hZ ww4) (g := (mkF m 6 #[.val (.long q1), .second, .val (.long q2), .second] [])) rfl (hb hby d1_6) k) ?_
    show OwnEnd p e below s _ _ _ (s₁.setTop (mkF m 9 #[.val (.long q1), .second, .val (.long q2), .second] [(.long (9223372036854775807 : Int64))]))
    refine ownRetJ X0 hx hlk hret (hb hby d1_9) (by decide) (by decide) ?_
    show Q1 Z q1 q2 h0 n0 _ s₁.heap _
    rw [e0]
    refine ⟨?_, N0, rfl⟩
    unfold own_at
    rw [if_pos hc1]
  · refine OwnEnd.go (fun _ k => XS.ifYes X0.here hx rfl (pc0 := 3) (pc' := 10) rfl (hb hby d1_3) rfl (ownNeq hc1).2 (by decide) (by decide) k) ?_
    show OwnEnd p e below s _ _ _ (s₁.setTop (mkF m 10 #[.val (.long q1), .second, .val (.long q2), .second] []))
    refine OwnEnd.go (fun _ k => XS.lloadN X0.here hx rfl (hb hby d1_10) rfl  k) ?_
    show OwnEnd p e below s _ _ _ (s₁.setTop (mkF m 11 #[.val (.long q1), .second, .val (.long q2), .second] [(.long q1)]))
    refine OwnEnd.go (fun _ k => XS.lconst X0.here hx rfl (hb hby d1_11) k) ?_
    show OwnEnd p e below s _ _ _ (s₁.setTop (mkF m 12 #[.val (.long q1), .second, .val (.long q2), .second] [(.long (0 : Int64)), (.long q1)]))
    refine OwnEnd.go (fun _ k => XS.lcmp X0.here hx rfl (hb hby d1_12) rfl k) ?_
    show OwnEnd p e below s _ _ _ (s₁.setTop (mkF m 13 #[.val (.long q1), .second, .val (.long q2), .second] [(.int (lcmpW q1 (0 : Int64)))]))
    by_cases hc2 : q1 < (0 : Int64)
    · refine OwnEnd.go (fun _ k => XS.ifNo X0.here hx rfl (hb hby d1_13) rfl (ownLt hc2).2.1 k) ?_
      show OwnEnd p e below s _ _ _ (s₁.setTop (mkF m 16 #[.val (.long q1), .second, .val (.long q2), .second] []))
      refine OwnEnd.go (fun _ k => X0.ldc2J hx hown (mvT hZ ww15) (g := (mkF m 16 #[.val (.long q1), .second, .val (.long q2), .second] [])) rfl (hb hby d1_16) k) ?_
      show OwnEnd p e below s _ _ _ (s₁.setTop (mkF m 19 #[.val (.long q1), .second, .val (.long q2), .second] [(.long (-9223372036854775808 : Int64))]))
      refine ownRetJ X0 hx hlk hret (hb hby d1_19) (by decide) (by decide) ?_
      show Q1 Z q1 q2 h0 n0 _ s₁.heap _
      rw [e0]
      refine ⟨?_, N0, rfl⟩
      unfold own_at
      rw [if_neg hc1, if_pos hc2]
    · refine OwnEnd.go (fun _ k => XS.ifYes X0.here hx rfl (pc0 := 13) (pc' := 20) rfl (hb hby d1_13) rfl (ownNlt hc2).2.1 (by decide) (by decide) k) ?_
      show OwnEnd p e below s _ _ _ (s₁.setTop (mkF m 20 #[.val (.long q1), .second, .val (.long q2), .second] []))
      refine OwnEnd.go (fun _ k => XS.lloadN X0.here hx rfl (hb hby d1_20) rfl  k) ?_
      show OwnEnd p e below s _ _ _ (s₁.setTop (mkF m 21 #[.val (.long q1), .second, .val (.long q2), .second] [(.long q1)]))
      refine OwnEnd.go (fun _ k => X0.ldc2J hx hown (mvT hZ ww11) (g := (mkF m 21 #[.val (.long q1), .second, .val (.long q2), .second] [(.long q1)])) rfl (hb hby d1_21) k) ?_
      show OwnEnd p e below s _ _ _ (s₁.setTop (mkF m 24 #[.val (.long q1), .second, .val (.long q2), .second] [(.long (2592000 : Int64)), (.long q1)]))
      refine OwnEnd.go (fun _ k => XS.lcmp X0.here hx rfl (hb hby d1_24) rfl k) ?_
      show OwnEnd p e below s _ _ _ (s₁.setTop (mkF m 25 #[.val (.long q1), .second, .val (.long q2), .second] [(.int (lcmpW q1 (2592000 : Int64)))]))
      by_cases hc3 : (2592000 : Int64) < q1
      · refine OwnEnd.go (fun _ k => XS.ifYes X0.here hx rfl (pc0 := 25) (pc' := 36) rfl (hb hby d1_25) rfl (ownLt hc3).2.2.1 (by decide) (by decide) k) ?_
        show OwnEnd p e below s _ _ _ (s₁.setTop (mkF m 36 #[.val (.long q1), .second, .val (.long q2), .second] []))
        refine OwnEnd.go (fun _ k => XS.lloadN X0.here hx rfl (hb hby d1_36) rfl  k) ?_
        show OwnEnd p e below s _ _ _ (s₁.setTop (mkF m 37 #[.val (.long q1), .second, .val (.long q2), .second] [(.long q1)]))
        refine OwnEnd.go (fun _ k => X0.ldc2J hx hown (mvT hZ ww12) (g := (mkF m 37 #[.val (.long q1), .second, .val (.long q2), .second] [(.long q1)])) rfl (hb hby d1_37) k) ?_
        show OwnEnd p e below s _ _ _ (s₁.setTop (mkF m 40 #[.val (.long q1), .second, .val (.long q2), .second] [(.long (9223372036854775 : Int64)), (.long q1)]))
        refine OwnEnd.go (fun _ k => XS.lcmp X0.here hx rfl (hb hby d1_40) rfl k) ?_
        show OwnEnd p e below s _ _ _ (s₁.setTop (mkF m 41 #[.val (.long q1), .second, .val (.long q2), .second] [(.int (lcmpW q1 (9223372036854775 : Int64)))]))
        by_cases hc4 : q1 < (9223372036854775 : Int64)
        · refine OwnEnd.go (fun _ k => XS.ifNo X0.here hx rfl (hb hby d1_41) rfl (ownLt hc4).2.1 k) ?_
          show OwnEnd p e below s _ _ _ (s₁.setTop (mkF m 44 #[.val (.long q1), .second, .val (.long q2), .second] []))
          refine OwnEnd.go (fun _ k => XS.lloadN X0.here hx rfl (hb hby d1_44) rfl  k) ?_
          show OwnEnd p e below s _ _ _ (s₁.setTop (mkF m 45 #[.val (.long q1), .second, .val (.long q2), .second] [(.long q1)]))
          refine OwnEnd.go (fun _ k => X0.ldc2J hx hown (mvT hZ ww13) (g := (mkF m 45 #[.val (.long q1), .second, .val (.long q2), .second] [(.long q1)])) rfl (hb hby d1_45) k) ?_
          show OwnEnd p e below s _ _ _ (s₁.setTop (mkF m 48 #[.val (.long q1), .second, .val (.long q2), .second] [(.long (1000 : Int64)), (.long q1)]))
          refine OwnEnd.go (fun _ k => XS.lmul X0.here hx rfl (hb hby d1_48) rfl k) ?_
          show OwnEnd p e below s _ _ _ (s₁.setTop (mkF m 49 #[.val (.long q1), .second, .val (.long q2), .second] [(.long (q1 * (1000 : Int64)))]))
          refine OwnEnd.go (fun _ k => XS.goto X0.here hx rfl (pc0 := 49) (pc' := 55) rfl (hb hby d1_49) (by decide) (by decide) k) ?_
          show OwnEnd p e below s _ _ _ (s₁.setTop (mkF m 55 #[.val (.long q1), .second, .val (.long q2), .second] [(.long (q1 * (1000 : Int64)))]))
          refine ownRetJ X0 hx hlk hret (hb hby d1_55) (by decide) (by decide) ?_
          show Q1 Z q1 q2 h0 n0 _ s₁.heap _
          rw [e0]
          refine ⟨?_, N0, rfl⟩
          unfold own_at
          rw [if_neg hc1, if_neg hc2, if_pos hc3, if_pos hc4]
        · refine OwnEnd.go (fun _ k => XS.ifYes X0.here hx rfl (pc0 := 41) (pc' := 52) rfl (hb hby d1_41) rfl (ownNlt hc4).2.1 (by decide) (by decide) k) ?_
          show OwnEnd p e below s _ _ _ (s₁.setTop (mkF m 52 #[.val (.long q1), .second, .val (.long q2), .second] []))
          refine OwnEnd.go (fun _ k => X0.ldc2J hx hown (mvT hZ ww4) (g := (mkF m 52 #[.val (.long q1), .second, .val (.long q2), .second] [])) rfl (hb hby d1_52) k) ?_
          show OwnEnd p e below s _ _ _ (s₁.setTop (mkF m 55 #[.val (.long q1), .second, .val (.long q2), .second] [(.long (9223372036854775807 : Int64))]))
          refine ownRetJ X0 hx hlk hret (hb hby d1_55) (by decide) (by decide) ?_
          show Q1 Z q1 q2 h0 n0 _ s₁.heap _
          rw [e0]
          refine ⟨?_, N0, rfl⟩
          unfold own_at
          rw [if_neg hc1, if_neg hc2, if_pos hc3, if_neg hc4]
      · refine OwnEnd.go (fun _ k => XS.ifNo X0.here hx rfl (hb hby d1_25) rfl (ownNlt hc3).2.2.1 k) ?_
        show OwnEnd p e below s _ _ _ (s₁.setTop (mkF m 28 #[.val (.long q1), .second, .val (.long q2), .second] []))
        refine OwnEnd.go (fun _ k => XS.lloadN X0.here hx rfl (hb hby d1_28) rfl  k) ?_
        show OwnEnd p e below s _ _ _ (s₁.setTop (mkF m 29 #[.val (.long q1), .second, .val (.long q2), .second] [(.long q2)]))
        refine OwnEnd.go (fun _ k => XS.lloadN X0.here hx rfl (hb hby d1_29) rfl  k) ?_
        show OwnEnd p e below s _ _ _ (s₁.setTop (mkF m 30 #[.val (.long q1), .second, .val (.long q2), .second] [(.long q1), (.long q2)]))
        refine OwnEnd.go (fun _ k => X0.ldc2J hx hown (mvT hZ ww13) (g := (mkF m 30 #[.val (.long q1), .second, .val (.long q2), .second] [(.long q1), (.long q2)])) rfl (hb hby d1_30) k) ?_
        show OwnEnd p e below s _ _ _ (s₁.setTop (mkF m 33 #[.val (.long q1), .second, .val (.long q2), .second] [(.long (1000 : Int64)), (.long q1), (.long q2)]))
        refine OwnEnd.go (fun _ k => XS.lmul X0.here hx rfl (hb hby d1_33) rfl k) ?_
        show OwnEnd p e below s _ _ _ (s₁.setTop (mkF m 34 #[.val (.long q1), .second, .val (.long q2), .second] [(.long (q1 * (1000 : Int64))), (.long q2)]))
        refine OwnEnd.go (fun _ k => XS.ladd X0.here hx rfl (hb hby d1_34) rfl k) ?_
        show OwnEnd p e below s _ _ _ (s₁.setTop (mkF m 35 #[.val (.long q1), .second, .val (.long q2), .second] [(.long (q2 + (q1 * (1000 : Int64))))]))
        refine ownRetJ X0 hx hlk hret (hb hby d1_35) (by decide) (by decide) ?_
        show Q1 Z q1 q2 h0 n0 _ s₁.heap _
        rw [e0]
        refine ⟨?_, N0, rfl⟩
        unfold own_at
        rw [if_neg hc1, if_neg hc2, if_neg hc3]
theorem pn_0 : plainName "com/example/brisk_lookaside/brisklookaside/model/ExptimeExpiresAtPinLaw" = true := by first | (simp [plainName, overriddenIn]; done) | decide +kernel
theorem pd0_0 : parseMethodDescriptor "(JJ)J" = some ⟨[.long, .long], some .long⟩ := by decide +kernel
theorem ef_0 (m : MethodId) (x0 : Int64) (x1 : Int64) (x2 : Int32) : entryFrame m #[(.long x0), (.long x1), (.int x2)] maxLocals = mkF m 0 #[.val (.long x0), .second, .val (.long x1), .second, .val (.int x2), .unset, .unset, .unset, .unset, .unset] [] := by first | (simp [entryFrame, mkF, argsToLocals, Value.category, maxLocals]; done) | rfl
def Q0 (Z : State) (q1 : Int64) (q2 : Int64) (p3 : Int32) (h0 : Heap) (n0 : Nat) (v : Option Value) (h : Heap) (L : List Loc) : Prop := v = some (.int 1) ∧ Fr n0 L
set_option maxRecDepth 65536 in
set_option maxHeartbeats 40000000 in
theorem rm0 (l : Launch) (Z : State) (a0 : Array Value) (hw : ∀ d ∈ tables_1, d.before a0 Z = true) (ws : List Jvm.Cond) (q1 : Int64) (q2 : Int64) (p3 : Int32) (h0 : Heap) (n0 : Nat) (Z0 : n0 ≤ h0.size) :
    MetFree l x (head1 (Jvm.Cond.code x code maxLocals ret :: ws) room_1) (fun a U => a = #[(.long q1), (.long q2), (.int p3)] ∧ Z.Warmed39 U.vm ∧ U.heap = h0) (fun _ _ _ _ _ => True) (fun _ U o U' => ∃ v L, o = .returned v ∧ Q0 Z q1 q2 p3 h0 n0 v U'.heap L ∧ FrameEnd U o U' L room_1.cells room_1.slots) := by
  have ww0 := hw _ (List.mem_of_getElem? (i := 0) rfl)
  have ww1 := hw _ (List.mem_of_getElem? (i := 1) rfl)
  have ww2 := hw _ (List.mem_of_getElem? (i := 2) rfl)
  have ww3 := hw _ (List.mem_of_getElem? (i := 3) rfl)
  have ww5 := hw _ (List.mem_of_getElem? (i := 5) rfl)
  have ww6 := hw _ (List.mem_of_getElem? (i := 6) rfl)
  have ww7 := hw _ (List.mem_of_getElem? (i := 7) rfl)
  have ww8 := hw _ (List.mem_of_getElem? (i := 8) rfl)
  have ww9 := hw _ (List.mem_of_getElem? (i := 9) rfl)
  have ww10 := hw _ (List.mem_of_getElem? (i := 10) rfl)
  have ww14 := hw _ (List.mem_of_getElem? (i := 14) rfl)
  have ww16 := hw _ (List.mem_of_getElem? (i := 16) rfl)
  have ww17 := hw _ (List.mem_of_getElem? (i := 17) rfl)
  refine MetFree.of_bodySF (plainFor_of_name pn_0) hisR ?_
  intro p e s m args below meth c s₁ Bd hml0 hP hK
  obtain ⟨rfl, hZ, hh⟩ := hP
  have hx := Bd.exec
  have hby := Bd.bytes
  have hlk : meth.locks = false := Bd.notSynchronized
  have hret := Bd.returns
  have hml : c.maxLocals = 10 := hml0
  have hown : s.vm.findClass "com/example/brisk_lookaside/brisklookaside/model/ExptimeExpiresAtPinLaw" = some m.cls := findClass_of_methodNamed Bd.named
  have hnm := (name_of_methodNamed Bd.named Bd.method).1
  have X0 : Stand p l e room_1 s m #[(.long q1), (.long q2), (.int p3)] below meth c s₁ [] 0 0 := Stand.of_body Bd
  have e0 : s₁.heap = h0 := by rw [← hh, Bd.state]; rfl
  have N0 := Fr.nil n0
  have K0 := Keep.refl h0 []
  show OwnEnd p e below s (Q0 Z q1 q2 p3 h0 n0) room_1.cells room_1.slots _
  refine OwnEnd.go (fun _ k => castTop (ef_0 m q1 q2 p3) k) ?_
  show OwnEnd p e below s _ _ _ (s₁.setTop (mkF m 0 #[.val (.long q1), .second, .val (.long q2), .second, .val (.int p3), .unset, .unset, .unset, .unset, .unset] []))
  refine OwnEnd.go (fun _ k => XS.iload X0.here hx rfl (hb hby at_0) rfl  k) ?_
  show OwnEnd p e below s _ _ _ (s₁.setTop (mkF m 2 #[.val (.long q1), .second, .val (.long q2), .second, .val (.int p3), .unset, .unset, .unset, .unset, .unset] [(.int p3)]))
  refine OwnEnd.go (fun _ k => XS.iconst X0.here hx rfl (hb hby at_2) k) ?_
  show OwnEnd p e below s _ _ _ (s₁.setTop (mkF m 3 #[.val (.long q1), .second, .val (.long q2), .second, .val (.int p3), .unset, .unset, .unset, .unset, .unset] [(.int (3 : Int32)), (.int p3)]))
  refine OwnEnd.go (fun _ k => XS.iand X0.here hx rfl (hb hby at_3) rfl k) ?_
  show OwnEnd p e below s _ _ _ (s₁.setTop (mkF m 4 #[.val (.long q1), .second, .val (.long q2), .second, .val (.int p3), .unset, .unset, .unset, .unset, .unset] [(.int (p3 &&& (3 : Int32)))]))
  refine OwnEnd.go (fun _ k => XS.istore X0.here hx rfl (hb hby at_4) rfl  (l' := #[.val (.long q1), .second, .val (.long q2), .second, .val (.int p3), .val (.int (p3 &&& (3 : Int32))), .unset, .unset, .unset, .unset]) rfl k) ?_
  show OwnEnd p e below s _ _ _ (s₁.setTop (mkF m 6 #[.val (.long q1), .second, .val (.long q2), .second, .val (.int p3), .val (.int (p3 &&& (3 : Int32))), .unset, .unset, .unset, .unset] []))
  refine OwnEnd.go (fun _ k => XS.iload X0.here hx rfl (hb hby at_6) rfl  k) ?_
  show OwnEnd p e below s _ _ _ (s₁.setTop (mkF m 8 #[.val (.long q1), .second, .val (.long q2), .second, .val (.int p3), .val (.int (p3 &&& (3 : Int32))), .unset, .unset, .unset, .unset] [(.int (p3 &&& (3 : Int32)))]))
  by_cases hc1 : (p3 &&& (3 : Int32)) = (0 : Int32)
  · refine OwnEnd.go (fun _ k => XS.ifNo X0.here hx rfl (hb hby at_8) rfl ((if0 _ _).trans (teq hc1).2) k) ?_
    show OwnEnd p e below s _ _ _ (s₁.setTop (mkF m 11 #[.val (.long q1), .second, .val (.long q2), .second, .val (.int p3), .val (.int (p3 &&& (3 : Int32))), .unset, .unset, .unset, .unset] []))
    refine OwnEnd.go (fun _ k => XS.lconst X0.here hx rfl (hb hby at_11) k) ?_
    show OwnEnd p e below s _ _ _ (s₁.setTop (mkF m 12 #[.val (.long q1), .second, .val (.long q2), .second, .val (.int p3), .val (.int (p3 &&& (3 : Int32))), .unset, .unset, .unset, .unset] [(.long (0 : Int64))]))
    refine OwnEnd.go (fun _ k => XS.lloadN X0.here hx rfl (hb hby at_12) rfl  k) ?_
    show OwnEnd p e below s _ _ _ (s₁.setTop (mkF m 13 #[.val (.long q1), .second, .val (.long q2), .second, .val (.int p3), .val (.int (p3 &&& (3 : Int32))), .unset, .unset, .unset, .unset] [(.long q2), (.long (0 : Int64))]))
    obtain ⟨_, T2, L2, X2, hQ2, st2⟩ := ownCallS X0 hx hZ hown ww0 ww1 ww2 ww3 (by decide) (rm1 l Z a0 hw [] (0 : Int64) q2 h0 n0 Z0  ) e0 0 (by decide) (by decide) (by decide) (by decide) (g := (mkF m 13 #[.val (.long q1), .second, .val (.long q2), .second, .val (.int p3), .val (.int (p3 &&& (3 : Int32))), .unset, .unset, .unset, .unset] [(.long q2), (.long (0 : Int64))])) rfl (by rw [hml]; rfl) (argsL := [(.long (0 : Int64)), (.long q2)]) (rest := []) (lenOf pd0_0 rfl) rfl rfl (by show 2 * 0 + _ ≤ _; exact Nat.le_of_eq rfl) (hb hby at_13)
    obtain ⟨rfl, N2q, e2⟩ := hQ2
    have N2 := Fr.app N0 N2q
    refine OwnEnd.go (fun _ k => st2 _ k) ?_
    show OwnEnd p e below s _ _ _ (T2.setTop (mkF m 16 #[.val (.long q1), .second, .val (.long q2), .second, .val (.int p3), .val (.int (p3 &&& (3 : Int32))), .unset, .unset, .unset, .unset] [(.long (own_at (0 : Int64) q2))]))
    refine OwnEnd.go (fun _ k => X2.ldc2J hx hown (mvT hZ ww5) (g := (mkF m 16 #[.val (.long q1), .second, .val (.long q2), .second, .val (.int p3), .val (.int (p3 &&& (3 : Int32))), .unset, .unset, .unset, .unset] [(.long (own_at (0 : Int64) q2))])) rfl (hb hby at_16) k) ?_
    show OwnEnd p e below s _ _ _ (T2.setTop (mkF m 19 #[.val (.long q1), .second, .val (.long q2), .second, .val (.int p3), .val (.int (p3 &&& (3 : Int32))), .unset, .unset, .unset, .unset] [(.long (9223372036854775807 : Int64)), (.long (own_at (0 : Int64) q2))]))
    refine OwnEnd.go (fun _ k => XS.lcmp X2.here hx rfl (hb hby at_19) rfl k) ?_
    show OwnEnd p e below s _ _ _ (T2.setTop (mkF m 20 #[.val (.long q1), .second, .val (.long q2), .second, .val (.int p3), .val (.int (p3 &&& (3 : Int32))), .unset, .unset, .unset, .unset] [(.int (lcmpW (own_at (0 : Int64) q2) (9223372036854775807 : Int64)))]))
    refine OwnEnd.go (fun _ k => XS.ifNo X2.here hx rfl (hb hby at_20) rfl (ownEq (own_at0 _)).2 k) ?_
    show OwnEnd p e below s _ _ _ (T2.setTop (mkF m 23 #[.val (.long q1), .second, .val (.long q2), .second, .val (.int p3), .val (.int (p3 &&& (3 : Int32))), .unset, .unset, .unset, .unset] []))
    refine OwnEnd.go (fun _ k => XS.lconst X2.here hx rfl (hb hby at_23) k) ?_
    show OwnEnd p e below s _ _ _ (T2.setTop (mkF m 24 #[.val (.long q1), .second, .val (.long q2), .second, .val (.int p3), .val (.int (p3 &&& (3 : Int32))), .unset, .unset, .unset, .unset] [(.long (0 : Int64))]))
    refine OwnEnd.go (fun _ k => XS.lloadN X2.here hx rfl (hb hby at_24) rfl  k) ?_
    show OwnEnd p e below s _ _ _ (T2.setTop (mkF m 25 #[.val (.long q1), .second, .val (.long q2), .second, .val (.int p3), .val (.int (p3 &&& (3 : Int32))), .unset, .unset, .unset, .unset] [(.long q2), (.long (0 : Int64))]))
    refine OwnEnd.go (fun _ k => X2.ldc2J hx hown (mvT hZ ww6) (g := (mkF m 25 #[.val (.long q1), .second, .val (.long q2), .second, .val (.int p3), .val (.int (p3 &&& (3 : Int32))), .unset, .unset, .unset, .unset] [(.long q2), (.long (0 : Int64))])) rfl (hb hby at_25) k) ?_
    show OwnEnd p e below s _ _ _ (T2.setTop (mkF m 28 #[.val (.long q1), .second, .val (.long q2), .second, .val (.int p3), .val (.int (p3 &&& (3 : Int32))), .unset, .unset, .unset, .unset] [(.long (-1 : Int64)), (.long q2), (.long (0 : Int64))]))
    refine OwnEnd.go (fun _ k => XS.lxor X2.here hx rfl (hb hby at_28) rfl k) ?_
    show OwnEnd p e below s _ _ _ (T2.setTop (mkF m 29 #[.val (.long q1), .second, .val (.long q2), .second, .val (.int p3), .val (.int (p3 &&& (3 : Int32))), .unset, .unset, .unset, .unset] [(.long (q2 ^^^ (-1 : Int64))), (.long (0 : Int64))]))
    obtain ⟨_, T3, L3, X3, hQ3, st3⟩ := ownCallS X2 hx hZ hown ww0 ww1 ww2 ww3 (by decide) (rm1 l Z a0 hw [] (0 : Int64) (q2 ^^^ (-1 : Int64)) h0 n0 Z0  ) e2 0 (by decide) (by decide) (by decide) (by decide) (g := (mkF m 29 #[.val (.long q1), .second, .val (.long q2), .second, .val (.int p3), .val (.int (p3 &&& (3 : Int32))), .unset, .unset, .unset, .unset] [(.long (q2 ^^^ (-1 : Int64))), (.long (0 : Int64))])) rfl (by rw [hml]; rfl) (argsL := [(.long (0 : Int64)), (.long (q2 ^^^ (-1 : Int64)))]) (rest := []) (lenOf pd0_0 rfl) rfl rfl (by show 2 * 0 + _ ≤ _; exact Nat.le_of_eq rfl) (hb hby at_29)
    obtain ⟨rfl, N3q, e3⟩ := hQ3
    have N3 := Fr.app N2 N3q
    refine OwnEnd.go (fun _ k => st3 _ k) ?_
    show OwnEnd p e below s _ _ _ (T3.setTop (mkF m 32 #[.val (.long q1), .second, .val (.long q2), .second, .val (.int p3), .val (.int (p3 &&& (3 : Int32))), .unset, .unset, .unset, .unset] [(.long (own_at (0 : Int64) (q2 ^^^ (-1 : Int64))))]))
    refine OwnEnd.go (fun _ k => X3.ldc2J hx hown (mvT hZ ww5) (g := (mkF m 32 #[.val (.long q1), .second, .val (.long q2), .second, .val (.int p3), .val (.int (p3 &&& (3 : Int32))), .unset, .unset, .unset, .unset] [(.long (own_at (0 : Int64) (q2 ^^^ (-1 : Int64))))])) rfl (hb hby at_32) k) ?_
    show OwnEnd p e below s _ _ _ (T3.setTop (mkF m 35 #[.val (.long q1), .second, .val (.long q2), .second, .val (.int p3), .val (.int (p3 &&& (3 : Int32))), .unset, .unset, .unset, .unset] [(.long (9223372036854775807 : Int64)), (.long (own_at (0 : Int64) (q2 ^^^ (-1 : Int64))))]))
    refine OwnEnd.go (fun _ k => XS.lcmp X3.here hx rfl (hb hby at_35) rfl k) ?_
    show OwnEnd p e below s _ _ _ (T3.setTop (mkF m 36 #[.val (.long q1), .second, .val (.long q2), .second, .val (.int p3), .val (.int (p3 &&& (3 : Int32))), .unset, .unset, .unset, .unset] [(.int (lcmpW (own_at (0 : Int64) (q2 ^^^ (-1 : Int64))) (9223372036854775807 : Int64)))]))
    refine OwnEnd.go (fun _ k => XS.ifNo X3.here hx rfl (hb hby at_36) rfl (ownEq (own_at0 _)).2 k) ?_
    show OwnEnd p e below s _ _ _ (T3.setTop (mkF m 39 #[.val (.long q1), .second, .val (.long q2), .second, .val (.int p3), .val (.int (p3 &&& (3 : Int32))), .unset, .unset, .unset, .unset] []))
    refine OwnEnd.go (fun _ k => XS.iconst X3.here hx rfl (hb hby at_39) k) ?_
    show OwnEnd p e below s _ _ _ (T3.setTop (mkF m 40 #[.val (.long q1), .second, .val (.long q2), .second, .val (.int p3), .val (.int (p3 &&& (3 : Int32))), .unset, .unset, .unset, .unset] [(.int (1 : Int32))]))
    refine OwnEnd.go (fun _ k => XS.goto X3.here hx rfl (pc0 := 40) (pc' := 44) rfl (hb hby at_40) (by decide) (by decide) k) ?_
    show OwnEnd p e below s _ _ _ (T3.setTop (mkF m 44 #[.val (.long q1), .second, .val (.long q2), .second, .val (.int p3), .val (.int (p3 &&& (3 : Int32))), .unset, .unset, .unset, .unset] [(.int (1 : Int32))]))
    refine ownRetZ X3 hx hlk hret (hb hby at_44) (by decide) (by decide) (1 : Int32) (by decide) ?_
    show Q0 Z q1 q2 p3 h0 n0 _ T3.heap _
    rw [e3]
    exact ⟨rfl, N3⟩
  · refine OwnEnd.go (fun _ k => XS.ifYes X0.here hx rfl (pc0 := 8) (pc' := 45) rfl (hb hby at_8) rfl ((if0 _ _).trans (feq hc1).2) (by decide) (by decide) k) ?_
    show OwnEnd p e below s _ _ _ (s₁.setTop (mkF m 45 #[.val (.long q1), .second, .val (.long q2), .second, .val (.int p3), .val (.int (p3 &&& (3 : Int32))), .unset, .unset, .unset, .unset] []))
    refine OwnEnd.go (fun _ k => XS.iload X0.here hx rfl (hb hby at_45) rfl  k) ?_
    show OwnEnd p e below s _ _ _ (s₁.setTop (mkF m 47 #[.val (.long q1), .second, .val (.long q2), .second, .val (.int p3), .val (.int (p3 &&& (3 : Int32))), .unset, .unset, .unset, .unset] [(.int (p3 &&& (3 : Int32)))]))
    refine OwnEnd.go (fun _ k => XS.iconst X0.here hx rfl (hb hby at_47) k) ?_
    show OwnEnd p e below s _ _ _ (s₁.setTop (mkF m 48 #[.val (.long q1), .second, .val (.long q2), .second, .val (.int p3), .val (.int (p3 &&& (3 : Int32))), .unset, .unset, .unset, .unset] [(.int (1 : Int32)), (.int (p3 &&& (3 : Int32)))]))
    by_cases hc4 : (p3 &&& (3 : Int32)) = (1 : Int32)
    · refine OwnEnd.go (fun _ k => XS.icmpNo X0.here hx rfl (hb hby at_48) rfl (teq hc4).2 k) ?_
      show OwnEnd p e below s _ _ _ (s₁.setTop (mkF m 51 #[.val (.long q1), .second, .val (.long q2), .second, .val (.int p3), .val (.int (p3 &&& (3 : Int32))), .unset, .unset, .unset, .unset] []))
      refine OwnEnd.go (fun _ k => XS.lloadN X0.here hx rfl (hb hby at_51) rfl  k) ?_
      show OwnEnd p e below s _ _ _ (s₁.setTop (mkF m 52 #[.val (.long q1), .second, .val (.long q2), .second, .val (.int p3), .val (.int (p3 &&& (3 : Int32))), .unset, .unset, .unset, .unset] [(.long q1)]))
      refine OwnEnd.go (fun _ k => X0.ldc2J hx hown (mvT hZ ww14) (g := (mkF m 52 #[.val (.long q1), .second, .val (.long q2), .second, .val (.int p3), .val (.int (p3 &&& (3 : Int32))), .unset, .unset, .unset, .unset] [(.long q1)])) rfl (hb hby at_52) k) ?_
      show OwnEnd p e below s _ _ _ (s₁.setTop (mkF m 55 #[.val (.long q1), .second, .val (.long q2), .second, .val (.int p3), .val (.int (p3 &&& (3 : Int32))), .unset, .unset, .unset, .unset] [(.long (-9223372036854775808 : Int64)), (.long q1)]))
      refine OwnEnd.go (fun _ k => XS.lor X0.here hx rfl (hb hby at_55) rfl k) ?_
      show OwnEnd p e below s _ _ _ (s₁.setTop (mkF m 56 #[.val (.long q1), .second, .val (.long q2), .second, .val (.int p3), .val (.int (p3 &&& (3 : Int32))), .unset, .unset, .unset, .unset] [(.long (q1 ||| (-9223372036854775808 : Int64)))]))
      refine OwnEnd.go (fun _ k => XS.lstore X0.here hx rfl (hb hby at_56) rfl  (l' := #[.val (.long q1), .second, .val (.long q2), .second, .val (.int p3), .val (.int (p3 &&& (3 : Int32))), .val (.long (q1 ||| (-9223372036854775808 : Int64))), .second, .unset, .unset]) rfl k) ?_
      show OwnEnd p e below s _ _ _ (s₁.setTop (mkF m 58 #[.val (.long q1), .second, .val (.long q2), .second, .val (.int p3), .val (.int (p3 &&& (3 : Int32))), .val (.long (q1 ||| (-9223372036854775808 : Int64))), .second, .unset, .unset] []))
      refine OwnEnd.go (fun _ k => XS.lload X0.here hx rfl (hb hby at_58) rfl  k) ?_
      show OwnEnd p e below s _ _ _ (s₁.setTop (mkF m 60 #[.val (.long q1), .second, .val (.long q2), .second, .val (.int p3), .val (.int (p3 &&& (3 : Int32))), .val (.long (q1 ||| (-9223372036854775808 : Int64))), .second, .unset, .unset] [(.long (q1 ||| (-9223372036854775808 : Int64)))]))
      refine OwnEnd.go (fun _ k => XS.lloadN X0.here hx rfl (hb hby at_60) rfl  k) ?_
      show OwnEnd p e below s _ _ _ (s₁.setTop (mkF m 61 #[.val (.long q1), .second, .val (.long q2), .second, .val (.int p3), .val (.int (p3 &&& (3 : Int32))), .val (.long (q1 ||| (-9223372036854775808 : Int64))), .second, .unset, .unset] [(.long q2), (.long (q1 ||| (-9223372036854775808 : Int64)))]))
      obtain ⟨_, T5, L5, X5, hQ5, st5⟩ := ownCallS X0 hx hZ hown ww0 ww1 ww2 ww3 (by decide) (rm1 l Z a0 hw [] (q1 ||| (-9223372036854775808 : Int64)) q2 h0 n0 Z0  ) e0 0 (by decide) (by decide) (by decide) (by decide) (g := (mkF m 61 #[.val (.long q1), .second, .val (.long q2), .second, .val (.int p3), .val (.int (p3 &&& (3 : Int32))), .val (.long (q1 ||| (-9223372036854775808 : Int64))), .second, .unset, .unset] [(.long q2), (.long (q1 ||| (-9223372036854775808 : Int64)))])) rfl (by rw [hml]; rfl) (argsL := [(.long (q1 ||| (-9223372036854775808 : Int64))), (.long q2)]) (rest := []) (lenOf pd0_0 rfl) rfl rfl (by show 2 * 0 + _ ≤ _; exact Nat.le_of_eq rfl) (hb hby at_61)
      obtain ⟨rfl, N5q, e5⟩ := hQ5
      have N5 := Fr.app N0 N5q
      refine OwnEnd.go (fun _ k => st5 _ k) ?_
      show OwnEnd p e below s _ _ _ (T5.setTop (mkF m 64 #[.val (.long q1), .second, .val (.long q2), .second, .val (.int p3), .val (.int (p3 &&& (3 : Int32))), .val (.long (q1 ||| (-9223372036854775808 : Int64))), .second, .unset, .unset] [(.long (own_at (q1 ||| (-9223372036854775808 : Int64)) q2))]))
      refine OwnEnd.go (fun _ k => X5.ldc2J hx hown (mvT hZ ww14) (g := (mkF m 64 #[.val (.long q1), .second, .val (.long q2), .second, .val (.int p3), .val (.int (p3 &&& (3 : Int32))), .val (.long (q1 ||| (-9223372036854775808 : Int64))), .second, .unset, .unset] [(.long (own_at (q1 ||| (-9223372036854775808 : Int64)) q2))])) rfl (hb hby at_64) k) ?_
      show OwnEnd p e below s _ _ _ (T5.setTop (mkF m 67 #[.val (.long q1), .second, .val (.long q2), .second, .val (.int p3), .val (.int (p3 &&& (3 : Int32))), .val (.long (q1 ||| (-9223372036854775808 : Int64))), .second, .unset, .unset] [(.long (-9223372036854775808 : Int64)), (.long (own_at (q1 ||| (-9223372036854775808 : Int64)) q2))]))
      refine OwnEnd.go (fun _ k => XS.lcmp X5.here hx rfl (hb hby at_67) rfl k) ?_
      show OwnEnd p e below s _ _ _ (T5.setTop (mkF m 68 #[.val (.long q1), .second, .val (.long q2), .second, .val (.int p3), .val (.int (p3 &&& (3 : Int32))), .val (.long (q1 ||| (-9223372036854775808 : Int64))), .second, .unset, .unset] [(.int (lcmpW (own_at (q1 ||| (-9223372036854775808 : Int64)) q2) (-9223372036854775808 : Int64)))]))
      refine OwnEnd.go (fun _ k => XS.ifNo X5.here hx rfl (hb hby at_68) rfl (ownEq (own_at1 _ _)).2 k) ?_
      show OwnEnd p e below s _ _ _ (T5.setTop (mkF m 71 #[.val (.long q1), .second, .val (.long q2), .second, .val (.int p3), .val (.int (p3 &&& (3 : Int32))), .val (.long (q1 ||| (-9223372036854775808 : Int64))), .second, .unset, .unset] []))
      refine OwnEnd.go (fun _ k => XS.lload X5.here hx rfl (hb hby at_71) rfl  k) ?_
      show OwnEnd p e below s _ _ _ (T5.setTop (mkF m 73 #[.val (.long q1), .second, .val (.long q2), .second, .val (.int p3), .val (.int (p3 &&& (3 : Int32))), .val (.long (q1 ||| (-9223372036854775808 : Int64))), .second, .unset, .unset] [(.long (q1 ||| (-9223372036854775808 : Int64)))]))
      refine OwnEnd.go (fun _ k => XS.lloadN X5.here hx rfl (hb hby at_73) rfl  k) ?_
      show OwnEnd p e below s _ _ _ (T5.setTop (mkF m 74 #[.val (.long q1), .second, .val (.long q2), .second, .val (.int p3), .val (.int (p3 &&& (3 : Int32))), .val (.long (q1 ||| (-9223372036854775808 : Int64))), .second, .unset, .unset] [(.long q2), (.long (q1 ||| (-9223372036854775808 : Int64)))]))
      refine OwnEnd.go (fun _ k => X5.ldc2J hx hown (mvT hZ ww6) (g := (mkF m 74 #[.val (.long q1), .second, .val (.long q2), .second, .val (.int p3), .val (.int (p3 &&& (3 : Int32))), .val (.long (q1 ||| (-9223372036854775808 : Int64))), .second, .unset, .unset] [(.long q2), (.long (q1 ||| (-9223372036854775808 : Int64)))])) rfl (hb hby at_74) k) ?_
      show OwnEnd p e below s _ _ _ (T5.setTop (mkF m 77 #[.val (.long q1), .second, .val (.long q2), .second, .val (.int p3), .val (.int (p3 &&& (3 : Int32))), .val (.long (q1 ||| (-9223372036854775808 : Int64))), .second, .unset, .unset] [(.long (-1 : Int64)), (.long q2), (.long (q1 ||| (-9223372036854775808 : Int64)))]))
      refine OwnEnd.go (fun _ k => XS.lxor X5.here hx rfl (hb hby at_77) rfl k) ?_
      show OwnEnd p e below s _ _ _ (T5.setTop (mkF m 78 #[.val (.long q1), .second, .val (.long q2), .second, .val (.int p3), .val (.int (p3 &&& (3 : Int32))), .val (.long (q1 ||| (-9223372036854775808 : Int64))), .second, .unset, .unset] [(.long (q2 ^^^ (-1 : Int64))), (.long (q1 ||| (-9223372036854775808 : Int64)))]))
      obtain ⟨_, T6, L6, X6, hQ6, st6⟩ := ownCallS X5 hx hZ hown ww0 ww1 ww2 ww3 (by decide) (rm1 l Z a0 hw [] (q1 ||| (-9223372036854775808 : Int64)) (q2 ^^^ (-1 : Int64)) h0 n0 Z0  ) e5 0 (by decide) (by decide) (by decide) (by decide) (g := (mkF m 78 #[.val (.long q1), .second, .val (.long q2), .second, .val (.int p3), .val (.int (p3 &&& (3 : Int32))), .val (.long (q1 ||| (-9223372036854775808 : Int64))), .second, .unset, .unset] [(.long (q2 ^^^ (-1 : Int64))), (.long (q1 ||| (-9223372036854775808 : Int64)))])) rfl (by rw [hml]; rfl) (argsL := [(.long (q1 ||| (-9223372036854775808 : Int64))), (.long (q2 ^^^ (-1 : Int64)))]) (rest := []) (lenOf pd0_0 rfl) rfl rfl (by show 2 * 0 + _ ≤ _; exact Nat.le_of_eq rfl) (hb hby at_78)
      obtain ⟨rfl, N6q, e6⟩ := hQ6
      have N6 := Fr.app N5 N6q
      refine OwnEnd.go (fun _ k => st6 _ k) ?_
      show OwnEnd p e below s _ _ _ (T6.setTop (mkF m 81 #[.val (.long q1), .second, .val (.long q2), .second, .val (.int p3), .val (.int (p3 &&& (3 : Int32))), .val (.long (q1 ||| (-9223372036854775808 : Int64))), .second, .unset, .unset] [(.long (own_at (q1 ||| (-9223372036854775808 : Int64)) (q2 ^^^ (-1 : Int64))))]))
      refine OwnEnd.go (fun _ k => X6.ldc2J hx hown (mvT hZ ww14) (g := (mkF m 81 #[.val (.long q1), .second, .val (.long q2), .second, .val (.int p3), .val (.int (p3 &&& (3 : Int32))), .val (.long (q1 ||| (-9223372036854775808 : Int64))), .second, .unset, .unset] [(.long (own_at (q1 ||| (-9223372036854775808 : Int64)) (q2 ^^^ (-1 : Int64))))])) rfl (hb hby at_81) k) ?_
      show OwnEnd p e below s _ _ _ (T6.setTop (mkF m 84 #[.val (.long q1), .second, .val (.long q2), .second, .val (.int p3), .val (.int (p3 &&& (3 : Int32))), .val (.long (q1 ||| (-9223372036854775808 : Int64))), .second, .unset, .unset] [(.long (-9223372036854775808 : Int64)), (.long (own_at (q1 ||| (-9223372036854775808 : Int64)) (q2 ^^^ (-1 : Int64))))]))
      refine OwnEnd.go (fun _ k => XS.lcmp X6.here hx rfl (hb hby at_84) rfl k) ?_
      show OwnEnd p e below s _ _ _ (T6.setTop (mkF m 85 #[.val (.long q1), .second, .val (.long q2), .second, .val (.int p3), .val (.int (p3 &&& (3 : Int32))), .val (.long (q1 ||| (-9223372036854775808 : Int64))), .second, .unset, .unset] [(.int (lcmpW (own_at (q1 ||| (-9223372036854775808 : Int64)) (q2 ^^^ (-1 : Int64))) (-9223372036854775808 : Int64)))]))
      refine OwnEnd.go (fun _ k => XS.ifNo X6.here hx rfl (hb hby at_85) rfl (ownEq (own_at1 _ _)).2 k) ?_
      show OwnEnd p e below s _ _ _ (T6.setTop (mkF m 88 #[.val (.long q1), .second, .val (.long q2), .second, .val (.int p3), .val (.int (p3 &&& (3 : Int32))), .val (.long (q1 ||| (-9223372036854775808 : Int64))), .second, .unset, .unset] []))
      refine OwnEnd.go (fun _ k => XS.iconst X6.here hx rfl (hb hby at_88) k) ?_
      show OwnEnd p e below s _ _ _ (T6.setTop (mkF m 89 #[.val (.long q1), .second, .val (.long q2), .second, .val (.int p3), .val (.int (p3 &&& (3 : Int32))), .val (.long (q1 ||| (-9223372036854775808 : Int64))), .second, .unset, .unset] [(.int (1 : Int32))]))
      refine OwnEnd.go (fun _ k => XS.goto X6.here hx rfl (pc0 := 89) (pc' := 93) rfl (hb hby at_89) (by decide) (by decide) k) ?_
      show OwnEnd p e below s _ _ _ (T6.setTop (mkF m 93 #[.val (.long q1), .second, .val (.long q2), .second, .val (.int p3), .val (.int (p3 &&& (3 : Int32))), .val (.long (q1 ||| (-9223372036854775808 : Int64))), .second, .unset, .unset] [(.int (1 : Int32))]))
      refine ownRetZ X6 hx hlk hret (hb hby at_93) (by decide) (by decide) (1 : Int32) (by decide) ?_
      show Q0 Z q1 q2 p3 h0 n0 _ T6.heap _
      rw [e6]
      exact ⟨rfl, N6⟩
    · refine OwnEnd.go (fun _ k => XS.icmpYes X0.here hx rfl (pc0 := 48) (pc' := 94) rfl (hb hby at_48) rfl (feq hc4).2 (by decide) (by decide) k) ?_
      show OwnEnd p e below s _ _ _ (s₁.setTop (mkF m 94 #[.val (.long q1), .second, .val (.long q2), .second, .val (.int p3), .val (.int (p3 &&& (3 : Int32))), .unset, .unset, .unset, .unset] []))
      refine OwnEnd.go (fun _ k => XS.iload X0.here hx rfl (hb hby at_94) rfl  k) ?_
      show OwnEnd p e below s _ _ _ (s₁.setTop (mkF m 96 #[.val (.long q1), .second, .val (.long q2), .second, .val (.int p3), .val (.int (p3 &&& (3 : Int32))), .unset, .unset, .unset, .unset] [(.int (p3 &&& (3 : Int32)))]))
      refine OwnEnd.go (fun _ k => XS.iconst X0.here hx rfl (hb hby at_96) k) ?_
      show OwnEnd p e below s _ _ _ (s₁.setTop (mkF m 97 #[.val (.long q1), .second, .val (.long q2), .second, .val (.int p3), .val (.int (p3 &&& (3 : Int32))), .unset, .unset, .unset, .unset] [(.int (2 : Int32)), (.int (p3 &&& (3 : Int32)))]))
      by_cases hc7 : (p3 &&& (3 : Int32)) = (2 : Int32)
      · refine OwnEnd.go (fun _ k => XS.icmpNo X0.here hx rfl (hb hby at_97) rfl (teq hc7).2 k) ?_
        show OwnEnd p e below s _ _ _ (s₁.setTop (mkF m 100 #[.val (.long q1), .second, .val (.long q2), .second, .val (.int p3), .val (.int (p3 &&& (3 : Int32))), .unset, .unset, .unset, .unset] []))
        refine OwnEnd.go (fun _ k => XS.lconst X0.here hx rfl (hb hby at_100) k) ?_
        show OwnEnd p e below s _ _ _ (s₁.setTop (mkF m 101 #[.val (.long q1), .second, .val (.long q2), .second, .val (.int p3), .val (.int (p3 &&& (3 : Int32))), .unset, .unset, .unset, .unset] [(.long (1 : Int64))]))
        refine OwnEnd.go (fun _ k => XS.lloadN X0.here hx rfl (hb hby at_101) rfl  k) ?_
        show OwnEnd p e below s _ _ _ (s₁.setTop (mkF m 102 #[.val (.long q1), .second, .val (.long q2), .second, .val (.int p3), .val (.int (p3 &&& (3 : Int32))), .unset, .unset, .unset, .unset] [(.long q1), (.long (1 : Int64))]))
        refine OwnEnd.go (fun _ k => X0.ldc2J hx hown (mvT hZ ww16) (g := (mkF m 102 #[.val (.long q1), .second, .val (.long q2), .second, .val (.int p3), .val (.int (p3 &&& (3 : Int32))), .unset, .unset, .unset, .unset] [(.long q1), (.long (1 : Int64))])) rfl (hb hby at_102) k) ?_
        show OwnEnd p e below s _ _ _ (s₁.setTop (mkF m 105 #[.val (.long q1), .second, .val (.long q2), .second, .val (.int p3), .val (.int (p3 &&& (3 : Int32))), .unset, .unset, .unset, .unset] [(.long (2147483647 : Int64)), (.long q1), (.long (1 : Int64))]))
        refine OwnEnd.go (fun _ k => XS.land X0.here hx rfl (hb hby at_105) rfl k) ?_
        show OwnEnd p e below s _ _ _ (s₁.setTop (mkF m 106 #[.val (.long q1), .second, .val (.long q2), .second, .val (.int p3), .val (.int (p3 &&& (3 : Int32))), .unset, .unset, .unset, .unset] [(.long (q1 &&& (2147483647 : Int64))), (.long (1 : Int64))]))
        refine OwnEnd.go (fun _ k => X0.ldc2J hx hown (mvT hZ ww17) (g := (mkF m 106 #[.val (.long q1), .second, .val (.long q2), .second, .val (.int p3), .val (.int (p3 &&& (3 : Int32))), .unset, .unset, .unset, .unset] [(.long (q1 &&& (2147483647 : Int64))), (.long (1 : Int64))])) rfl (hb hby at_106) k) ?_
        show OwnEnd p e below s _ _ _ (s₁.setTop (mkF m 109 #[.val (.long q1), .second, .val (.long q2), .second, .val (.int p3), .val (.int (p3 &&& (3 : Int32))), .unset, .unset, .unset, .unset] [(.long (2592000 : Int64)), (.long (q1 &&& (2147483647 : Int64))), (.long (1 : Int64))]))
        refine OwnEnd.go (fun _ k => ownLrem X0.here hx rfl (hb hby at_109) rfl (by decide) k) ?_
        show OwnEnd p e below s _ _ _ (s₁.setTop (mkF m 110 #[.val (.long q1), .second, .val (.long q2), .second, .val (.int p3), .val (.int (p3 &&& (3 : Int32))), .unset, .unset, .unset, .unset] [(.long ((q1 &&& (2147483647 : Int64)) % (2592000 : Int64))), (.long (1 : Int64))]))
        refine OwnEnd.go (fun _ k => XS.ladd X0.here hx rfl (hb hby at_110) rfl k) ?_
        show OwnEnd p e below s _ _ _ (s₁.setTop (mkF m 111 #[.val (.long q1), .second, .val (.long q2), .second, .val (.int p3), .val (.int (p3 &&& (3 : Int32))), .unset, .unset, .unset, .unset] [(.long ((1 : Int64) + ((q1 &&& (2147483647 : Int64)) % (2592000 : Int64))))]))
        refine OwnEnd.go (fun _ k => XS.lstore X0.here hx rfl (hb hby at_111) rfl  (l' := #[.val (.long q1), .second, .val (.long q2), .second, .val (.int p3), .val (.int (p3 &&& (3 : Int32))), .val (.long ((1 : Int64) + ((q1 &&& (2147483647 : Int64)) % (2592000 : Int64)))), .second, .unset, .unset]) rfl k) ?_
        show OwnEnd p e below s _ _ _ (s₁.setTop (mkF m 113 #[.val (.long q1), .second, .val (.long q2), .second, .val (.int p3), .val (.int (p3 &&& (3 : Int32))), .val (.long ((1 : Int64) + ((q1 &&& (2147483647 : Int64)) % (2592000 : Int64)))), .second, .unset, .unset] []))
        refine OwnEnd.go (fun _ k => XS.lload X0.here hx rfl (hb hby at_113) rfl  k) ?_
        show OwnEnd p e below s _ _ _ (s₁.setTop (mkF m 115 #[.val (.long q1), .second, .val (.long q2), .second, .val (.int p3), .val (.int (p3 &&& (3 : Int32))), .val (.long ((1 : Int64) + ((q1 &&& (2147483647 : Int64)) % (2592000 : Int64)))), .second, .unset, .unset] [(.long ((1 : Int64) + ((q1 &&& (2147483647 : Int64)) % (2592000 : Int64))))]))
        refine OwnEnd.go (fun _ k => XS.lloadN X0.here hx rfl (hb hby at_115) rfl  k) ?_
        show OwnEnd p e below s _ _ _ (s₁.setTop (mkF m 116 #[.val (.long q1), .second, .val (.long q2), .second, .val (.int p3), .val (.int (p3 &&& (3 : Int32))), .val (.long ((1 : Int64) + ((q1 &&& (2147483647 : Int64)) % (2592000 : Int64)))), .second, .unset, .unset] [(.long q2), (.long ((1 : Int64) + ((q1 &&& (2147483647 : Int64)) % (2592000 : Int64))))]))
        obtain ⟨_, T8, L8, X8, hQ8, st8⟩ := ownCallS X0 hx hZ hown ww0 ww1 ww2 ww3 (by decide) (rm1 l Z a0 hw [] ((1 : Int64) + ((q1 &&& (2147483647 : Int64)) % (2592000 : Int64))) q2 h0 n0 Z0  ) e0 0 (by decide) (by decide) (by decide) (by decide) (g := (mkF m 116 #[.val (.long q1), .second, .val (.long q2), .second, .val (.int p3), .val (.int (p3 &&& (3 : Int32))), .val (.long ((1 : Int64) + ((q1 &&& (2147483647 : Int64)) % (2592000 : Int64)))), .second, .unset, .unset] [(.long q2), (.long ((1 : Int64) + ((q1 &&& (2147483647 : Int64)) % (2592000 : Int64))))])) rfl (by rw [hml]; rfl) (argsL := [(.long ((1 : Int64) + ((q1 &&& (2147483647 : Int64)) % (2592000 : Int64)))), (.long q2)]) (rest := []) (lenOf pd0_0 rfl) rfl rfl (by show 2 * 0 + _ ≤ _; exact Nat.le_of_eq rfl) (hb hby at_116)
        obtain ⟨rfl, N8q, e8⟩ := hQ8
        have N8 := Fr.app N0 N8q
        refine OwnEnd.go (fun _ k => st8 _ k) ?_
        show OwnEnd p e below s _ _ _ (T8.setTop (mkF m 119 #[.val (.long q1), .second, .val (.long q2), .second, .val (.int p3), .val (.int (p3 &&& (3 : Int32))), .val (.long ((1 : Int64) + ((q1 &&& (2147483647 : Int64)) % (2592000 : Int64)))), .second, .unset, .unset] [(.long (own_at ((1 : Int64) + ((q1 &&& (2147483647 : Int64)) % (2592000 : Int64))) q2))]))
        refine OwnEnd.go (fun _ k => XS.lloadN X8.here hx rfl (hb hby at_119) rfl  k) ?_
        show OwnEnd p e below s _ _ _ (T8.setTop (mkF m 120 #[.val (.long q1), .second, .val (.long q2), .second, .val (.int p3), .val (.int (p3 &&& (3 : Int32))), .val (.long ((1 : Int64) + ((q1 &&& (2147483647 : Int64)) % (2592000 : Int64)))), .second, .unset, .unset] [(.long q2), (.long (own_at ((1 : Int64) + ((q1 &&& (2147483647 : Int64)) % (2592000 : Int64))) q2))]))
        refine OwnEnd.go (fun _ k => XS.lload X8.here hx rfl (hb hby at_120) rfl  k) ?_
        show OwnEnd p e below s _ _ _ (T8.setTop (mkF m 122 #[.val (.long q1), .second, .val (.long q2), .second, .val (.int p3), .val (.int (p3 &&& (3 : Int32))), .val (.long ((1 : Int64) + ((q1 &&& (2147483647 : Int64)) % (2592000 : Int64)))), .second, .unset, .unset] [(.long ((1 : Int64) + ((q1 &&& (2147483647 : Int64)) % (2592000 : Int64)))), (.long q2), (.long (own_at ((1 : Int64) + ((q1 &&& (2147483647 : Int64)) % (2592000 : Int64))) q2))]))
        refine OwnEnd.go (fun _ k => X8.ldc2J hx hown (mvT hZ ww10) (g := (mkF m 122 #[.val (.long q1), .second, .val (.long q2), .second, .val (.int p3), .val (.int (p3 &&& (3 : Int32))), .val (.long ((1 : Int64) + ((q1 &&& (2147483647 : Int64)) % (2592000 : Int64)))), .second, .unset, .unset] [(.long ((1 : Int64) + ((q1 &&& (2147483647 : Int64)) % (2592000 : Int64)))), (.long q2), (.long (own_at ((1 : Int64) + ((q1 &&& (2147483647 : Int64)) % (2592000 : Int64))) q2))])) rfl (hb hby at_122) k) ?_
        show OwnEnd p e below s _ _ _ (T8.setTop (mkF m 125 #[.val (.long q1), .second, .val (.long q2), .second, .val (.int p3), .val (.int (p3 &&& (3 : Int32))), .val (.long ((1 : Int64) + ((q1 &&& (2147483647 : Int64)) % (2592000 : Int64)))), .second, .unset, .unset] [(.long (1000 : Int64)), (.long ((1 : Int64) + ((q1 &&& (2147483647 : Int64)) % (2592000 : Int64)))), (.long q2), (.long (own_at ((1 : Int64) + ((q1 &&& (2147483647 : Int64)) % (2592000 : Int64))) q2))]))
        refine OwnEnd.go (fun _ k => XS.lmul X8.here hx rfl (hb hby at_125) rfl k) ?_
        show OwnEnd p e below s _ _ _ (T8.setTop (mkF m 126 #[.val (.long q1), .second, .val (.long q2), .second, .val (.int p3), .val (.int (p3 &&& (3 : Int32))), .val (.long ((1 : Int64) + ((q1 &&& (2147483647 : Int64)) % (2592000 : Int64)))), .second, .unset, .unset] [(.long (((1 : Int64) + ((q1 &&& (2147483647 : Int64)) % (2592000 : Int64))) * (1000 : Int64))), (.long q2), (.long (own_at ((1 : Int64) + ((q1 &&& (2147483647 : Int64)) % (2592000 : Int64))) q2))]))
        refine OwnEnd.go (fun _ k => XS.ladd X8.here hx rfl (hb hby at_126) rfl k) ?_
        show OwnEnd p e below s _ _ _ (T8.setTop (mkF m 127 #[.val (.long q1), .second, .val (.long q2), .second, .val (.int p3), .val (.int (p3 &&& (3 : Int32))), .val (.long ((1 : Int64) + ((q1 &&& (2147483647 : Int64)) % (2592000 : Int64)))), .second, .unset, .unset] [(.long (q2 + (((1 : Int64) + ((q1 &&& (2147483647 : Int64)) % (2592000 : Int64))) * (1000 : Int64)))), (.long (own_at ((1 : Int64) + ((q1 &&& (2147483647 : Int64)) % (2592000 : Int64))) q2))]))
        refine OwnEnd.go (fun _ k => XS.lcmp X8.here hx rfl (hb hby at_127) rfl k) ?_
        show OwnEnd p e below s _ _ _ (T8.setTop (mkF m 128 #[.val (.long q1), .second, .val (.long q2), .second, .val (.int p3), .val (.int (p3 &&& (3 : Int32))), .val (.long ((1 : Int64) + ((q1 &&& (2147483647 : Int64)) % (2592000 : Int64)))), .second, .unset, .unset] [(.int (lcmpW (own_at ((1 : Int64) + ((q1 &&& (2147483647 : Int64)) % (2592000 : Int64))) q2) (q2 + (((1 : Int64) + ((q1 &&& (2147483647 : Int64)) % (2592000 : Int64))) * (1000 : Int64)))))]))
        refine OwnEnd.go (fun _ k => XS.ifNo X8.here hx rfl (hb hby at_128) rfl (ownEq (own_at2 _ _)).2 k) ?_
        show OwnEnd p e below s _ _ _ (T8.setTop (mkF m 131 #[.val (.long q1), .second, .val (.long q2), .second, .val (.int p3), .val (.int (p3 &&& (3 : Int32))), .val (.long ((1 : Int64) + ((q1 &&& (2147483647 : Int64)) % (2592000 : Int64)))), .second, .unset, .unset] []))
        refine OwnEnd.go (fun _ k => XS.iconst X8.here hx rfl (hb hby at_131) k) ?_
        show OwnEnd p e below s _ _ _ (T8.setTop (mkF m 132 #[.val (.long q1), .second, .val (.long q2), .second, .val (.int p3), .val (.int (p3 &&& (3 : Int32))), .val (.long ((1 : Int64) + ((q1 &&& (2147483647 : Int64)) % (2592000 : Int64)))), .second, .unset, .unset] [(.int (1 : Int32))]))
        refine OwnEnd.go (fun _ k => XS.goto X8.here hx rfl (pc0 := 132) (pc' := 136) rfl (hb hby at_132) (by decide) (by decide) k) ?_
        show OwnEnd p e below s _ _ _ (T8.setTop (mkF m 136 #[.val (.long q1), .second, .val (.long q2), .second, .val (.int p3), .val (.int (p3 &&& (3 : Int32))), .val (.long ((1 : Int64) + ((q1 &&& (2147483647 : Int64)) % (2592000 : Int64)))), .second, .unset, .unset] [(.int (1 : Int32))]))
        refine ownRetZ X8 hx hlk hret (hb hby at_136) (by decide) (by decide) (1 : Int32) (by decide) ?_
        show Q0 Z q1 q2 p3 h0 n0 _ T8.heap _
        rw [e8]
        exact ⟨rfl, N8⟩
      · refine OwnEnd.go (fun _ k => XS.icmpYes X0.here hx rfl (pc0 := 97) (pc' := 137) rfl (hb hby at_97) rfl (feq hc7).2 (by decide) (by decide) k) ?_
        show OwnEnd p e below s _ _ _ (s₁.setTop (mkF m 137 #[.val (.long q1), .second, .val (.long q2), .second, .val (.int p3), .val (.int (p3 &&& (3 : Int32))), .unset, .unset, .unset, .unset] []))
        refine OwnEnd.go (fun _ k => X0.ldc2J hx hown (mvT hZ ww7) (g := (mkF m 137 #[.val (.long q1), .second, .val (.long q2), .second, .val (.int p3), .val (.int (p3 &&& (3 : Int32))), .unset, .unset, .unset, .unset] [])) rfl (hb hby at_137) k) ?_
        show OwnEnd p e below s _ _ _ (s₁.setTop (mkF m 140 #[.val (.long q1), .second, .val (.long q2), .second, .val (.int p3), .val (.int (p3 &&& (3 : Int32))), .unset, .unset, .unset, .unset] [(.long (2592001 : Int64))]))
        refine OwnEnd.go (fun _ k => XS.lloadN X0.here hx rfl (hb hby at_140) rfl  k) ?_
        show OwnEnd p e below s _ _ _ (s₁.setTop (mkF m 141 #[.val (.long q1), .second, .val (.long q2), .second, .val (.int p3), .val (.int (p3 &&& (3 : Int32))), .unset, .unset, .unset, .unset] [(.long q1), (.long (2592001 : Int64))]))
        refine OwnEnd.go (fun _ k => X0.ldc2J hx hown (mvT hZ ww5) (g := (mkF m 141 #[.val (.long q1), .second, .val (.long q2), .second, .val (.int p3), .val (.int (p3 &&& (3 : Int32))), .unset, .unset, .unset, .unset] [(.long q1), (.long (2592001 : Int64))])) rfl (hb hby at_141) k) ?_
        show OwnEnd p e below s _ _ _ (s₁.setTop (mkF m 144 #[.val (.long q1), .second, .val (.long q2), .second, .val (.int p3), .val (.int (p3 &&& (3 : Int32))), .unset, .unset, .unset, .unset] [(.long (9223372036854775807 : Int64)), (.long q1), (.long (2592001 : Int64))]))
        refine OwnEnd.go (fun _ k => XS.land X0.here hx rfl (hb hby at_144) rfl k) ?_
        show OwnEnd p e below s _ _ _ (s₁.setTop (mkF m 145 #[.val (.long q1), .second, .val (.long q2), .second, .val (.int p3), .val (.int (p3 &&& (3 : Int32))), .unset, .unset, .unset, .unset] [(.long (q1 &&& (9223372036854775807 : Int64))), (.long (2592001 : Int64))]))
        refine OwnEnd.go (fun _ k => X0.ldc2J hx hown (mvT hZ ww8) (g := (mkF m 145 #[.val (.long q1), .second, .val (.long q2), .second, .val (.int p3), .val (.int (p3 &&& (3 : Int32))), .unset, .unset, .unset, .unset] [(.long (q1 &&& (9223372036854775807 : Int64))), (.long (2592001 : Int64))])) rfl (hb hby at_145) k) ?_
        show OwnEnd p e below s _ _ _ (s₁.setTop (mkF m 148 #[.val (.long q1), .second, .val (.long q2), .second, .val (.int p3), .val (.int (p3 &&& (3 : Int32))), .unset, .unset, .unset, .unset] [(.long (9223372036852183807 : Int64)), (.long (q1 &&& (9223372036854775807 : Int64))), (.long (2592001 : Int64))]))
        refine OwnEnd.go (fun _ k => ownLrem X0.here hx rfl (hb hby at_148) rfl (by decide) k) ?_
        show OwnEnd p e below s _ _ _ (s₁.setTop (mkF m 149 #[.val (.long q1), .second, .val (.long q2), .second, .val (.int p3), .val (.int (p3 &&& (3 : Int32))), .unset, .unset, .unset, .unset] [(.long ((q1 &&& (9223372036854775807 : Int64)) % (9223372036852183807 : Int64))), (.long (2592001 : Int64))]))
        refine OwnEnd.go (fun _ k => XS.ladd X0.here hx rfl (hb hby at_149) rfl k) ?_
        show OwnEnd p e below s _ _ _ (s₁.setTop (mkF m 150 #[.val (.long q1), .second, .val (.long q2), .second, .val (.int p3), .val (.int (p3 &&& (3 : Int32))), .unset, .unset, .unset, .unset] [(.long ((2592001 : Int64) + ((q1 &&& (9223372036854775807 : Int64)) % (9223372036852183807 : Int64))))]))
        refine OwnEnd.go (fun _ k => XS.lstore X0.here hx rfl (hb hby at_150) rfl  (l' := #[.val (.long q1), .second, .val (.long q2), .second, .val (.int p3), .val (.int (p3 &&& (3 : Int32))), .val (.long ((2592001 : Int64) + ((q1 &&& (9223372036854775807 : Int64)) % (9223372036852183807 : Int64)))), .second, .unset, .unset]) rfl k) ?_
        show OwnEnd p e below s _ _ _ (s₁.setTop (mkF m 152 #[.val (.long q1), .second, .val (.long q2), .second, .val (.int p3), .val (.int (p3 &&& (3 : Int32))), .val (.long ((2592001 : Int64) + ((q1 &&& (9223372036854775807 : Int64)) % (9223372036852183807 : Int64)))), .second, .unset, .unset] []))
        refine OwnEnd.go (fun _ k => XS.lload X0.here hx rfl (hb hby at_152) rfl  k) ?_
        show OwnEnd p e below s _ _ _ (s₁.setTop (mkF m 154 #[.val (.long q1), .second, .val (.long q2), .second, .val (.int p3), .val (.int (p3 &&& (3 : Int32))), .val (.long ((2592001 : Int64) + ((q1 &&& (9223372036854775807 : Int64)) % (9223372036852183807 : Int64)))), .second, .unset, .unset] [(.long ((2592001 : Int64) + ((q1 &&& (9223372036854775807 : Int64)) % (9223372036852183807 : Int64))))]))
        refine OwnEnd.go (fun _ k => X0.ldc2J hx hown (mvT hZ ww9) (g := (mkF m 154 #[.val (.long q1), .second, .val (.long q2), .second, .val (.int p3), .val (.int (p3 &&& (3 : Int32))), .val (.long ((2592001 : Int64) + ((q1 &&& (9223372036854775807 : Int64)) % (9223372036852183807 : Int64)))), .second, .unset, .unset] [(.long ((2592001 : Int64) + ((q1 &&& (9223372036854775807 : Int64)) % (9223372036852183807 : Int64))))])) rfl (hb hby at_154) k) ?_
        show OwnEnd p e below s _ _ _ (s₁.setTop (mkF m 157 #[.val (.long q1), .second, .val (.long q2), .second, .val (.int p3), .val (.int (p3 &&& (3 : Int32))), .val (.long ((2592001 : Int64) + ((q1 &&& (9223372036854775807 : Int64)) % (9223372036852183807 : Int64)))), .second, .unset, .unset] [(.long (9223372036854775 : Int64)), (.long ((2592001 : Int64) + ((q1 &&& (9223372036854775807 : Int64)) % (9223372036852183807 : Int64))))]))
        refine OwnEnd.go (fun _ k => XS.lcmp X0.here hx rfl (hb hby at_157) rfl k) ?_
        show OwnEnd p e below s _ _ _ (s₁.setTop (mkF m 158 #[.val (.long q1), .second, .val (.long q2), .second, .val (.int p3), .val (.int (p3 &&& (3 : Int32))), .val (.long ((2592001 : Int64) + ((q1 &&& (9223372036854775807 : Int64)) % (9223372036852183807 : Int64)))), .second, .unset, .unset] [(.int (lcmpW ((2592001 : Int64) + ((q1 &&& (9223372036854775807 : Int64)) % (9223372036852183807 : Int64))) (9223372036854775 : Int64)))]))
        by_cases hc9 : ((2592001 : Int64) + ((q1 &&& (9223372036854775807 : Int64)) % (9223372036852183807 : Int64))) < (9223372036854775 : Int64)
        · refine OwnEnd.go (fun _ k => XS.ifNo X0.here hx rfl (hb hby at_158) rfl (ownLt hc9).2.1 k) ?_
          show OwnEnd p e below s _ _ _ (s₁.setTop (mkF m 161 #[.val (.long q1), .second, .val (.long q2), .second, .val (.int p3), .val (.int (p3 &&& (3 : Int32))), .val (.long ((2592001 : Int64) + ((q1 &&& (9223372036854775807 : Int64)) % (9223372036852183807 : Int64)))), .second, .unset, .unset] []))
          refine OwnEnd.go (fun _ k => XS.lload X0.here hx rfl (hb hby at_161) rfl  k) ?_
          show OwnEnd p e below s _ _ _ (s₁.setTop (mkF m 163 #[.val (.long q1), .second, .val (.long q2), .second, .val (.int p3), .val (.int (p3 &&& (3 : Int32))), .val (.long ((2592001 : Int64) + ((q1 &&& (9223372036854775807 : Int64)) % (9223372036852183807 : Int64)))), .second, .unset, .unset] [(.long ((2592001 : Int64) + ((q1 &&& (9223372036854775807 : Int64)) % (9223372036852183807 : Int64))))]))
          refine OwnEnd.go (fun _ k => X0.ldc2J hx hown (mvT hZ ww10) (g := (mkF m 163 #[.val (.long q1), .second, .val (.long q2), .second, .val (.int p3), .val (.int (p3 &&& (3 : Int32))), .val (.long ((2592001 : Int64) + ((q1 &&& (9223372036854775807 : Int64)) % (9223372036852183807 : Int64)))), .second, .unset, .unset] [(.long ((2592001 : Int64) + ((q1 &&& (9223372036854775807 : Int64)) % (9223372036852183807 : Int64))))])) rfl (hb hby at_163) k) ?_
          show OwnEnd p e below s _ _ _ (s₁.setTop (mkF m 166 #[.val (.long q1), .second, .val (.long q2), .second, .val (.int p3), .val (.int (p3 &&& (3 : Int32))), .val (.long ((2592001 : Int64) + ((q1 &&& (9223372036854775807 : Int64)) % (9223372036852183807 : Int64)))), .second, .unset, .unset] [(.long (1000 : Int64)), (.long ((2592001 : Int64) + ((q1 &&& (9223372036854775807 : Int64)) % (9223372036852183807 : Int64))))]))
          refine OwnEnd.go (fun _ k => XS.lmul X0.here hx rfl (hb hby at_166) rfl k) ?_
          show OwnEnd p e below s _ _ _ (s₁.setTop (mkF m 167 #[.val (.long q1), .second, .val (.long q2), .second, .val (.int p3), .val (.int (p3 &&& (3 : Int32))), .val (.long ((2592001 : Int64) + ((q1 &&& (9223372036854775807 : Int64)) % (9223372036852183807 : Int64)))), .second, .unset, .unset] [(.long (((2592001 : Int64) + ((q1 &&& (9223372036854775807 : Int64)) % (9223372036852183807 : Int64))) * (1000 : Int64)))]))
          refine OwnEnd.go (fun _ k => XS.goto X0.here hx rfl (pc0 := 167) (pc' := 173) rfl (hb hby at_167) (by decide) (by decide) k) ?_
          show OwnEnd p e below s _ _ _ (s₁.setTop (mkF m 173 #[.val (.long q1), .second, .val (.long q2), .second, .val (.int p3), .val (.int (p3 &&& (3 : Int32))), .val (.long ((2592001 : Int64) + ((q1 &&& (9223372036854775807 : Int64)) % (9223372036852183807 : Int64)))), .second, .unset, .unset] [(.long (((2592001 : Int64) + ((q1 &&& (9223372036854775807 : Int64)) % (9223372036852183807 : Int64))) * (1000 : Int64)))]))
          refine OwnEnd.go (fun _ k => XS.lstore X0.here hx rfl (hb hby at_173) rfl  (l' := #[.val (.long q1), .second, .val (.long q2), .second, .val (.int p3), .val (.int (p3 &&& (3 : Int32))), .val (.long ((2592001 : Int64) + ((q1 &&& (9223372036854775807 : Int64)) % (9223372036852183807 : Int64)))), .second, .val (.long (((2592001 : Int64) + ((q1 &&& (9223372036854775807 : Int64)) % (9223372036852183807 : Int64))) * (1000 : Int64))), .second]) rfl k) ?_
          show OwnEnd p e below s _ _ _ (s₁.setTop (mkF m 175 #[.val (.long q1), .second, .val (.long q2), .second, .val (.int p3), .val (.int (p3 &&& (3 : Int32))), .val (.long ((2592001 : Int64) + ((q1 &&& (9223372036854775807 : Int64)) % (9223372036852183807 : Int64)))), .second, .val (.long (((2592001 : Int64) + ((q1 &&& (9223372036854775807 : Int64)) % (9223372036852183807 : Int64))) * (1000 : Int64))), .second] []))
          refine OwnEnd.go (fun _ k => XS.lload X0.here hx rfl (hb hby at_175) rfl  k) ?_
          show OwnEnd p e below s _ _ _ (s₁.setTop (mkF m 177 #[.val (.long q1), .second, .val (.long q2), .second, .val (.int p3), .val (.int (p3 &&& (3 : Int32))), .val (.long ((2592001 : Int64) + ((q1 &&& (9223372036854775807 : Int64)) % (9223372036852183807 : Int64)))), .second, .val (.long (((2592001 : Int64) + ((q1 &&& (9223372036854775807 : Int64)) % (9223372036852183807 : Int64))) * (1000 : Int64))), .second] [(.long ((2592001 : Int64) + ((q1 &&& (9223372036854775807 : Int64)) % (9223372036852183807 : Int64))))]))
          refine OwnEnd.go (fun _ k => XS.lloadN X0.here hx rfl (hb hby at_177) rfl  k) ?_
          show OwnEnd p e below s _ _ _ (s₁.setTop (mkF m 178 #[.val (.long q1), .second, .val (.long q2), .second, .val (.int p3), .val (.int (p3 &&& (3 : Int32))), .val (.long ((2592001 : Int64) + ((q1 &&& (9223372036854775807 : Int64)) % (9223372036852183807 : Int64)))), .second, .val (.long (((2592001 : Int64) + ((q1 &&& (9223372036854775807 : Int64)) % (9223372036852183807 : Int64))) * (1000 : Int64))), .second] [(.long q2), (.long ((2592001 : Int64) + ((q1 &&& (9223372036854775807 : Int64)) % (9223372036852183807 : Int64))))]))
          obtain ⟨_, T10, L10, X10, hQ10, st10⟩ := ownCallS X0 hx hZ hown ww0 ww1 ww2 ww3 (by decide) (rm1 l Z a0 hw [] ((2592001 : Int64) + ((q1 &&& (9223372036854775807 : Int64)) % (9223372036852183807 : Int64))) q2 h0 n0 Z0  ) e0 0 (by decide) (by decide) (by decide) (by decide) (g := (mkF m 178 #[.val (.long q1), .second, .val (.long q2), .second, .val (.int p3), .val (.int (p3 &&& (3 : Int32))), .val (.long ((2592001 : Int64) + ((q1 &&& (9223372036854775807 : Int64)) % (9223372036852183807 : Int64)))), .second, .val (.long (((2592001 : Int64) + ((q1 &&& (9223372036854775807 : Int64)) % (9223372036852183807 : Int64))) * (1000 : Int64))), .second] [(.long q2), (.long ((2592001 : Int64) + ((q1 &&& (9223372036854775807 : Int64)) % (9223372036852183807 : Int64))))])) rfl (by rw [hml]; rfl) (argsL := [(.long ((2592001 : Int64) + ((q1 &&& (9223372036854775807 : Int64)) % (9223372036852183807 : Int64)))), (.long q2)]) (rest := []) (lenOf pd0_0 rfl) rfl rfl (by show 2 * 0 + _ ≤ _; exact Nat.le_of_eq rfl) (hb hby at_178)
          obtain ⟨rfl, N10q, e10⟩ := hQ10
          have N10 := Fr.app N0 N10q
          refine OwnEnd.go (fun _ k => st10 _ k) ?_
          show OwnEnd p e below s _ _ _ (T10.setTop (mkF m 181 #[.val (.long q1), .second, .val (.long q2), .second, .val (.int p3), .val (.int (p3 &&& (3 : Int32))), .val (.long ((2592001 : Int64) + ((q1 &&& (9223372036854775807 : Int64)) % (9223372036852183807 : Int64)))), .second, .val (.long (((2592001 : Int64) + ((q1 &&& (9223372036854775807 : Int64)) % (9223372036852183807 : Int64))) * (1000 : Int64))), .second] [(.long (own_at ((2592001 : Int64) + ((q1 &&& (9223372036854775807 : Int64)) % (9223372036852183807 : Int64))) q2))]))
          refine OwnEnd.go (fun _ k => XS.lload X10.here hx rfl (hb hby at_181) rfl  k) ?_
          show OwnEnd p e below s _ _ _ (T10.setTop (mkF m 183 #[.val (.long q1), .second, .val (.long q2), .second, .val (.int p3), .val (.int (p3 &&& (3 : Int32))), .val (.long ((2592001 : Int64) + ((q1 &&& (9223372036854775807 : Int64)) % (9223372036852183807 : Int64)))), .second, .val (.long (((2592001 : Int64) + ((q1 &&& (9223372036854775807 : Int64)) % (9223372036852183807 : Int64))) * (1000 : Int64))), .second] [(.long (((2592001 : Int64) + ((q1 &&& (9223372036854775807 : Int64)) % (9223372036852183807 : Int64))) * (1000 : Int64))), (.long (own_at ((2592001 : Int64) + ((q1 &&& (9223372036854775807 : Int64)) % (9223372036852183807 : Int64))) q2))]))
          refine OwnEnd.go (fun _ k => XS.lcmp X10.here hx rfl (hb hby at_183) rfl k) ?_
          show OwnEnd p e below s _ _ _ (T10.setTop (mkF m 184 #[.val (.long q1), .second, .val (.long q2), .second, .val (.int p3), .val (.int (p3 &&& (3 : Int32))), .val (.long ((2592001 : Int64) + ((q1 &&& (9223372036854775807 : Int64)) % (9223372036852183807 : Int64)))), .second, .val (.long (((2592001 : Int64) + ((q1 &&& (9223372036854775807 : Int64)) % (9223372036852183807 : Int64))) * (1000 : Int64))), .second] [(.int (lcmpW (own_at ((2592001 : Int64) + ((q1 &&& (9223372036854775807 : Int64)) % (9223372036852183807 : Int64))) q2) (((2592001 : Int64) + ((q1 &&& (9223372036854775807 : Int64)) % (9223372036852183807 : Int64))) * (1000 : Int64))))]))
          refine OwnEnd.go (fun _ k => XS.ifNo X10.here hx rfl (hb hby at_184) rfl (ownEq (own_at3a (own_rng3 _) hc9 _)).2 k) ?_
          show OwnEnd p e below s _ _ _ (T10.setTop (mkF m 187 #[.val (.long q1), .second, .val (.long q2), .second, .val (.int p3), .val (.int (p3 &&& (3 : Int32))), .val (.long ((2592001 : Int64) + ((q1 &&& (9223372036854775807 : Int64)) % (9223372036852183807 : Int64)))), .second, .val (.long (((2592001 : Int64) + ((q1 &&& (9223372036854775807 : Int64)) % (9223372036852183807 : Int64))) * (1000 : Int64))), .second] []))
          refine OwnEnd.go (fun _ k => XS.lload X10.here hx rfl (hb hby at_187) rfl  k) ?_
          show OwnEnd p e below s _ _ _ (T10.setTop (mkF m 189 #[.val (.long q1), .second, .val (.long q2), .second, .val (.int p3), .val (.int (p3 &&& (3 : Int32))), .val (.long ((2592001 : Int64) + ((q1 &&& (9223372036854775807 : Int64)) % (9223372036852183807 : Int64)))), .second, .val (.long (((2592001 : Int64) + ((q1 &&& (9223372036854775807 : Int64)) % (9223372036852183807 : Int64))) * (1000 : Int64))), .second] [(.long ((2592001 : Int64) + ((q1 &&& (9223372036854775807 : Int64)) % (9223372036852183807 : Int64))))]))
          refine OwnEnd.go (fun _ k => XS.lloadN X10.here hx rfl (hb hby at_189) rfl  k) ?_
          show OwnEnd p e below s _ _ _ (T10.setTop (mkF m 190 #[.val (.long q1), .second, .val (.long q2), .second, .val (.int p3), .val (.int (p3 &&& (3 : Int32))), .val (.long ((2592001 : Int64) + ((q1 &&& (9223372036854775807 : Int64)) % (9223372036852183807 : Int64)))), .second, .val (.long (((2592001 : Int64) + ((q1 &&& (9223372036854775807 : Int64)) % (9223372036852183807 : Int64))) * (1000 : Int64))), .second] [(.long q2), (.long ((2592001 : Int64) + ((q1 &&& (9223372036854775807 : Int64)) % (9223372036852183807 : Int64))))]))
          refine OwnEnd.go (fun _ k => X10.ldc2J hx hown (mvT hZ ww6) (g := (mkF m 190 #[.val (.long q1), .second, .val (.long q2), .second, .val (.int p3), .val (.int (p3 &&& (3 : Int32))), .val (.long ((2592001 : Int64) + ((q1 &&& (9223372036854775807 : Int64)) % (9223372036852183807 : Int64)))), .second, .val (.long (((2592001 : Int64) + ((q1 &&& (9223372036854775807 : Int64)) % (9223372036852183807 : Int64))) * (1000 : Int64))), .second] [(.long q2), (.long ((2592001 : Int64) + ((q1 &&& (9223372036854775807 : Int64)) % (9223372036852183807 : Int64))))])) rfl (hb hby at_190) k) ?_
          show OwnEnd p e below s _ _ _ (T10.setTop (mkF m 193 #[.val (.long q1), .second, .val (.long q2), .second, .val (.int p3), .val (.int (p3 &&& (3 : Int32))), .val (.long ((2592001 : Int64) + ((q1 &&& (9223372036854775807 : Int64)) % (9223372036852183807 : Int64)))), .second, .val (.long (((2592001 : Int64) + ((q1 &&& (9223372036854775807 : Int64)) % (9223372036852183807 : Int64))) * (1000 : Int64))), .second] [(.long (-1 : Int64)), (.long q2), (.long ((2592001 : Int64) + ((q1 &&& (9223372036854775807 : Int64)) % (9223372036852183807 : Int64))))]))
          refine OwnEnd.go (fun _ k => XS.lxor X10.here hx rfl (hb hby at_193) rfl k) ?_
          show OwnEnd p e below s _ _ _ (T10.setTop (mkF m 194 #[.val (.long q1), .second, .val (.long q2), .second, .val (.int p3), .val (.int (p3 &&& (3 : Int32))), .val (.long ((2592001 : Int64) + ((q1 &&& (9223372036854775807 : Int64)) % (9223372036852183807 : Int64)))), .second, .val (.long (((2592001 : Int64) + ((q1 &&& (9223372036854775807 : Int64)) % (9223372036852183807 : Int64))) * (1000 : Int64))), .second] [(.long (q2 ^^^ (-1 : Int64))), (.long ((2592001 : Int64) + ((q1 &&& (9223372036854775807 : Int64)) % (9223372036852183807 : Int64))))]))
          obtain ⟨_, T11, L11, X11, hQ11, st11⟩ := ownCallS X10 hx hZ hown ww0 ww1 ww2 ww3 (by decide) (rm1 l Z a0 hw [] ((2592001 : Int64) + ((q1 &&& (9223372036854775807 : Int64)) % (9223372036852183807 : Int64))) (q2 ^^^ (-1 : Int64)) h0 n0 Z0  ) e10 0 (by decide) (by decide) (by decide) (by decide) (g := (mkF m 194 #[.val (.long q1), .second, .val (.long q2), .second, .val (.int p3), .val (.int (p3 &&& (3 : Int32))), .val (.long ((2592001 : Int64) + ((q1 &&& (9223372036854775807 : Int64)) % (9223372036852183807 : Int64)))), .second, .val (.long (((2592001 : Int64) + ((q1 &&& (9223372036854775807 : Int64)) % (9223372036852183807 : Int64))) * (1000 : Int64))), .second] [(.long (q2 ^^^ (-1 : Int64))), (.long ((2592001 : Int64) + ((q1 &&& (9223372036854775807 : Int64)) % (9223372036852183807 : Int64))))])) rfl (by rw [hml]; rfl) (argsL := [(.long ((2592001 : Int64) + ((q1 &&& (9223372036854775807 : Int64)) % (9223372036852183807 : Int64)))), (.long (q2 ^^^ (-1 : Int64)))]) (rest := []) (lenOf pd0_0 rfl) rfl rfl (by show 2 * 0 + _ ≤ _; exact Nat.le_of_eq rfl) (hb hby at_194)
          obtain ⟨rfl, N11q, e11⟩ := hQ11
          have N11 := Fr.app N10 N11q
          refine OwnEnd.go (fun _ k => st11 _ k) ?_
          show OwnEnd p e below s _ _ _ (T11.setTop (mkF m 197 #[.val (.long q1), .second, .val (.long q2), .second, .val (.int p3), .val (.int (p3 &&& (3 : Int32))), .val (.long ((2592001 : Int64) + ((q1 &&& (9223372036854775807 : Int64)) % (9223372036852183807 : Int64)))), .second, .val (.long (((2592001 : Int64) + ((q1 &&& (9223372036854775807 : Int64)) % (9223372036852183807 : Int64))) * (1000 : Int64))), .second] [(.long (own_at ((2592001 : Int64) + ((q1 &&& (9223372036854775807 : Int64)) % (9223372036852183807 : Int64))) (q2 ^^^ (-1 : Int64))))]))
          refine OwnEnd.go (fun _ k => XS.lload X11.here hx rfl (hb hby at_197) rfl  k) ?_
          show OwnEnd p e below s _ _ _ (T11.setTop (mkF m 199 #[.val (.long q1), .second, .val (.long q2), .second, .val (.int p3), .val (.int (p3 &&& (3 : Int32))), .val (.long ((2592001 : Int64) + ((q1 &&& (9223372036854775807 : Int64)) % (9223372036852183807 : Int64)))), .second, .val (.long (((2592001 : Int64) + ((q1 &&& (9223372036854775807 : Int64)) % (9223372036852183807 : Int64))) * (1000 : Int64))), .second] [(.long (((2592001 : Int64) + ((q1 &&& (9223372036854775807 : Int64)) % (9223372036852183807 : Int64))) * (1000 : Int64))), (.long (own_at ((2592001 : Int64) + ((q1 &&& (9223372036854775807 : Int64)) % (9223372036852183807 : Int64))) (q2 ^^^ (-1 : Int64))))]))
          refine OwnEnd.go (fun _ k => XS.lcmp X11.here hx rfl (hb hby at_199) rfl k) ?_
          show OwnEnd p e below s _ _ _ (T11.setTop (mkF m 200 #[.val (.long q1), .second, .val (.long q2), .second, .val (.int p3), .val (.int (p3 &&& (3 : Int32))), .val (.long ((2592001 : Int64) + ((q1 &&& (9223372036854775807 : Int64)) % (9223372036852183807 : Int64)))), .second, .val (.long (((2592001 : Int64) + ((q1 &&& (9223372036854775807 : Int64)) % (9223372036852183807 : Int64))) * (1000 : Int64))), .second] [(.int (lcmpW (own_at ((2592001 : Int64) + ((q1 &&& (9223372036854775807 : Int64)) % (9223372036852183807 : Int64))) (q2 ^^^ (-1 : Int64))) (((2592001 : Int64) + ((q1 &&& (9223372036854775807 : Int64)) % (9223372036852183807 : Int64))) * (1000 : Int64))))]))
          refine OwnEnd.go (fun _ k => XS.ifNo X11.here hx rfl (hb hby at_200) rfl (ownEq (own_at3a (own_rng3 _) hc9 _)).2 k) ?_
          show OwnEnd p e below s _ _ _ (T11.setTop (mkF m 203 #[.val (.long q1), .second, .val (.long q2), .second, .val (.int p3), .val (.int (p3 &&& (3 : Int32))), .val (.long ((2592001 : Int64) + ((q1 &&& (9223372036854775807 : Int64)) % (9223372036852183807 : Int64)))), .second, .val (.long (((2592001 : Int64) + ((q1 &&& (9223372036854775807 : Int64)) % (9223372036852183807 : Int64))) * (1000 : Int64))), .second] []))
          refine OwnEnd.go (fun _ k => XS.iconst X11.here hx rfl (hb hby at_203) k) ?_
          show OwnEnd p e below s _ _ _ (T11.setTop (mkF m 204 #[.val (.long q1), .second, .val (.long q2), .second, .val (.int p3), .val (.int (p3 &&& (3 : Int32))), .val (.long ((2592001 : Int64) + ((q1 &&& (9223372036854775807 : Int64)) % (9223372036852183807 : Int64)))), .second, .val (.long (((2592001 : Int64) + ((q1 &&& (9223372036854775807 : Int64)) % (9223372036852183807 : Int64))) * (1000 : Int64))), .second] [(.int (1 : Int32))]))
          refine OwnEnd.go (fun _ k => XS.goto X11.here hx rfl (pc0 := 204) (pc' := 208) rfl (hb hby at_204) (by decide) (by decide) k) ?_
          show OwnEnd p e below s _ _ _ (T11.setTop (mkF m 208 #[.val (.long q1), .second, .val (.long q2), .second, .val (.int p3), .val (.int (p3 &&& (3 : Int32))), .val (.long ((2592001 : Int64) + ((q1 &&& (9223372036854775807 : Int64)) % (9223372036852183807 : Int64)))), .second, .val (.long (((2592001 : Int64) + ((q1 &&& (9223372036854775807 : Int64)) % (9223372036852183807 : Int64))) * (1000 : Int64))), .second] [(.int (1 : Int32))]))
          refine ownRetZ X11 hx hlk hret (hb hby at_208) (by decide) (by decide) (1 : Int32) (by decide) ?_
          show Q0 Z q1 q2 p3 h0 n0 _ T11.heap _
          rw [e11]
          exact ⟨rfl, N11⟩
        · refine OwnEnd.go (fun _ k => XS.ifYes X0.here hx rfl (pc0 := 158) (pc' := 170) rfl (hb hby at_158) rfl (ownNlt hc9).2.1 (by decide) (by decide) k) ?_
          show OwnEnd p e below s _ _ _ (s₁.setTop (mkF m 170 #[.val (.long q1), .second, .val (.long q2), .second, .val (.int p3), .val (.int (p3 &&& (3 : Int32))), .val (.long ((2592001 : Int64) + ((q1 &&& (9223372036854775807 : Int64)) % (9223372036852183807 : Int64)))), .second, .unset, .unset] []))
          refine OwnEnd.go (fun _ k => X0.ldc2J hx hown (mvT hZ ww5) (g := (mkF m 170 #[.val (.long q1), .second, .val (.long q2), .second, .val (.int p3), .val (.int (p3 &&& (3 : Int32))), .val (.long ((2592001 : Int64) + ((q1 &&& (9223372036854775807 : Int64)) % (9223372036852183807 : Int64)))), .second, .unset, .unset] [])) rfl (hb hby at_170) k) ?_
          show OwnEnd p e below s _ _ _ (s₁.setTop (mkF m 173 #[.val (.long q1), .second, .val (.long q2), .second, .val (.int p3), .val (.int (p3 &&& (3 : Int32))), .val (.long ((2592001 : Int64) + ((q1 &&& (9223372036854775807 : Int64)) % (9223372036852183807 : Int64)))), .second, .unset, .unset] [(.long (9223372036854775807 : Int64))]))
          refine OwnEnd.go (fun _ k => XS.lstore X0.here hx rfl (hb hby at_173) rfl  (l' := #[.val (.long q1), .second, .val (.long q2), .second, .val (.int p3), .val (.int (p3 &&& (3 : Int32))), .val (.long ((2592001 : Int64) + ((q1 &&& (9223372036854775807 : Int64)) % (9223372036852183807 : Int64)))), .second, .val (.long (9223372036854775807 : Int64)), .second]) rfl k) ?_
          show OwnEnd p e below s _ _ _ (s₁.setTop (mkF m 175 #[.val (.long q1), .second, .val (.long q2), .second, .val (.int p3), .val (.int (p3 &&& (3 : Int32))), .val (.long ((2592001 : Int64) + ((q1 &&& (9223372036854775807 : Int64)) % (9223372036852183807 : Int64)))), .second, .val (.long (9223372036854775807 : Int64)), .second] []))
          refine OwnEnd.go (fun _ k => XS.lload X0.here hx rfl (hb hby at_175) rfl  k) ?_
          show OwnEnd p e below s _ _ _ (s₁.setTop (mkF m 177 #[.val (.long q1), .second, .val (.long q2), .second, .val (.int p3), .val (.int (p3 &&& (3 : Int32))), .val (.long ((2592001 : Int64) + ((q1 &&& (9223372036854775807 : Int64)) % (9223372036852183807 : Int64)))), .second, .val (.long (9223372036854775807 : Int64)), .second] [(.long ((2592001 : Int64) + ((q1 &&& (9223372036854775807 : Int64)) % (9223372036852183807 : Int64))))]))
          refine OwnEnd.go (fun _ k => XS.lloadN X0.here hx rfl (hb hby at_177) rfl  k) ?_
          show OwnEnd p e below s _ _ _ (s₁.setTop (mkF m 178 #[.val (.long q1), .second, .val (.long q2), .second, .val (.int p3), .val (.int (p3 &&& (3 : Int32))), .val (.long ((2592001 : Int64) + ((q1 &&& (9223372036854775807 : Int64)) % (9223372036852183807 : Int64)))), .second, .val (.long (9223372036854775807 : Int64)), .second] [(.long q2), (.long ((2592001 : Int64) + ((q1 &&& (9223372036854775807 : Int64)) % (9223372036852183807 : Int64))))]))
          obtain ⟨_, T12, L12, X12, hQ12, st12⟩ := ownCallS X0 hx hZ hown ww0 ww1 ww2 ww3 (by decide) (rm1 l Z a0 hw [] ((2592001 : Int64) + ((q1 &&& (9223372036854775807 : Int64)) % (9223372036852183807 : Int64))) q2 h0 n0 Z0  ) e0 0 (by decide) (by decide) (by decide) (by decide) (g := (mkF m 178 #[.val (.long q1), .second, .val (.long q2), .second, .val (.int p3), .val (.int (p3 &&& (3 : Int32))), .val (.long ((2592001 : Int64) + ((q1 &&& (9223372036854775807 : Int64)) % (9223372036852183807 : Int64)))), .second, .val (.long (9223372036854775807 : Int64)), .second] [(.long q2), (.long ((2592001 : Int64) + ((q1 &&& (9223372036854775807 : Int64)) % (9223372036852183807 : Int64))))])) rfl (by rw [hml]; rfl) (argsL := [(.long ((2592001 : Int64) + ((q1 &&& (9223372036854775807 : Int64)) % (9223372036852183807 : Int64)))), (.long q2)]) (rest := []) (lenOf pd0_0 rfl) rfl rfl (by show 2 * 0 + _ ≤ _; exact Nat.le_of_eq rfl) (hb hby at_178)
          obtain ⟨rfl, N12q, e12⟩ := hQ12
          have N12 := Fr.app N0 N12q
          refine OwnEnd.go (fun _ k => st12 _ k) ?_
          show OwnEnd p e below s _ _ _ (T12.setTop (mkF m 181 #[.val (.long q1), .second, .val (.long q2), .second, .val (.int p3), .val (.int (p3 &&& (3 : Int32))), .val (.long ((2592001 : Int64) + ((q1 &&& (9223372036854775807 : Int64)) % (9223372036852183807 : Int64)))), .second, .val (.long (9223372036854775807 : Int64)), .second] [(.long (own_at ((2592001 : Int64) + ((q1 &&& (9223372036854775807 : Int64)) % (9223372036852183807 : Int64))) q2))]))
          refine OwnEnd.go (fun _ k => XS.lload X12.here hx rfl (hb hby at_181) rfl  k) ?_
          show OwnEnd p e below s _ _ _ (T12.setTop (mkF m 183 #[.val (.long q1), .second, .val (.long q2), .second, .val (.int p3), .val (.int (p3 &&& (3 : Int32))), .val (.long ((2592001 : Int64) + ((q1 &&& (9223372036854775807 : Int64)) % (9223372036852183807 : Int64)))), .second, .val (.long (9223372036854775807 : Int64)), .second] [(.long (9223372036854775807 : Int64)), (.long (own_at ((2592001 : Int64) + ((q1 &&& (9223372036854775807 : Int64)) % (9223372036852183807 : Int64))) q2))]))
          refine OwnEnd.go (fun _ k => XS.lcmp X12.here hx rfl (hb hby at_183) rfl k) ?_
          show OwnEnd p e below s _ _ _ (T12.setTop (mkF m 184 #[.val (.long q1), .second, .val (.long q2), .second, .val (.int p3), .val (.int (p3 &&& (3 : Int32))), .val (.long ((2592001 : Int64) + ((q1 &&& (9223372036854775807 : Int64)) % (9223372036852183807 : Int64)))), .second, .val (.long (9223372036854775807 : Int64)), .second] [(.int (lcmpW (own_at ((2592001 : Int64) + ((q1 &&& (9223372036854775807 : Int64)) % (9223372036852183807 : Int64))) q2) (9223372036854775807 : Int64)))]))
          refine OwnEnd.go (fun _ k => XS.ifNo X12.here hx rfl (hb hby at_184) rfl (ownEq (own_at3b (own_rng3 _) hc9 _)).2 k) ?_
          show OwnEnd p e below s _ _ _ (T12.setTop (mkF m 187 #[.val (.long q1), .second, .val (.long q2), .second, .val (.int p3), .val (.int (p3 &&& (3 : Int32))), .val (.long ((2592001 : Int64) + ((q1 &&& (9223372036854775807 : Int64)) % (9223372036852183807 : Int64)))), .second, .val (.long (9223372036854775807 : Int64)), .second] []))
          refine OwnEnd.go (fun _ k => XS.lload X12.here hx rfl (hb hby at_187) rfl  k) ?_
          show OwnEnd p e below s _ _ _ (T12.setTop (mkF m 189 #[.val (.long q1), .second, .val (.long q2), .second, .val (.int p3), .val (.int (p3 &&& (3 : Int32))), .val (.long ((2592001 : Int64) + ((q1 &&& (9223372036854775807 : Int64)) % (9223372036852183807 : Int64)))), .second, .val (.long (9223372036854775807 : Int64)), .second] [(.long ((2592001 : Int64) + ((q1 &&& (9223372036854775807 : Int64)) % (9223372036852183807 : Int64))))]))
          refine OwnEnd.go (fun _ k => XS.lloadN X12.here hx rfl (hb hby at_189) rfl  k) ?_
          show OwnEnd p e below s _ _ _ (T12.setTop (mkF m 190 #[.val (.long q1), .second, .val (.long q2), .second, .val (.int p3), .val (.int (p3 &&& (3 : Int32))), .val (.long ((2592001 : Int64) + ((q1 &&& (9223372036854775807 : Int64)) % (9223372036852183807 : Int64)))), .second, .val (.long (9223372036854775807 : Int64)), .second] [(.long q2), (.long ((2592001 : Int64) + ((q1 &&& (9223372036854775807 : Int64)) % (9223372036852183807 : Int64))))]))
          refine OwnEnd.go (fun _ k => X12.ldc2J hx hown (mvT hZ ww6) (g := (mkF m 190 #[.val (.long q1), .second, .val (.long q2), .second, .val (.int p3), .val (.int (p3 &&& (3 : Int32))), .val (.long ((2592001 : Int64) + ((q1 &&& (9223372036854775807 : Int64)) % (9223372036852183807 : Int64)))), .second, .val (.long (9223372036854775807 : Int64)), .second] [(.long q2), (.long ((2592001 : Int64) + ((q1 &&& (9223372036854775807 : Int64)) % (9223372036852183807 : Int64))))])) rfl (hb hby at_190) k) ?_
          show OwnEnd p e below s _ _ _ (T12.setTop (mkF m 193 #[.val (.long q1), .second, .val (.long q2), .second, .val (.int p3), .val (.int (p3 &&& (3 : Int32))), .val (.long ((2592001 : Int64) + ((q1 &&& (9223372036854775807 : Int64)) % (9223372036852183807 : Int64)))), .second, .val (.long (9223372036854775807 : Int64)), .second] [(.long (-1 : Int64)), (.long q2), (.long ((2592001 : Int64) + ((q1 &&& (9223372036854775807 : Int64)) % (9223372036852183807 : Int64))))]))
          refine OwnEnd.go (fun _ k => XS.lxor X12.here hx rfl (hb hby at_193) rfl k) ?_
          show OwnEnd p e below s _ _ _ (T12.setTop (mkF m 194 #[.val (.long q1), .second, .val (.long q2), .second, .val (.int p3), .val (.int (p3 &&& (3 : Int32))), .val (.long ((2592001 : Int64) + ((q1 &&& (9223372036854775807 : Int64)) % (9223372036852183807 : Int64)))), .second, .val (.long (9223372036854775807 : Int64)), .second] [(.long (q2 ^^^ (-1 : Int64))), (.long ((2592001 : Int64) + ((q1 &&& (9223372036854775807 : Int64)) % (9223372036852183807 : Int64))))]))
          obtain ⟨_, T13, L13, X13, hQ13, st13⟩ := ownCallS X12 hx hZ hown ww0 ww1 ww2 ww3 (by decide) (rm1 l Z a0 hw [] ((2592001 : Int64) + ((q1 &&& (9223372036854775807 : Int64)) % (9223372036852183807 : Int64))) (q2 ^^^ (-1 : Int64)) h0 n0 Z0  ) e12 0 (by decide) (by decide) (by decide) (by decide) (g := (mkF m 194 #[.val (.long q1), .second, .val (.long q2), .second, .val (.int p3), .val (.int (p3 &&& (3 : Int32))), .val (.long ((2592001 : Int64) + ((q1 &&& (9223372036854775807 : Int64)) % (9223372036852183807 : Int64)))), .second, .val (.long (9223372036854775807 : Int64)), .second] [(.long (q2 ^^^ (-1 : Int64))), (.long ((2592001 : Int64) + ((q1 &&& (9223372036854775807 : Int64)) % (9223372036852183807 : Int64))))])) rfl (by rw [hml]; rfl) (argsL := [(.long ((2592001 : Int64) + ((q1 &&& (9223372036854775807 : Int64)) % (9223372036852183807 : Int64)))), (.long (q2 ^^^ (-1 : Int64)))]) (rest := []) (lenOf pd0_0 rfl) rfl rfl (by show 2 * 0 + _ ≤ _; exact Nat.le_of_eq rfl) (hb hby at_194)
          obtain ⟨rfl, N13q, e13⟩ := hQ13
          have N13 := Fr.app N12 N13q
          refine OwnEnd.go (fun _ k => st13 _ k) ?_
          show OwnEnd p e below s _ _ _ (T13.setTop (mkF m 197 #[.val (.long q1), .second, .val (.long q2), .second, .val (.int p3), .val (.int (p3 &&& (3 : Int32))), .val (.long ((2592001 : Int64) + ((q1 &&& (9223372036854775807 : Int64)) % (9223372036852183807 : Int64)))), .second, .val (.long (9223372036854775807 : Int64)), .second] [(.long (own_at ((2592001 : Int64) + ((q1 &&& (9223372036854775807 : Int64)) % (9223372036852183807 : Int64))) (q2 ^^^ (-1 : Int64))))]))
          refine OwnEnd.go (fun _ k => XS.lload X13.here hx rfl (hb hby at_197) rfl  k) ?_
          show OwnEnd p e below s _ _ _ (T13.setTop (mkF m 199 #[.val (.long q1), .second, .val (.long q2), .second, .val (.int p3), .val (.int (p3 &&& (3 : Int32))), .val (.long ((2592001 : Int64) + ((q1 &&& (9223372036854775807 : Int64)) % (9223372036852183807 : Int64)))), .second, .val (.long (9223372036854775807 : Int64)), .second] [(.long (9223372036854775807 : Int64)), (.long (own_at ((2592001 : Int64) + ((q1 &&& (9223372036854775807 : Int64)) % (9223372036852183807 : Int64))) (q2 ^^^ (-1 : Int64))))]))
          refine OwnEnd.go (fun _ k => XS.lcmp X13.here hx rfl (hb hby at_199) rfl k) ?_
          show OwnEnd p e below s _ _ _ (T13.setTop (mkF m 200 #[.val (.long q1), .second, .val (.long q2), .second, .val (.int p3), .val (.int (p3 &&& (3 : Int32))), .val (.long ((2592001 : Int64) + ((q1 &&& (9223372036854775807 : Int64)) % (9223372036852183807 : Int64)))), .second, .val (.long (9223372036854775807 : Int64)), .second] [(.int (lcmpW (own_at ((2592001 : Int64) + ((q1 &&& (9223372036854775807 : Int64)) % (9223372036852183807 : Int64))) (q2 ^^^ (-1 : Int64))) (9223372036854775807 : Int64)))]))
          refine OwnEnd.go (fun _ k => XS.ifNo X13.here hx rfl (hb hby at_200) rfl (ownEq (own_at3b (own_rng3 _) hc9 _)).2 k) ?_
          show OwnEnd p e below s _ _ _ (T13.setTop (mkF m 203 #[.val (.long q1), .second, .val (.long q2), .second, .val (.int p3), .val (.int (p3 &&& (3 : Int32))), .val (.long ((2592001 : Int64) + ((q1 &&& (9223372036854775807 : Int64)) % (9223372036852183807 : Int64)))), .second, .val (.long (9223372036854775807 : Int64)), .second] []))
          refine OwnEnd.go (fun _ k => XS.iconst X13.here hx rfl (hb hby at_203) k) ?_
          show OwnEnd p e below s _ _ _ (T13.setTop (mkF m 204 #[.val (.long q1), .second, .val (.long q2), .second, .val (.int p3), .val (.int (p3 &&& (3 : Int32))), .val (.long ((2592001 : Int64) + ((q1 &&& (9223372036854775807 : Int64)) % (9223372036852183807 : Int64)))), .second, .val (.long (9223372036854775807 : Int64)), .second] [(.int (1 : Int32))]))
          refine OwnEnd.go (fun _ k => XS.goto X13.here hx rfl (pc0 := 204) (pc' := 208) rfl (hb hby at_204) (by decide) (by decide) k) ?_
          show OwnEnd p e below s _ _ _ (T13.setTop (mkF m 208 #[.val (.long q1), .second, .val (.long q2), .second, .val (.int p3), .val (.int (p3 &&& (3 : Int32))), .val (.long ((2592001 : Int64) + ((q1 &&& (9223372036854775807 : Int64)) % (9223372036852183807 : Int64)))), .second, .val (.long (9223372036854775807 : Int64)), .second] [(.int (1 : Int32))]))
          refine ownRetZ X13 hx hlk hret (hb hby at_208) (by decide) (by decide) (1 : Int32) (by decide) ?_
          show Q0 Z q1 q2 p3 h0 n0 _ T13.heap _
          rw [e13]
          exact ⟨rfl, N13⟩
set_option maxRecDepth 65536 in
set_option maxHeartbeats 40000000 in
theorem comes_1 {Post : Tables → Env → Array Value → State → Outcome → State → Prop} (hpost : ∀ tb e args s v u, (limb_1_1.after args s (.returned v) u = true ∧ limb_1_2.after args s (.returned v) u = true ∧ True) → FrameEnd s (.returned v) u (Jvm.fieldLocs frame_1_writes args s ++ Jvm.arrayLocs frame_1_arrays args s ++ Jvm.staticLocs frame_1_statics s) 0 0 → Post tb e args s (.returned v) u) :
    ArmFor flags0 classFile x code maxLocals ret World_1 tables_1 room_1 Calls_1 rest_1 Pre_1 Post := by
  intro l hfl _ _ p e ha hc hk s m args below hf hA hF happ hP
  obtain ⟨hcalls, hrest, hpre⟩ := hP
  obtain ⟨-, -, -, hnamed, -, -, -, hat⟩ := (Spec.applies_iff hf).mp happ
  obtain ⟨hg, hn⟩ := and_e (Cond.before_iff.mp (show (Jvm.Cond.and given_1 narrow_1).before args s = true from hpre))
  obtain ⟨hcount, hg⟩ := and_e hg
  obtain ⟨hv0, hg⟩ := and_e hg
  obtain ⟨hv1, hg⟩ := and_e hg
  have hv2 := hg
  obtain ⟨w0, w1, w2, rfl⟩ : ∃ w0 w1 w2 : Value, args = #[w0, w1, w2] := by
    have hs : args.size = 3 := by simpa [Cond.value, given_1] using hcount
    obtain ⟨L⟩ := args
    match L, hs with
    | [w0, w1, w2], _ => exact ⟨w0, w1, w2, rfl⟩
  have hw := fun d (hd : d ∈ tables_1) => atoms_spec (ws := Jvm.Cond.code x code maxLocals ret :: tables_1) hat d (List.mem_cons_of_mem _ hd)
  have hfit : Fit s := fun {y c} hc i hi => by
    obtain ⟨ha, rfl⟩ := Array.getElem?_eq_some_iff.mp hc
    have q := List.all_eq_true.mp ((Array.all_eq_true_iff_forall_mem.mp hF) _ (Array.getElem_mem ha)) i (List.mem_range.mpr hi)
    simpa [Array.getElem?_eq_getElem hi] using q
  obtain ⟨i0, ei0⟩ := isL_v hv0
  obtain rfl : w0 = (.long i0) := Option.some.inj ei0
  obtain ⟨i1, ei1⟩ := isL_v hv1
  obtain rfl : w1 = (.long i1) := Option.some.inj ei1
  obtain ⟨i2, ei2⟩ := is_v hv2
  obtain rfl : w2 = (.int i2) := Option.some.inj ei2
  obtain ⟨n, o, h1, h2, h3, _, L, rfl, ⟨rfl, N⟩, hq⟩ := rm0 l s _ hw tables_1 i0 i1 i2 s.heap s.heap.size (Nat.le_refl _)  p e ha hc hk s m _ below hf ((Spec.applies_iff_loose hf).mp happ).1 ⟨rfl, State.Warmed39.refl s, rfl⟩ trivial
  refine ⟨n, _, h1, h2, h3, hpost _ _ _ _ _ _ ⟨Cond.after_iff.mpr rfl, Cond.after_iff.mpr (eq_i res_at (Term.int_eval (1)) rfl), trivial⟩ ⟨hq.1, hq.2.1, (hq.2.2.sift fun y hy => Or.inr (N y hy)).mono (by decide) (by decide)⟩⟩
theorem main_1_1 : Claimed_1_1 := comes_1 fun _ _ _ _ _ _ h hF => ⟨h.1, hF⟩
theorem main_1_2 : Claimed_1_2 := comes_1 fun _ _ _ _ _ _ h hF => ⟨h.2.1, hF⟩
end Jvm.Pilot.@@N@@
namespace Jvm.Pilot.@@N@@
open Jvm Jvm.ClassFile Sem Op Lib Jvm.Free Jvm.Stand Jvm.Pilot.@@N@@.Jvm.D
/-! MADE BY PROGRAM (witnessworld.py) out of the Statement's table words and the real class files: 9 classes; the members and pool entries that the words name. The judged class is class 1, her method 1. -/
namespace start1
open Jvm.ClassFile
def u (s : String) : CpInfo := .utf8 (stringToUtf16 s)
/-- a pool by its gaps: so many unusable entries, then the entry; so many at the end -/
def gap : Nat → List CpInfo → List CpInfo
  | 0, r => r
  | n + 1, r => .unusable :: gap n r
def poolList (es : List (Nat × CpInfo)) (last : Nat) : List CpInfo := es.foldr (fun e r => gap e.1 (e.2 :: r)) (gap last [])
def pool (es : List (Nat × CpInfo)) (last : Nat) : Array CpInfo := ⟨poolList es last⟩
def fileOf (pool : Array CpInfo) (this : Nat) (attrs : Array Attribute := #[]) (ms : Array MethodInfo := #[]) (fl : Nat := 33) (sup : Nat := 0) (ifs : Array Nat := #[]) (fds : Array FieldInfo := #[]) : ClassFile where
  minorVersion := 0
  majorVersion := 65
  constantPool := pool
  accessFlags := fl
  thisClass := this
  superClass := sup
  interfaces := ifs
  fields := fds
  methods := ms
  attributes := attrs
def plain (name : String) (sup : Option ClassId) : Class where
  name := name
  kind := .ordinary
  loader := none
  accessFlags := 33
  super := sup
  interfaces := #[]
  cf := none
  fields := #[]
  methods := #[]
  instanceTypes := #[]
  staticTypes := #[]
  resolved := #[]
  callSites := []
  init := .initialized
  statics := none
  mirror := none

def pool0 : Array CpInfo := pool [(5, u "<init>"), (0, u "()V"), (1, .class_ 10), (1, u "java/lang/Object")] 113

def k0m0 : Method := { name := "<init>", desc := "()V", sig := { parameters := [], returnType := none }, accessFlags := 1, code := none }
/-- java/lang/Object -/
def k0 : Class := { plain "java/lang/Object" none with
  accessFlags := 33
  interfaces := #[]
  cf := some (fileOf pool0 8 #[] #[{ accessFlags := 1, nameIndex := 5, descriptorIndex := 6, attributes := #[] }] 33 0 #[] #[])
  fields := #[]
  methods := #[k0m0]
  instanceTypes := #[]
  staticTypes := #[]
  resolved := Array.replicate 124 none
  statics := none }

def pool1 : Array CpInfo := pool [(2, .class_ 4), (1, u "java/lang/Object"), (0, u "<init>"), (0, u "()V"), (0, .methodref 8 9), (0, .class_ 10), (0, .nameAndType 11 12), (0, u "com/example/brisk_lookaside/brisklookaside/model/Exptime"), (0, u "expiresAt"), (0, u "(JJ)J"), (2, .long 9223372036854775807), (1, .long 18446744073709551615), (1, .long 9223372036854775808), (1, .long 2147483647), (1, .long 2592000), (1, .long 1000), (1, .long 2592001), (1, .long 9223372036852183807), (1, .long 9223372036854775), (1, .class_ 34), (0, u "com/example/brisk_lookaside/brisklookaside/model/ExptimeExpiresAtPinLaw"), (2, u "law"), (0, u "(JJI)Z")] 3

def k1m0 : Method := { name := "<init>", desc := "()V", sig := { parameters := [], returnType := none }, accessFlags := 2, code := none }
def k1c1 : Code := { maxStack := 8, maxLocals := 10, code := code, exceptionTable := #[], attributes := #[] }
def k1m1 : Method := { name := "law", desc := "(JJI)Z", sig := { parameters := [.long, .long, .int], returnType := some .boolean }, accessFlags := 9, code := some k1c1 }
/-- com/example/brisk_lookaside/brisklookaside/model/ExptimeExpiresAtPinLaw -/
def k1 : Class := { plain "com/example/brisk_lookaside/brisklookaside/model/ExptimeExpiresAtPinLaw" (some 0) with
  accessFlags := 49
  interfaces := #[]
  cf := some (fileOf pool1 33 #[] #[{ accessFlags := 2, nameIndex := 5, descriptorIndex := 6, attributes := #[] }, { accessFlags := 9, nameIndex := 37, descriptorIndex := 38, attributes := #[] }] 49 2 #[] #[])
  fields := #[]
  methods := #[k1m0, k1m1]
  instanceTypes := #[]
  staticTypes := #[]
  resolved := Array.replicate 42 none
  statics := none }

def pool2 : Array CpInfo := pool [(4, .class_ 6), (1, u "java/lang/Object"), (0, u "<init>"), (0, u "()V"), (0, .class_ 10), (0, u "com/example/brisk_lookaside/brisklookaside/model/Exptime"), (0, .long 9223372036854775807), (1, .long 9223372036854775808), (1, .long 2592000), (1, .long 1000), (1, .long 9223372036854775), (3, u "expiresAt"), (0, u "(JJ)J"), (0, u "NEVER"), (0, u "J"), (1, u "PAST"), (0, u "MAX_RELATIVE")] 7

def k2m0 : Method := { name := "<init>", desc := "()V", sig := { parameters := [], returnType := none }, accessFlags := 2, code := none }
def k2c1 : Code := { maxStack := 6, maxLocals := 4, code := prog_6_method_2_code, exceptionTable := #[], attributes := #[] }
def k2m1 : Method := { name := "expiresAt", desc := "(JJ)J", sig := { parameters := [.long, .long], returnType := some .long }, accessFlags := 9, code := some k2c1 }
/-- com/example/brisk_lookaside/brisklookaside/model/Exptime -/
def k2 : Class := { plain "com/example/brisk_lookaside/brisklookaside/model/Exptime" (some 0) with
  accessFlags := 49
  interfaces := #[]
  cf := some (fileOf pool2 9 #[] #[{ accessFlags := 2, nameIndex := 7, descriptorIndex := 8, attributes := #[] }, { accessFlags := 9, nameIndex := 23, descriptorIndex := 24, attributes := #[] }] 49 4 #[] #[{ accessFlags := 25, nameIndex := 25, descriptorIndex := 26, attributes := #[] }, { accessFlags := 25, nameIndex := 28, descriptorIndex := 26, attributes := #[] }, { accessFlags := 26, nameIndex := 29, descriptorIndex := 26, attributes := #[] }])
  fields := #[{ name := "NEVER", type := .long, accessFlags := 25, slot := 0, constantValue := 0 }, { name := "PAST", type := .long, accessFlags := 25, slot := 1, constantValue := 0 }, { name := "MAX_RELATIVE", type := .long, accessFlags := 26, slot := 2, constantValue := 0 }]
  methods := #[k2m0, k2m1]
  instanceTypes := #[]
  staticTypes := #[.long, .long, .long]
  resolved := Array.replicate 37 none
  statics := none }

def pool3 : Array CpInfo := pool [(1, u "java/lang/Cloneable"), (0, .class_ 1), (0, u "java/lang/Object"), (0, .class_ 3)] 3

/-- java/lang/Cloneable -/
def k3 : Class := { plain "java/lang/Cloneable" (some 0) with
  accessFlags := 1537
  interfaces := #[]
  cf := some (fileOf pool3 2 #[] #[] 1537 4 #[] #[])
  fields := #[]
  methods := #[]
  instanceTypes := #[]
  staticTypes := #[]
  resolved := Array.replicate 8 none
  statics := none }

def pool4 : Array CpInfo := pool [(1, u "java/io/Serializable"), (0, .class_ 1), (0, u "java/lang/Object"), (0, .class_ 3)] 3

/-- java/io/Serializable -/
def k4 : Class := { plain "java/io/Serializable" (some 0) with
  accessFlags := 1537
  interfaces := #[]
  cf := some (fileOf pool4 2 #[] #[] 1537 4 #[] #[])
  fields := #[]
  methods := #[]
  instanceTypes := #[]
  staticTypes := #[]
  resolved := Array.replicate 8 none
  statics := none }

/-- the primitive byte -/
def k5 : Class := { plain "byte" none with kind := .primitive 'B', accessFlags := 0x411 }
/-- [B -/
def k6 : Class := { plain "[B" (some 0) with kind := .array 5 .byte, interfaces := #[3, 4], accessFlags := 1041 }

/-- the primitive int -/
def k7 : Class := { plain "int" none with kind := .primitive 'I', accessFlags := 0x411 }
/-- [I -/
def k8 : Class := { plain "[I" (some 0) with kind := .array 7 .int, interfaces := #[3, 4], accessFlags := 1041 }

def heap : Heap := #[]
def classes : Array Class := #[k0, k1, k2, k3, k4, k5, k6, k7, k8]
def interned : List (Array UInt16 × Addr) := []
def slotsUsed : Nat := 0
def theMethod : MethodId := ⟨1, 1⟩
def args0 : Array Value := #[.long 5, .long 7, .int 2]
def aboutOver (below : List Frame) : State where
  vm := { classes := classes, interned := interned.toArray }
  heap := heap
  slotsUsed := slotsUsed
  threads := #[{ frames := .invoking theMethod args0 :: below }]
def below0 : List Frame := [.native { method := ⟨0, 0⟩, args := #[] }]
def about1 : State := aboutOver below0
def p0 : Program := .bare "" "" ""
def e0 : Env := launch0.env 0 0 0
theorem w_frames : about1.frames = Frame.invoking theMethod args0 :: below0 := rfl
set_option maxRecDepth 65536 in
theorem w_args : argsFit about1.vm theMethod args0 = true := by decide +kernel
set_option maxRecDepth 65536 in
theorem w_heap : heapFits about1 = true := by decide +kernel
set_option maxRecDepth 65536 in
theorem w_runnable : about1.curStatus? = some .runnable := by decide +kernel
set_option maxRecDepth 65536 in
theorem w_alone : about1.alone = true := by decide +kernel
set_option maxRecDepth 65536 in
theorem w_named : about1.methodNamed? x = some theMethod := by decide +kernel
set_option maxRecDepth 65536 in
theorem w_hears : about1.hears theMethod below0 = true := by decide +kernel
set_option maxRecDepth 65536 in
theorem w_ripe : about1.ripe theMethod args0 below0 = true := by decide +kernel
theorem w_running : about1.status = .running := rfl
set_option maxRecDepth 65536 in
theorem w_room : about1.hasRoom e0.platform room_1 = true :=
  launch0.hasRoom_least _ room_1 (by decide +kernel) (by decide +kernel) (by decide +kernel) (by decide +kernel) (by decide +kernel) (by decide +kernel)
theorem allAtoms_all (ts : List Jvm.Cond) (a : Array Jvm.Value) (st : Jvm.State) : (allAtoms ts).before a st = ts.all (fun c => c.before a st) := by
  induction ts with
  | nil => rfl
  | cons c t ih =>
    show (Jvm.Cond.and c (allAtoms t)).before a st = _
    rw [Jvm.Cond.before_and, ih, List.all_cons]
def words1 : List Jvm.Cond := Jvm.Cond.code x code maxLocals ret :: tables_1
/-- a 'code' word, met by the world's own term for the bytes: nothing is compared byte by byte -/
theorem code_word {y : MethodName} {bytes : ByteArray} {mx : Nat} {rt : Option FieldType} {a : Array Value} {s : State} {m : MethodId} {meth : Method} {c : Code} (h1 : s.methodNamed? y = some m) (h2 : s.vm.method? m = some meth) (h3 : meth.code = some c) (h4 : c.code = bytes)
    (h5 : (c.maxLocals == mx && c.exceptionTable.isEmpty && decide (c.maxStack ≤ mostOperands) && decide (meth.sig.returnType = rt) && !meth.locks && decide (parseMethodDescriptor y.desc = some meth.sig)) = true) : (Jvm.Cond.code y bytes mx rt).before a s = true := by
  simp only [Bool.and_eq_true, beq_iff_eq, Bool.not_eq_true', decide_eq_true_eq] at h5
  obtain ⟨⟨⟨⟨⟨g1, g2⟩, g3⟩, g4⟩, g5⟩, g6⟩ := h5
  simp [Cond.before, Cond.holds, Cond.value, h1, h2, h3, h4, g1, g2, g3, g4, g5, g6]
def isCode : Jvm.Cond → Bool
  | .code _ _ _ _ => true
  | _ => false
theorem all_split {L : List Jvm.Cond} {P : Jvm.Cond → Bool} (h1 : L.all (fun c => isCode c || P c) = true) (h2 : ∀ c ∈ L.filter isCode, P c = true) : L.all P = true := by
  refine List.all_eq_true.mpr fun c hc => ?_
  have h := List.all_eq_true.mp h1 c hc
  rcases Bool.eq_false_or_eq_true (isCode c) with hi | hi
  · exact h2 c (List.mem_filter.mpr ⟨hc, hi⟩)
  · simpa [hi] using h
set_option maxRecDepth 65536 in
theorem w_c0 : (Jvm.Cond.code x code maxLocals ret).before args0 about1 = true := code_word (m := ⟨1, 1⟩) (meth := k1m1) (c := k1c1) (by decide +kernel) rfl rfl rfl (by decide +kernel)
set_option maxRecDepth 65536 in
theorem w_c1 : (Jvm.Cond.code ({ cls := "com/example/brisk_lookaside/brisklookaside/model/Exptime", name := "expiresAt", desc := "(JJ)J" } : Jvm.MethodName) prog_6_method_2_code (4 : Nat) (Option.some Jvm.ClassFile.FieldType.long)).before args0 about1 = true := code_word (m := ⟨2, 1⟩) (meth := k2m1) (c := k2c1) (by decide +kernel) rfl rfl rfl (by decide +kernel)
def codes1 : List Jvm.Cond := [Jvm.Cond.code x code maxLocals ret, Jvm.Cond.code ({ cls := "com/example/brisk_lookaside/brisklookaside/model/Exptime", name := "expiresAt", desc := "(JJ)J" } : Jvm.MethodName) prog_6_method_2_code (4 : Nat) (Option.some Jvm.ClassFile.FieldType.long)]
set_option maxRecDepth 65536 in
theorem codes_eq : words1.filter isCode = codes1 := rfl
theorem w_codes : ∀ c ∈ words1.filter isCode, c.before args0 about1 = true := by
  rw [codes_eq]
  intro c hc
  simp only [codes1, List.mem_cons, List.not_mem_nil, or_false] at hc
  rcases hc with rfl | rfl
  · exact w_c0
  · exact w_c1
set_option maxRecDepth 65536 in
theorem w_t1 : words1.all (fun c => isCode c || c.before args0 about1) = true := by decide +kernel
theorem w_tables : (allAtoms (Jvm.Cond.code x code maxLocals ret :: tables_1)).before args0 about1 = true := by
  rw [allAtoms_all]
  show words1.all (fun c => c.before args0 about1) = true
  refine all_split ?_ w_codes
  rw [w_t1]
set_option maxRecDepth 65536 in
theorem w_case : (Jvm.Cond.and given_1 narrow_1).before args0 about1 = true := by decide +kernel
theorem w_applies : (headSpec (Jvm.Cond.code x code maxLocals ret :: tables_1) room_1).applies x e0.platform about1 = true :=
  (Spec.applies_iff w_frames).mpr ⟨w_running, w_runnable, w_alone, w_named, w_hears, w_ripe, w_room, w_tables⟩
theorem atStart : AtStart classFile x code maxLocals ret World_1 tables_1 room_1 Calls_1 rest_1 Pre_1 launch0 p0 e0 about1 theMethod args0 below0 :=
  ⟨lists_1, trivial, launch0.admits_env _ _ _, launch0.least_env, fairChoices_fair.cas, fairChoices_fair.clock, w_frames, w_args, w_heap, w_applies, trivial, trivial, w_case⟩
end start1
theorem witness_1 : WitnessClaimed_1 := ⟨start1.p0, start1.e0, start1.about1, start1.theMethod, start1.args0, start1.below0, start1.atStart⟩
end Jvm.Pilot.@@N@@
