import JvmDerived
import JvmDerived.Pilot.@@N@@Statement
import JvmDerived.Pilot.@@N@@Code
set_option linter.unusedVariables false
set_option linter.unusedSimpArgs false
namespace Jvm.Pilot.@@N@@
open Jvm Jvm.ClassFile Sem Op Lib Jvm.Free Jvm.Stand Jvm.LawKit Jvm.RoadKit Bundle Jvm.Pilot.@@N@@.Jvm.D
section Own
variable {p : Program} {l : Launch} {e : Env} {R : Room} {s : State} {m : MethodId} {args : Array Value} {below : List Frame} {meth : Method} {c : Code} {T : State} {locs : List Loc} {cells slots : Nat} {Z : State} {a0 : Array Value} {h : Heap}
/-- the run from A ends by returning, Q holds of what it returned and of the heap, and no more than k cells and n slots are new -/
def OwnEnd (p : Program) (e : Env) (below : List Frame) (s : State) (Q : Option Value → Heap → List Loc → Prop) (k n : Nat) (A : State) : Prop :=
  ∃ t o, Steps p.tables e below A t ∧ t.status = .running ∧ Ended t below o ∧ ∃ v L, o = .returned v ∧ Q v t.heap L ∧ FrameEnd s o t L k n
theorem OwnEnd.go {Q : Option Value → Heap → List Loc → Prop} {k n : Nat} {A B : State} (st : ∀ t, Steps p.tables e below B t → Steps p.tables e below A t) (K : OwnEnd p e below s Q k n B) : OwnEnd p e below s Q k n A := by
  obtain ⟨t, o, h1, h2⟩ := K
  exact ⟨t, o, st t h1, h2⟩
theorem OwnEnd.stop {Q : Option Value → Heap → List Loc → Prop} {k n : Nat} {A : State} (X : Stand p l e R s m args below meth c T locs cells slots) (hlk : meth.locks = false) {v : Option Value} (hv : meth.sig.returnType = none → v = none)
    (st : ∀ fs, (∀ (f : JFrame) (acts : List Action), f.method = m → f.locked = none → f.entered = [] → (doReturn e (T.setTop f) acts v).1 = T.setFrames fs) → Steps p.tables e below A (T.setFrames fs))
    (hk : cells ≤ k) (hn : slots ≤ n) (hQ : Q v T.heap locs) : OwnEnd p e below s Q k n A := by
  obtain ⟨fs, hr, hrun, hended, hW, hsame⟩ := X.leave hv hlk
  exact ⟨_, _, st fs hr, hrun, hended, _, _, rfl, hQ, ⟨_, rfl⟩, hW, hsame.mono hk hn⟩
theorem OwnEnd.weak {Q Q' : Option Value → Heap → List Loc → Prop} {k n : Nat} {A : State} (K : OwnEnd p e below s Q k n A) (q : ∀ v h L, Q v h L → Q' v h L) : OwnEnd p e below s Q' k n A := by
  obtain ⟨t, o, h1, h2, h3, v, L, h4, h5, h6⟩ := K
  exact ⟨t, o, h1, h2, h3, v, L, h4, q _ _ _ h5, h6⟩
/-- the returns -/
theorem ownRetI {Q : Option Value → Heap → List Loc → Prop} {k n : Nat} (X : Stand p l e R s m args below meth c T locs cells slots) (hx : p.tables.exec = Jvm.exec) (hlk : meth.locks = false) {pc : Nat} {Ls : Array Slot} {z : Int32} {rest : List Value} (hret : meth.sig.returnType = some .int) (hd : decode c.code pc = .ok (.ireturn, 1))
    (hk : cells ≤ k) (hn : slots ≤ n) (hQ : Q (some (.int z)) T.heap locs) : OwnEnd p e below s Q k n (T.setTop (mkF m pc Ls (.int z :: rest))) :=
  OwnEnd.stop X hlk (fun q => by rw [hret] at q; cases q) (fun fs hr => retOut X hx hret rfl (Or.inl ⟨rfl, Or.inl rfl, z, rfl⟩) hd hr) hk hn hQ
theorem ownRetZ {Q : Option Value → Heap → List Loc → Prop} {k n : Nat} (X : Stand p l e R s m args below meth c T locs cells slots) (hx : p.tables.exec = Jvm.exec) (hlk : meth.locks = false) {pc : Nat} {Ls : Array Slot} {z : Int32} {rest : List Value} (hret : meth.sig.returnType = some .boolean) (hd : decode c.code pc = .ok (.ireturn, 1))
    (hk : cells ≤ k) (hn : slots ≤ n) (w : Int32) (hw : nar .boolean z = w) (hQ : Q (some (.int w)) T.heap locs) : OwnEnd p e below s Q k n (T.setTop (mkF m pc Ls (.int z :: rest))) :=
  OwnEnd.stop X hlk (fun q => by rw [hret] at q; cases q) (fun fs hr => retN X hx (t := .boolean) hret (by simp) hd (by rw [hw]; exact hr)) hk hn hQ
theorem ownRetJ {Q : Option Value → Heap → List Loc → Prop} {k n : Nat} (X : Stand p l e R s m args below meth c T locs cells slots) (hx : p.tables.exec = Jvm.exec) (hlk : meth.locks = false) {pc : Nat} {Ls : Array Slot} {z : Int64} {rest : List Value} (hret : meth.sig.returnType = some .long) (hd : decode c.code pc = .ok (.lreturn, 1))
    (hk : cells ≤ k) (hn : slots ≤ n) (hQ : Q (some (.long z)) T.heap locs) : OwnEnd p e below s Q k n (T.setTop (mkF m pc Ls (.long z :: rest))) :=
  OwnEnd.stop X hlk (fun q => by rw [hret] at q; cases q) (fun fs hr => retOut X hx hret rfl (Or.inr (Or.inl ⟨rfl, rfl, z, rfl⟩)) hd hr) hk hn hQ
theorem ownRetA {Q : Option Value → Heap → List Loc → Prop} {k n : Nat} (X : Stand p l e R s m args below meth c T locs cells slots) (hx : p.tables.exec = Jvm.exec) (hlk : meth.locks = false) {pc : Nat} {Ls : Array Slot} {w : Value} {rest : List Value} {t : FieldType} (hret : meth.sig.returnType = some t) (ht : t.isReference = true) (hw : w.isRef = true) (hn' : narrow t w = w) (hd : decode c.code pc = .ok (.areturn, 1))
    (hk : cells ≤ k) (hn : slots ≤ n) (hQ : Q (some w) T.heap locs) : OwnEnd p e below s Q k n (T.setTop (mkF m pc Ls (w :: rest))) :=
  OwnEnd.stop X hlk (fun q => by rw [hret] at q; cases q) (fun fs hr => retOut X hx hret hn' (Or.inr (Or.inr (Or.inr (Or.inr ⟨rfl, ht, hw⟩)))) hd hr) hk hn hQ
theorem ownRetV {Q : Option Value → Heap → List Loc → Prop} {k n : Nat} (X : Stand p l e R s m args below meth c T locs cells slots) (hx : p.tables.exec = Jvm.exec) (hlk : meth.locks = false) {pc : Nat} {Ls : Array Slot} (hret : meth.sig.returnType = none) (hd : decode c.code pc = .ok (.return_, 1))
    (hk : cells ≤ k) (hn : slots ≤ n) (hQ : Q none T.heap locs) : OwnEnd p e below s Q k n (T.setTop (mkF m pc Ls [])) :=
  OwnEnd.stop X hlk (fun _ => rfl) (fun fs hr => X.returnOut hx hret hd hr) hk hn hQ
/-- the calls, each by the callee's own theorem -/
theorem ownCallS (X : Stand p l e R s m args below meth c T locs cells slots) (hx : p.tables.exec = Jvm.exec) (hZ : Z.Warmed39 s.vm) {own : String} {index : Nat} {y : MethodName} {bytes : ByteArray} {maxL : Nat} {ret : Option FieldType} {rm : Room} {as' : Array Value} {Q : Option Value → Heap → List Loc → Prop} (hown : s.vm.findClass own = some m.cls)
    (w1 : (Cond.methodLink own index y).before a0 Z = true) (w2 : (Cond.static y).before a0 Z = true) (w3 : (Cond.initialized y.cls).before a0 Z = true) (w4 : (Cond.code y bytes maxL ret).before a0 Z = true) (hy : y.cls ≠ "java/lang/invoke/MethodHandle" ∧ y.cls ≠ "java/lang/invoke/VarHandle")
    (hM : MetFree l y (head1 [Cond.code y bytes maxL ret] rm) (fun a U => a = as' ∧ Z.Warmed39 U.vm ∧ U.heap = h) (fun _ _ _ _ _ => True) (fun _ U o U' => ∃ v L, o = .returned v ∧ Q v U'.heap L ∧ FrameEnd U o U' L rm.cells rm.slots)) (eT : T.heap = h)
    (W : Nat) (hf : rm.frames + 1 ≤ R.frames) (hl : W + (maxL + 11) + rm.locals ≤ R.locals) (hc : cells + rm.cells ≤ R.cells) (hs : slots + rm.slots ≤ R.slots) {g : JFrame} (hg : g.method = m) (hsize : g.locals.size = c.maxLocals) {argsL rest : List Value} (hlen : ∀ sig, parseMethodDescriptor y.desc = some sig → argsL.length = sig.parameters.length)
    (hstack : g.stack = argsL.reverse ++ rest) (has : argsL.toArray = as') (hW : 2 * g.monitorRoom + (rest.map fun v => v.category).sum ≤ W) (hdg : decode c.code g.pc = .ok (.invokestatic index, 3)) :
    ∃ (v : Option Value) (T' : State) (L : List Loc), Stand p l e R s m args below meth c T' (locs ++ L) (cells + rm.cells) (slots + rm.slots) ∧ Q v T'.heap L ∧ ∀ target, Steps p.tables e below (T'.setTop { g with pc := g.pc + 3, stack := v.toList ++ rest }) target → Steps p.tables e below (T.setTop g) target := by
  obtain ⟨v, vm₁, ⟨T', L', k', n'⟩, -, X', ⟨L, hQ, l', y', z'⟩, st⟩ := Jvm.LawKit.callS X hx hown (mvT hZ w1) (mvT hZ w2) (mvT hZ w3) (mvT hZ w4) hy (backOf (W := W) hM hZ w4 w3 hf hl) hg hsize hlen hstack hW hdg (fun _ _ => ⟨has, eT, hc, hs⟩)
  dsimp only [Pt.U, Pt.locs, Pt.cells, Pt.slots] at X' l' y' z' st hQ
  subst l' y' z'
  exact ⟨v, T', L, X', hQ, st⟩
theorem ownCallV (X : Stand p l e R s m args below meth c T locs cells slots) (hx : p.tables.exec = Jvm.exec) (hZ : Z.Warmed39 s.vm) {own C : String} {index : Nat} {y : MethodName} {bytes : ByteArray} {maxL : Nat} {ret : Option FieldType} {rm : Room} {as' : Array Value} {Q : Option Value → Heap → List Loc → Prop} (hown : s.vm.findClass own = some m.cls)
    (w1 : (Cond.methodLink own index y).before a0 Z = true) (w2 : (Cond.declares y).before a0 Z = true) (w5 : (Cond.selects C y y).before a0 Z = true) (w6 : (Cond.instanceMethod y).before a0 Z = true) (w3 : (Cond.initialized y.cls).before a0 Z = true) (w4 : (Cond.code y bytes maxL ret).before a0 Z = true) (hy : y.cls ≠ "java/lang/invoke/MethodHandle" ∧ y.cls ≠ "java/lang/invoke/VarHandle")
    (hM : MetFree l y (head1 [Cond.code y bytes maxL ret] rm) (fun a U => a = as' ∧ Z.Warmed39 U.vm ∧ U.heap = h) (fun _ _ _ _ _ => True) (fun _ U o U' => ∃ v L, o = .returned v ∧ Q v U'.heap L ∧ FrameEnd U o U' L rm.cells rm.slots)) (eT : T.heap = h) {b : Addr} (E : Exa Z h b C)
    (W : Nat) (hf : rm.frames + 1 ≤ R.frames) (hl : W + (maxL + 11) + rm.locals ≤ R.locals) (hc : cells + rm.cells ≤ R.cells) (hs : slots + rm.slots ≤ R.slots) {g : JFrame} (hg : g.method = m) (hsize : g.locals.size = c.maxLocals) {argsL rest : List Value} (hlen : ∀ sig, parseMethodDescriptor y.desc = some sig → argsL.length = sig.parameters.length)
    (hstack : g.stack = argsL.reverse ++ .ref b :: rest) (has : (.ref b :: argsL).toArray = as') (hW : 2 * g.monitorRoom + (rest.map fun v => v.category).sum ≤ W) (hdg : decode c.code g.pc = .ok (.invokevirtual index, 3)) :
    ∃ (v : Option Value) (T' : State) (L : List Loc), Stand p l e R s m args below meth c T' (locs ++ L) (cells + rm.cells) (slots + rm.slots) ∧ Q v T'.heap L ∧ ∀ target, Steps p.tables e below (T'.setTop { g with pc := g.pc + 3, stack := v.toList ++ rest }) target → Steps p.tables e below (T.setTop g) target := by
  obtain ⟨cq, kq, qa, qb, qc⟩ := isOf hZ eT E
  obtain ⟨v, vm₁, ⟨T', L', k', n'⟩, -, X', ⟨L, hQ, l', y', z'⟩, st⟩ := X.virtualBack hx hown (mvT hZ w1) (mvT hZ w2) (notFace_of_selects (args := #[]) (mvT hZ w5)) (mvT hZ w5) (mvT hZ w6) hy (backOf (W := W) hM hZ w4 w3 hf hl) qa qc hg hsize (Steps.refl _) hlen hstack hW hdg (fun _ _ => ⟨has, eT, hc, hs⟩)
  dsimp only [Pt.U, Pt.locs, Pt.cells, Pt.slots] at X' l' y' z' st hQ
  subst l' y' z'
  exact ⟨v, T', L, X', hQ, fun _ k => st.trans k⟩
theorem ownCallI (X : Stand p l e R s m args below meth c T locs cells slots) (hx : p.tables.exec = Jvm.exec) (hZ : Z.Warmed39 s.vm) {own : String} {index : Nat} {y : MethodName} {bytes : ByteArray} {maxL : Nat} {rm : Room} {as' : Array Value} {Q : Option Value → Heap → List Loc → Prop} (hown : s.vm.findClass own = some m.cls) (hy1 : y.name = "<init>")
    (w1 : (Cond.methodLink own index y).before a0 Z = true) (w6 : (Cond.instanceMethod y).before a0 Z = true) (w3 : (Cond.initialized y.cls).before a0 Z = true) (w4 : (Cond.code y bytes maxL none).before a0 Z = true) (hy : y.cls ≠ "java/lang/invoke/MethodHandle" ∧ y.cls ≠ "java/lang/invoke/VarHandle")
    (hM : MetFree l y (head1 [Cond.code y bytes maxL none] rm) (fun a U => a = as' ∧ Z.Warmed39 U.vm ∧ U.heap = h) (fun _ _ _ _ _ => True) (fun _ U o U' => ∃ v L, o = .returned v ∧ Q v U'.heap L ∧ FrameEnd U o U' L rm.cells rm.slots)) (eT : T.heap = h) {b : Addr}
    (W : Nat) (hf : rm.frames + 1 ≤ R.frames) (hl : W + (maxL + 11) + rm.locals ≤ R.locals) (hc : cells + rm.cells ≤ R.cells) (hs : slots + rm.slots ≤ R.slots) {g : JFrame} (hg : g.method = m) (hsize : g.locals.size = c.maxLocals) {argsL rest : List Value} (hlen : ∀ sig, parseMethodDescriptor y.desc = some sig → argsL.length = sig.parameters.length)
    (hstack : g.stack = argsL.reverse ++ .ref b :: rest) (has : (.ref b :: argsL).toArray = as') (hW : 2 * g.monitorRoom + (rest.map fun v => v.category).sum ≤ W) (hdg : decode c.code g.pc = .ok (.invokespecial index, 3)) :
    ∃ (v : Option Value) (T' : State) (L : List Loc), Stand p l e R s m args below meth c T' (locs ++ L) (cells + rm.cells) (slots + rm.slots) ∧ Q v T'.heap L ∧ ∀ target, Steps p.tables e below (T'.setTop { g with pc := g.pc + 3, stack := v.toList ++ rest }) target → Steps p.tables e below (T.setTop g) target := by
  obtain ⟨v, vm₁, ⟨T', L', k', n'⟩, -, X', ⟨L, hQ, l', y', z'⟩, st⟩ := X.specialBack hx hy1 hown (mvT hZ w1) (mvT hZ w6) (mvT hZ w4) hy (backOf (W := W) hM hZ w4 w3 hf hl) hg hsize (Steps.refl _) hlen hstack hW hdg (fun _ _ => ⟨has, eT, hc, hs⟩)
  dsimp only [Pt.U, Pt.locs, Pt.cells, Pt.slots] at X' l' y' z' st hQ
  subst l' y' z'
  exact ⟨v, T', L, X', hQ, fun _ k => st.trans k⟩
end Own
section Own2
variable {p : Program} {l : Launch} {e : Env} {R : Room} {s : State} {m : MethodId} {args : Array Value} {below : List Frame} {meth : Method} {c : Code} {T : State} {locs : List Loc} {cells slots : Nat} {Z : State} {a0 : Array Value} {h : Heap}
/-- branches behind lcmp -/
theorem ownLt {x y : Int64} (q : x < y) : ifCond.holds .lt (lcmpW x y) = true ∧ ifCond.holds .ge (lcmpW x y) = false ∧ ifCond.holds .gt (lcmpW y x) = true ∧ ifCond.holds .le (lcmpW y x) = false := by
  simp only [if0]
  have h1 : lcmpW x y < 0 := by rw [lcW]; exact (lc_lt x y).2 q
  have h2 : 0 < lcmpW y x := by rw [lcW]; exact (lc_gt y x).2 q
  exact ⟨(tlt h1).1, (tlt h1).2.1, (tlt h2).2.2.1, (tlt h2).2.2.2⟩
theorem ownNlt {x y : Int64} (q : ¬ x < y) : ifCond.holds .lt (lcmpW x y) = false ∧ ifCond.holds .ge (lcmpW x y) = true ∧ ifCond.holds .gt (lcmpW y x) = false ∧ ifCond.holds .le (lcmpW y x) = true := by
  simp only [if0]
  have h1 : ¬ lcmpW x y < 0 := by rw [lcW]; exact fun z => q ((lc_lt x y).1 z)
  have h2 : ¬ 0 < lcmpW y x := by rw [lcW]; exact fun z => q ((lc_gt y x).1 z)
  exact ⟨(flt h1).1, (flt h1).2.1, (flt h2).2.2.1, (flt h2).2.2.2⟩
theorem ownEq {x y : Int64} (q : x = y) : ifCond.holds .eq (lcmpW x y) = true ∧ ifCond.holds .ne (lcmpW x y) = false := by
  simp only [if0]
  have h1 : lcmpW x y = 0 := by rw [lcW]; exact (lc_eq x y).2 q
  exact teq h1
theorem ownNeq {x y : Int64} (q : ¬ x = y) : ifCond.holds .eq (lcmpW x y) = false ∧ ifCond.holds .ne (lcmpW x y) = true := by
  simp only [if0]
  have h1 : ¬ lcmpW x y = 0 := by rw [lcW]; exact fun z => q ((lc_eq x y).1 z)
  exact feq h1
theorem ownLrem {tb : Tables} [Ours tb] {e : Env} {below : List Frame} {T target : State} {m : MethodId} {c : Code} {g : JFrame} (h : At T m c below) (hx : tb.exec = Jvm.exec) (hg : g.method = m) {x y : Int64} {rest : List Value} (hd : decode c.code g.pc = .ok (.lrem, 1)) (hs : g.stack = .long y :: .long x :: rest) (hy : y ≠ 0)
    (hr : Steps tb e below (T.setTop { g with pc := g.pc + 1, stack := .long (x % y) :: rest }) target) : Steps tb e below (T.setTop g) target :=
  XS.lrem h hx hg hd hs hy (by rw [lrem_mod]; exact hr)
theorem ownLen (X : Stand p l e R s m args below meth c T locs cells slots) (hx : p.tables.exec = Jvm.exec) (hZ : Z.Warmed39 s.vm) (eT : T.heap = h) {a : Addr} {cl : Cell} {ty : FieldType} {z : Int32} (A : Arr Z h a cl ty) (S : cl.slots.size = z.toNatClampNeg) (q : ¬ z < 0) {g : JFrame} (hg : g.method = m) {rest : List Value} (hs : g.stack = .ref a :: rest) (hd : decode c.code g.pc = .ok (.arraylength, 1)) :
    ∀ target, Steps p.tables e below (T.setTop { g with pc := g.pc + 1, stack := .int z :: rest }) target → Steps p.tables e below (T.setTop g) target := fun target k =>
  X.arraylength hx (by rw [eT]; exact A.1) (State.isArrayOf_alike hZ.alike A.2.1) hg hs hd target (by rw [len_of S q]; exact k)
theorem ownOrd {C f d : String} {a : Addr} {v : Int32} {args : Array Value} (ev : (Term.static C f d).eval args Z none [] Z = some (.ref a)) (hq : (Jvm.Cond.eq (Term.field (Term.static C f d) "java/lang/Enum" "ordinal" "I") (Term.int v)).value args Z none Z [] = some true) : Fld Z Z.heap a "java/lang/Enum" "ordinal" "I" (.int v) := by
  obtain ⟨x, y, h1, h2, h3, h4⟩ := cmp_v (Or.inl hq)
  rw [fld_at ev] at h1
  cases h2
  obtain ⟨z, rfl⟩ := h4
  have h5 : (Term.field (Term.static C f d) "java/lang/Enum" "ordinal" "I").eval args Z none [] Z = some (.int z) := by rw [fld_at ev]; exact h1
  have : z = v := gotT (Cond.eq_ints h5 (Term.int_eval v)) hq
  subst this
  exact Fld.start h1
end Own2
section Own3
variable {p : Program} {l : Launch} {e : Env} {R : Room} {s : State} {m : MethodId} {args : Array Value} {below : List Frame} {meth : Method} {c : Code} {T : State} {locs : List Loc} {cells slots : Nat} {Z : State} {a0 : Array Value} {h : Heap}
/-- two ways that come to one place, the heap as it was -/
def ownDia {α : Type} (X : Stand p l e R s m args below meth c T locs cells slots) (h : Heap) (P : α → Prop) (f : α → JFrame) (g : JFrame) : Prop :=
  ∃ (T' : State) (v : α), Stand p l e R s m args below meth c T' locs cells slots ∧ T'.heap = h ∧ P v ∧ ∀ t, Steps p.tables e below (T'.setTop (f v)) t → Steps p.tables e below (T.setTop g) t
end Own3

def own_isat (rc o t : Int32) : Int32 := if rc = o + (1 : Int32) + t then 1 else 0
theorem own_isat_t {rc o t : Int32} (h : rc = o + (1 : Int32) + t) : own_isat rc o t = 1 := by unfold own_isat; rw [if_pos h]
theorem own_isat_f {rc o t : Int32} (h : ¬ rc = o + (1 : Int32) + t) : own_isat rc o t = 0 := by unfold own_isat; rw [if_neg h]

theorem own_h0 (r : Int32) : r + (1 : Int32) = r + (1 : Int32) + (0 : Int32) := by grind
theorem own_h1 {rc o t : Int32} (h : rc = o + (1 : Int32) + t) : rc + (1 : Int32) = o + (1 : Int32) + (t + (1 : Int32)) := by grind
theorem own_f0 {rc o t m k : Int32} (h : rc = o + (1 : Int32) + t) : rc + m = o + (1 : Int32) + (t + k) ↔ m - k = (0 : Int32) := by constructor <;> intro q <;> grind
theorem own_f1 {rc o t m k : Int32} (h : rc = o + (1 : Int32) + t) : (rc + m) + (1 : Int32) = o + (1 : Int32) + (t + k) ↔ (m - k) + (1 : Int32) = (0 : Int32) := by constructor <;> intro q <;> grind
theorem own_f2 {rc o t m k : Int32} (h : rc = o + (1 : Int32) + t) : ((rc + m) + (1 : Int32)) + (1 : Int32) = o + (1 : Int32) + (t + k) ↔ (m - k) + (2 : Int32) = (0 : Int32) := by constructor <;> intro q <;> grind
theorem own_f3 {rc o t m k : Int32} (h : rc = o + (1 : Int32) + t) : (rc + m) + (1 : Int32) = o + (1 : Int32) + ((t + k) + (1 : Int32)) ↔ m - k = (0 : Int32) := by constructor <;> intro q <;> grind

def ownTS (Z : State) (h : Heap) (n0 : Nat) (a bo bt : Addr) (rc dp o0 o1 t0 t1 er es ea : Int32) : Prop := n0 ≤ a ∧ n0 ≤ bo ∧ n0 ≤ bt ∧ a ≠ bo ∧ a ≠ bt ∧ bo ≠ bt ∧ Exa Z h a "com/example/rewoven_tree/rewoventree/storage/TableShape" ∧ Fld Z h a "com/example/rewoven_tree/rewoventree/storage/TableShape" "open" "[I" (.ref bo) ∧ Fld Z h a "com/example/rewoven_tree/rewoventree/storage/TableShape" "attributes" "[I" (.ref bt) ∧ Fld Z h a "com/example/rewoven_tree/rewoventree/storage/TableShape" "rowCount" "I" (.int rc) ∧ Fld Z h a "com/example/rewoven_tree/rewoventree/storage/TableShape" "depth" "I" (.int dp) ∧ (∃ di : Int32, Fld Z h a "com/example/rewoven_tree/rewoventree/storage/TableShape" "distance" "I" (.int di)) ∧ Fld Z h a "com/example/rewoven_tree/rewoventree/storage/TableShape" "endedRow" "I" (.int er) ∧ Fld Z h a "com/example/rewoven_tree/rewoventree/storage/TableShape" "endedSize" "I" (.int es) ∧ Fld Z h a "com/example/rewoven_tree/rewoventree/storage/TableShape" "endedAttributes" "I" (.int ea) ∧ (∃ k : ClassId, Arv Z h bo k .int (8 : Int32) [(.int o0), (.int o1), (.int (0 : Int32)), (.int (0 : Int32)), (.int (0 : Int32)), (.int (0 : Int32)), (.int (0 : Int32)), (.int (0 : Int32))] (.int (0 : Int32))) ∧ (∃ k : ClassId, Arv Z h bt k .int (8 : Int32) [(.int t0), (.int t1), (.int (0 : Int32)), (.int (0 : Int32)), (.int (0 : Int32)), (.int (0 : Int32)), (.int (0 : Int32)), (.int (0 : Int32))] (.int (0 : Int32)))
theorem d1_0 : decode method_2_code 0 = .ok (.iload_n 0, 1) := by decide +kernel
theorem d1_1 : decode method_2_code 1 = .ok (.ldc 7, 2) := by decide +kernel
theorem d1_3 : decode method_2_code 3 = .ok (.iand, 1) := by decide +kernel
theorem d1_4 : decode method_2_code 4 = .ok (.iconst 5, 1) := by decide +kernel
theorem d1_5 : decode method_2_code 5 = .ok (.irem, 1) := by decide +kernel
theorem d1_6 : decode method_2_code 6 = .ok (.istore_n 1, 1) := by decide +kernel
theorem d1_7 : decode method_2_code 7 = .ok (.iload_n 1, 1) := by decide +kernel
theorem d1_8 : decode method_2_code 8 = .ok (.ifCond .ne 7, 3) := by decide +kernel
theorem d1_11 : decode method_2_code 11 = .ok (.getstatic 8, 3) := by decide +kernel
theorem d1_14 : decode method_2_code 14 = .ok (.areturn, 1) := by decide +kernel
theorem d1_15 : decode method_2_code 15 = .ok (.iload_n 1, 1) := by decide +kernel
theorem d1_16 : decode method_2_code 16 = .ok (.iconst 1, 1) := by decide +kernel
theorem d1_17 : decode method_2_code 17 = .ok (.if_icmp .ne 7, 3) := by decide +kernel
theorem d1_20 : decode method_2_code 20 = .ok (.getstatic 14, 3) := by decide +kernel
theorem d1_23 : decode method_2_code 23 = .ok (.areturn, 1) := by decide +kernel
theorem d1_24 : decode method_2_code 24 = .ok (.iload_n 1, 1) := by decide +kernel
theorem d1_25 : decode method_2_code 25 = .ok (.iconst 2, 1) := by decide +kernel
theorem d1_26 : decode method_2_code 26 = .ok (.if_icmp .ne 7, 3) := by decide +kernel
theorem d1_29 : decode method_2_code 29 = .ok (.getstatic 17, 3) := by decide +kernel
theorem d1_32 : decode method_2_code 32 = .ok (.areturn, 1) := by decide +kernel
theorem d1_33 : decode method_2_code 33 = .ok (.iload_n 1, 1) := by decide +kernel
theorem d1_34 : decode method_2_code 34 = .ok (.iconst 3, 1) := by decide +kernel
theorem d1_35 : decode method_2_code 35 = .ok (.if_icmp .ne 7, 3) := by decide +kernel
theorem d1_38 : decode method_2_code 38 = .ok (.getstatic 20, 3) := by decide +kernel
theorem d1_41 : decode method_2_code 41 = .ok (.areturn, 1) := by decide +kernel
theorem d1_42 : decode method_2_code 42 = .ok (.getstatic 23, 3) := by decide +kernel
theorem d1_45 : decode method_2_code 45 = .ok (.areturn, 1) := by decide +kernel
theorem pn_1 : plainName "com/example/rewoven_tree/rewoventree/storage/TableShapeIsAtAttributesPinLaw" = true := by first | (simp [plainName, overriddenIn]; done) | decide +kernel
theorem ef_1 (m : MethodId) (x0 : Int32) : entryFrame m #[(.int x0)] 2 = mkF m 0 #[.val (.int x0), .unset] [] := by first | (simp [entryFrame, mkF, argsToLocals, Value.category]; done) | rfl
def Q1 (Z : State) (p1 : Int32) (a_ATTRIBUTE : Addr) (a_TEXT : Addr) (a_COMMENT : Addr) (a_PROCESSING_INSTRUCTION : Addr) (a_NAMESPACE : Addr) (a_ELEMENT : Addr) (a_DOCUMENT : Addr) (h0 : Heap) (n0 : Nat) (v : Option Value) (h : Heap) (L : List Loc) : Prop := ∃ (xr : Addr), v = some (.ref xr) ∧ Fr n0 L ∧ h = h0 ∧ xr ≠ a_ELEMENT ∧ xr ≠ a_DOCUMENT
set_option maxRecDepth 65536 in
set_option maxHeartbeats 40000000 in
theorem rm1 (l : Launch) (Z : State) (a0 : Array Value) (hw : ∀ d ∈ tables_1, d.before a0 Z = true) (ws : List Jvm.Cond) (p1 : Int32) (a_ATTRIBUTE : Addr) (a_TEXT : Addr) (a_COMMENT : Addr) (a_PROCESSING_INSTRUCTION : Addr) (a_NAMESPACE : Addr) (a_ELEMENT : Addr) (a_DOCUMENT : Addr) (h0 : Heap) (n0 : Nat) (Z0 : n0 ≤ h0.size) (O0 : Old Z n0 h0) (S_ATTRIBUTE : Sta Z Z.heap "com/example/rewoven_tree/rewoventree/storage/NodeKind" "ATTRIBUTE" "Lcom/example/rewoven_tree/rewoventree/storage/NodeKind;" (.ref a_ATTRIBUTE)) (S_TEXT : Sta Z Z.heap "com/example/rewoven_tree/rewoventree/storage/NodeKind" "TEXT" "Lcom/example/rewoven_tree/rewoventree/storage/NodeKind;" (.ref a_TEXT)) (S_COMMENT : Sta Z Z.heap "com/example/rewoven_tree/rewoventree/storage/NodeKind" "COMMENT" "Lcom/example/rewoven_tree/rewoventree/storage/NodeKind;" (.ref a_COMMENT)) (S_PROCESSING_INSTRUCTION : Sta Z Z.heap "com/example/rewoven_tree/rewoventree/storage/NodeKind" "PROCESSING_INSTRUCTION" "Lcom/example/rewoven_tree/rewoventree/storage/NodeKind;" (.ref a_PROCESSING_INSTRUCTION)) (S_NAMESPACE : Sta Z Z.heap "com/example/rewoven_tree/rewoventree/storage/NodeKind" "NAMESPACE" "Lcom/example/rewoven_tree/rewoventree/storage/NodeKind;" (.ref a_NAMESPACE)) (n_ATTRIBUTE_ELEMENT : a_ATTRIBUTE ≠ a_ELEMENT) (n_ATTRIBUTE_DOCUMENT : a_ATTRIBUTE ≠ a_DOCUMENT) (n_TEXT_ELEMENT : a_TEXT ≠ a_ELEMENT) (n_TEXT_DOCUMENT : a_TEXT ≠ a_DOCUMENT) (n_COMMENT_ELEMENT : a_COMMENT ≠ a_ELEMENT) (n_COMMENT_DOCUMENT : a_COMMENT ≠ a_DOCUMENT) (n_PROCESSING_INSTRUCTION_ELEMENT : a_PROCESSING_INSTRUCTION ≠ a_ELEMENT) (n_PROCESSING_INSTRUCTION_DOCUMENT : a_PROCESSING_INSTRUCTION ≠ a_DOCUMENT) (n_NAMESPACE_ELEMENT : a_NAMESPACE ≠ a_ELEMENT) (n_NAMESPACE_DOCUMENT : a_NAMESPACE ≠ a_DOCUMENT) :
    MetFree l (⟨"com/example/rewoven_tree/rewoventree/storage/TableShapeIsAtAttributesPinLaw", "leaf", "(I)Lcom/example/rewoven_tree/rewoventree/storage/NodeKind;"⟩ : MethodName) (head1 (Jvm.Cond.code (⟨"com/example/rewoven_tree/rewoventree/storage/TableShapeIsAtAttributesPinLaw", "leaf", "(I)Lcom/example/rewoven_tree/rewoventree/storage/NodeKind;"⟩ : MethodName) method_2_code 2 (some (.object "com/example/rewoven_tree/rewoventree/storage/NodeKind")) :: ws) ({ frames := 0, cells := 0, slots := 0, locals := 0 } : Room)) (fun a U => a = #[(.int p1)] ∧ Z.Warmed39 U.vm ∧ U.heap = h0) (fun _ _ _ _ _ => True) (fun _ U o U' => ∃ v L, o = .returned v ∧ Q1 Z p1 a_ATTRIBUTE a_TEXT a_COMMENT a_PROCESSING_INSTRUCTION a_NAMESPACE a_ELEMENT a_DOCUMENT h0 n0 v U'.heap L ∧ FrameEnd U o U' L ({ frames := 0, cells := 0, slots := 0, locals := 0 } : Room).cells ({ frames := 0, cells := 0, slots := 0, locals := 0 } : Room).slots) := by
  have ww7 := hw _ (List.mem_of_getElem? (i := 7) rfl)
  have ww8 := hw _ (List.mem_of_getElem? (i := 8) rfl)
  have ww71 := hw _ (List.mem_of_getElem? (i := 71) rfl)
  have ww73 := hw _ (List.mem_of_getElem? (i := 73) rfl)
  have ww75 := hw _ (List.mem_of_getElem? (i := 75) rfl)
  have ww77 := hw _ (List.mem_of_getElem? (i := 77) rfl)
  refine MetFree.of_bodySF (plainFor_of_name pn_1) hisR ?_
  intro p e s m args below meth c s₁ Bd hml0 hP hK
  obtain ⟨rfl, hZ, hh⟩ := hP
  have hx := Bd.exec
  have hby := Bd.bytes
  have hlk : meth.locks = false := Bd.notSynchronized
  have hret := Bd.returns
  have hml : c.maxLocals = 2 := hml0
  have hown : s.vm.findClass "com/example/rewoven_tree/rewoventree/storage/TableShapeIsAtAttributesPinLaw" = some m.cls := findClass_of_methodNamed Bd.named
  have hnm := (name_of_methodNamed Bd.named Bd.method).1
  have X0 : Stand p l e ({ frames := 0, cells := 0, slots := 0, locals := 0 } : Room) s m #[(.int p1)] below meth c s₁ [] 0 0 := Stand.of_body Bd
  have e0 : s₁.heap = h0 := by rw [← hh, Bd.state]; rfl
  have N0 := Fr.nil n0
  have K0 := Keep.refl h0 []
  show OwnEnd p e below s (Q1 Z p1 a_ATTRIBUTE a_TEXT a_COMMENT a_PROCESSING_INSTRUCTION a_NAMESPACE a_ELEMENT a_DOCUMENT h0 n0) ({ frames := 0, cells := 0, slots := 0, locals := 0 } : Room).cells ({ frames := 0, cells := 0, slots := 0, locals := 0 } : Room).slots _
  refine OwnEnd.go (fun _ k => castTop (ef_1 m p1) k) ?_
  show OwnEnd p e below s _ _ _ (s₁.setTop (mkF m 0 #[.val (.int p1), .unset] []))
  refine OwnEnd.go (fun _ k => XS.iloadN X0.here hx rfl (hb hby d1_0) rfl  k) ?_
  show OwnEnd p e below s _ _ _ (s₁.setTop (mkF m 1 #[.val (.int p1), .unset] [(.int p1)]))
  refine OwnEnd.go (fun _ k => X0.ldcI hx hown (mvT hZ ww7) (g := (mkF m 1 #[.val (.int p1), .unset] [(.int p1)])) rfl (hb hby d1_1) k) ?_
  show OwnEnd p e below s _ _ _ (s₁.setTop (mkF m 3 #[.val (.int p1), .unset] [(.int (2147483647 : Int32)), (.int p1)]))
  refine OwnEnd.go (fun _ k => XS.iand X0.here hx rfl (hb hby d1_3) rfl k) ?_
  show OwnEnd p e below s _ _ _ (s₁.setTop (mkF m 4 #[.val (.int p1), .unset] [(.int (p1 &&& (2147483647 : Int32)))]))
  refine OwnEnd.go (fun _ k => XS.iconst X0.here hx rfl (hb hby d1_4) k) ?_
  show OwnEnd p e below s _ _ _ (s₁.setTop (mkF m 5 #[.val (.int p1), .unset] [(.int (5 : Int32)), (.int (p1 &&& (2147483647 : Int32)))]))
  refine OwnEnd.go (fun _ k => iremM X0 hx rfl (hb hby d1_5) rfl (by decide) k) ?_
  show OwnEnd p e below s _ _ _ (s₁.setTop (mkF m 6 #[.val (.int p1), .unset] [(.int ((p1 &&& (2147483647 : Int32)) % (5 : Int32)))]))
  refine OwnEnd.go (fun _ k => XS.istoreN X0.here hx rfl (hb hby d1_6) rfl  (l' := #[.val (.int p1), .val (.int ((p1 &&& (2147483647 : Int32)) % (5 : Int32)))]) rfl k) ?_
  show OwnEnd p e below s _ _ _ (s₁.setTop (mkF m 7 #[.val (.int p1), .val (.int ((p1 &&& (2147483647 : Int32)) % (5 : Int32)))] []))
  refine OwnEnd.go (fun _ k => XS.iloadN X0.here hx rfl (hb hby d1_7) rfl  k) ?_
  show OwnEnd p e below s _ _ _ (s₁.setTop (mkF m 8 #[.val (.int p1), .val (.int ((p1 &&& (2147483647 : Int32)) % (5 : Int32)))] [(.int ((p1 &&& (2147483647 : Int32)) % (5 : Int32)))]))
  by_cases hc101 : ((p1 &&& (2147483647 : Int32)) % (5 : Int32)) = (0 : Int32)
  · refine OwnEnd.go (fun _ k => XS.ifNo X0.here hx rfl (hb hby d1_8) rfl ((if0 _ _).trans (teq hc101).2) k) ?_
    show OwnEnd p e below s _ _ _ (s₁.setTop (mkF m 11 #[.val (.int p1), .val (.int ((p1 &&& (2147483647 : Int32)) % (5 : Int32)))] []))
    obtain ⟨T102, X102, e102, st102⟩ := getS2 X0 hx hZ hown (host := "") (Or.inl ww8) Via.refl e0 (S_ATTRIBUTE.ext O0.2) (g := (mkF m 11 #[.val (.int p1), .val (.int ((p1 &&& (2147483647 : Int32)) % (5 : Int32)))] [])) rfl (hb hby d1_11)
    refine OwnEnd.go (fun _ k => st102 _ k) ?_
    show OwnEnd p e below s _ _ _ (T102.setTop (mkF m 14 #[.val (.int p1), .val (.int ((p1 &&& (2147483647 : Int32)) % (5 : Int32)))] [(.ref a_ATTRIBUTE)]))
    refine ownRetA X102 hx hlk hret rfl rfl rfl (hb hby d1_14) (by decide) (by decide) ?_
    show Q1 Z p1 a_ATTRIBUTE a_TEXT a_COMMENT a_PROCESSING_INSTRUCTION a_NAMESPACE a_ELEMENT a_DOCUMENT h0 n0 _ T102.heap _
    rw [e102]
    exact ⟨_, rfl, N0, rfl, n_ATTRIBUTE_ELEMENT, n_ATTRIBUTE_DOCUMENT⟩
  · refine OwnEnd.go (fun _ k => XS.ifYes X0.here hx rfl (pc0 := 8) (pc' := 15) rfl (hb hby d1_8) rfl ((if0 _ _).trans (feq hc101).2) (by decide) (by decide) k) ?_
    show OwnEnd p e below s _ _ _ (s₁.setTop (mkF m 15 #[.val (.int p1), .val (.int ((p1 &&& (2147483647 : Int32)) % (5 : Int32)))] []))
    refine OwnEnd.go (fun _ k => XS.iloadN X0.here hx rfl (hb hby d1_15) rfl  k) ?_
    show OwnEnd p e below s _ _ _ (s₁.setTop (mkF m 16 #[.val (.int p1), .val (.int ((p1 &&& (2147483647 : Int32)) % (5 : Int32)))] [(.int ((p1 &&& (2147483647 : Int32)) % (5 : Int32)))]))
    refine OwnEnd.go (fun _ k => XS.iconst X0.here hx rfl (hb hby d1_16) k) ?_
    show OwnEnd p e below s _ _ _ (s₁.setTop (mkF m 17 #[.val (.int p1), .val (.int ((p1 &&& (2147483647 : Int32)) % (5 : Int32)))] [(.int (1 : Int32)), (.int ((p1 &&& (2147483647 : Int32)) % (5 : Int32)))]))
    by_cases hc103 : ((p1 &&& (2147483647 : Int32)) % (5 : Int32)) = (1 : Int32)
    · refine OwnEnd.go (fun _ k => XS.icmpNo X0.here hx rfl (hb hby d1_17) rfl (teq hc103).2 k) ?_
      show OwnEnd p e below s _ _ _ (s₁.setTop (mkF m 20 #[.val (.int p1), .val (.int ((p1 &&& (2147483647 : Int32)) % (5 : Int32)))] []))
      obtain ⟨T104, X104, e104, st104⟩ := getS2 X0 hx hZ hown (host := "") (Or.inl ww77) Via.refl e0 (S_TEXT.ext O0.2) (g := (mkF m 20 #[.val (.int p1), .val (.int ((p1 &&& (2147483647 : Int32)) % (5 : Int32)))] [])) rfl (hb hby d1_20)
      refine OwnEnd.go (fun _ k => st104 _ k) ?_
      show OwnEnd p e below s _ _ _ (T104.setTop (mkF m 23 #[.val (.int p1), .val (.int ((p1 &&& (2147483647 : Int32)) % (5 : Int32)))] [(.ref a_TEXT)]))
      refine ownRetA X104 hx hlk hret rfl rfl rfl (hb hby d1_23) (by decide) (by decide) ?_
      show Q1 Z p1 a_ATTRIBUTE a_TEXT a_COMMENT a_PROCESSING_INSTRUCTION a_NAMESPACE a_ELEMENT a_DOCUMENT h0 n0 _ T104.heap _
      rw [e104]
      exact ⟨_, rfl, N0, rfl, n_TEXT_ELEMENT, n_TEXT_DOCUMENT⟩
    · refine OwnEnd.go (fun _ k => XS.icmpYes X0.here hx rfl (pc0 := 17) (pc' := 24) rfl (hb hby d1_17) rfl (feq hc103).2 (by decide) (by decide) k) ?_
      show OwnEnd p e below s _ _ _ (s₁.setTop (mkF m 24 #[.val (.int p1), .val (.int ((p1 &&& (2147483647 : Int32)) % (5 : Int32)))] []))
      refine OwnEnd.go (fun _ k => XS.iloadN X0.here hx rfl (hb hby d1_24) rfl  k) ?_
      show OwnEnd p e below s _ _ _ (s₁.setTop (mkF m 25 #[.val (.int p1), .val (.int ((p1 &&& (2147483647 : Int32)) % (5 : Int32)))] [(.int ((p1 &&& (2147483647 : Int32)) % (5 : Int32)))]))
      refine OwnEnd.go (fun _ k => XS.iconst X0.here hx rfl (hb hby d1_25) k) ?_
      show OwnEnd p e below s _ _ _ (s₁.setTop (mkF m 26 #[.val (.int p1), .val (.int ((p1 &&& (2147483647 : Int32)) % (5 : Int32)))] [(.int (2 : Int32)), (.int ((p1 &&& (2147483647 : Int32)) % (5 : Int32)))]))
      by_cases hc105 : ((p1 &&& (2147483647 : Int32)) % (5 : Int32)) = (2 : Int32)
      · refine OwnEnd.go (fun _ k => XS.icmpNo X0.here hx rfl (hb hby d1_26) rfl (teq hc105).2 k) ?_
        show OwnEnd p e below s _ _ _ (s₁.setTop (mkF m 29 #[.val (.int p1), .val (.int ((p1 &&& (2147483647 : Int32)) % (5 : Int32)))] []))
        obtain ⟨T106, X106, e106, st106⟩ := getS2 X0 hx hZ hown (host := "") (Or.inl ww75) Via.refl e0 (S_COMMENT.ext O0.2) (g := (mkF m 29 #[.val (.int p1), .val (.int ((p1 &&& (2147483647 : Int32)) % (5 : Int32)))] [])) rfl (hb hby d1_29)
        refine OwnEnd.go (fun _ k => st106 _ k) ?_
        show OwnEnd p e below s _ _ _ (T106.setTop (mkF m 32 #[.val (.int p1), .val (.int ((p1 &&& (2147483647 : Int32)) % (5 : Int32)))] [(.ref a_COMMENT)]))
        refine ownRetA X106 hx hlk hret rfl rfl rfl (hb hby d1_32) (by decide) (by decide) ?_
        show Q1 Z p1 a_ATTRIBUTE a_TEXT a_COMMENT a_PROCESSING_INSTRUCTION a_NAMESPACE a_ELEMENT a_DOCUMENT h0 n0 _ T106.heap _
        rw [e106]
        exact ⟨_, rfl, N0, rfl, n_COMMENT_ELEMENT, n_COMMENT_DOCUMENT⟩
      · refine OwnEnd.go (fun _ k => XS.icmpYes X0.here hx rfl (pc0 := 26) (pc' := 33) rfl (hb hby d1_26) rfl (feq hc105).2 (by decide) (by decide) k) ?_
        show OwnEnd p e below s _ _ _ (s₁.setTop (mkF m 33 #[.val (.int p1), .val (.int ((p1 &&& (2147483647 : Int32)) % (5 : Int32)))] []))
        refine OwnEnd.go (fun _ k => XS.iloadN X0.here hx rfl (hb hby d1_33) rfl  k) ?_
        show OwnEnd p e below s _ _ _ (s₁.setTop (mkF m 34 #[.val (.int p1), .val (.int ((p1 &&& (2147483647 : Int32)) % (5 : Int32)))] [(.int ((p1 &&& (2147483647 : Int32)) % (5 : Int32)))]))
        refine OwnEnd.go (fun _ k => XS.iconst X0.here hx rfl (hb hby d1_34) k) ?_
        show OwnEnd p e below s _ _ _ (s₁.setTop (mkF m 35 #[.val (.int p1), .val (.int ((p1 &&& (2147483647 : Int32)) % (5 : Int32)))] [(.int (3 : Int32)), (.int ((p1 &&& (2147483647 : Int32)) % (5 : Int32)))]))
        by_cases hc107 : ((p1 &&& (2147483647 : Int32)) % (5 : Int32)) = (3 : Int32)
        · refine OwnEnd.go (fun _ k => XS.icmpNo X0.here hx rfl (hb hby d1_35) rfl (teq hc107).2 k) ?_
          show OwnEnd p e below s _ _ _ (s₁.setTop (mkF m 38 #[.val (.int p1), .val (.int ((p1 &&& (2147483647 : Int32)) % (5 : Int32)))] []))
          obtain ⟨T108, X108, e108, st108⟩ := getS2 X0 hx hZ hown (host := "") (Or.inl ww73) Via.refl e0 (S_PROCESSING_INSTRUCTION.ext O0.2) (g := (mkF m 38 #[.val (.int p1), .val (.int ((p1 &&& (2147483647 : Int32)) % (5 : Int32)))] [])) rfl (hb hby d1_38)
          refine OwnEnd.go (fun _ k => st108 _ k) ?_
          show OwnEnd p e below s _ _ _ (T108.setTop (mkF m 41 #[.val (.int p1), .val (.int ((p1 &&& (2147483647 : Int32)) % (5 : Int32)))] [(.ref a_PROCESSING_INSTRUCTION)]))
          refine ownRetA X108 hx hlk hret rfl rfl rfl (hb hby d1_41) (by decide) (by decide) ?_
          show Q1 Z p1 a_ATTRIBUTE a_TEXT a_COMMENT a_PROCESSING_INSTRUCTION a_NAMESPACE a_ELEMENT a_DOCUMENT h0 n0 _ T108.heap _
          rw [e108]
          exact ⟨_, rfl, N0, rfl, n_PROCESSING_INSTRUCTION_ELEMENT, n_PROCESSING_INSTRUCTION_DOCUMENT⟩
        · refine OwnEnd.go (fun _ k => XS.icmpYes X0.here hx rfl (pc0 := 35) (pc' := 42) rfl (hb hby d1_35) rfl (feq hc107).2 (by decide) (by decide) k) ?_
          show OwnEnd p e below s _ _ _ (s₁.setTop (mkF m 42 #[.val (.int p1), .val (.int ((p1 &&& (2147483647 : Int32)) % (5 : Int32)))] []))
          obtain ⟨T109, X109, e109, st109⟩ := getS2 X0 hx hZ hown (host := "") (Or.inl ww71) Via.refl e0 (S_NAMESPACE.ext O0.2) (g := (mkF m 42 #[.val (.int p1), .val (.int ((p1 &&& (2147483647 : Int32)) % (5 : Int32)))] [])) rfl (hb hby d1_42)
          refine OwnEnd.go (fun _ k => st109 _ k) ?_
          show OwnEnd p e below s _ _ _ (T109.setTop (mkF m 45 #[.val (.int p1), .val (.int ((p1 &&& (2147483647 : Int32)) % (5 : Int32)))] [(.ref a_NAMESPACE)]))
          refine ownRetA X109 hx hlk hret rfl rfl rfl (hb hby d1_45) (by decide) (by decide) ?_
          show Q1 Z p1 a_ATTRIBUTE a_TEXT a_COMMENT a_PROCESSING_INSTRUCTION a_NAMESPACE a_ELEMENT a_DOCUMENT h0 n0 _ T109.heap _
          rw [e109]
          exact ⟨_, rfl, N0, rfl, n_NAMESPACE_ELEMENT, n_NAMESPACE_DOCUMENT⟩
theorem d2_0 : decode prog_249_method_1_code 0 = .ok (.aload_n 0, 1) := by decide +kernel
theorem d2_1 : decode prog_249_method_1_code 1 = .ok (.invokespecial 1, 3) := by decide +kernel
theorem d2_4 : decode prog_249_method_1_code 4 = .ok (.aload_n 0, 1) := by decide +kernel
theorem d2_5 : decode prog_249_method_1_code 5 = .ok (.bipush 8, 2) := by decide +kernel
theorem d2_7 : decode prog_249_method_1_code 7 = .ok (.newarray .int, 2) := by decide +kernel
theorem d2_9 : decode prog_249_method_1_code 9 = .ok (.putfield 7, 3) := by decide +kernel
theorem d2_12 : decode prog_249_method_1_code 12 = .ok (.aload_n 0, 1) := by decide +kernel
theorem d2_13 : decode prog_249_method_1_code 13 = .ok (.bipush 8, 2) := by decide +kernel
theorem d2_15 : decode prog_249_method_1_code 15 = .ok (.newarray .int, 2) := by decide +kernel
theorem d2_17 : decode prog_249_method_1_code 17 = .ok (.putfield 13, 3) := by decide +kernel
theorem d2_20 : decode prog_249_method_1_code 20 = .ok (.return_, 1) := by decide +kernel
theorem pn_2 : plainName "com/example/rewoven_tree/rewoventree/storage/TableShape" = true := by first | (simp [plainName, overriddenIn]; done) | decide +kernel
theorem ef_2 (m : MethodId) (x0 : Addr) : entryFrame m #[(.ref x0)] 1 = mkF m 0 #[.val (.ref x0)] [] := by first | (simp [entryFrame, mkF, argsToLocals, Value.category]; done) | rfl
def Q2 (Z : State) (a1 : Addr) (h0 : Heap) (n0 : Nat) (v : Option Value) (h : Heap) (L : List Loc) : Prop := ∃ (bo : Addr) (bt : Addr), v = none ∧ Fr n0 L ∧ Keep h0 h [a1] ∧ n0 ≤ bo ∧ n0 ≤ bt ∧ h0.size ≤ bo ∧ h0.size ≤ bt ∧ ownTS Z h n0 a1 bo bt (0 : Int32) (0 : Int32) (0 : Int32) (0 : Int32) (0 : Int32) (0 : Int32) (0 : Int32) (0 : Int32) (0 : Int32)
set_option maxRecDepth 65536 in
set_option maxHeartbeats 40000000 in
theorem rm2 (l : Launch) (Z : State) (a0 : Array Value) (hw : ∀ d ∈ tables_1, d.before a0 Z = true) (ws : List Jvm.Cond) (a1 : Addr) (h0 : Heap) (n0 : Nat) (Z0 : n0 ≤ h0.size) (F_open : Fld Z h0 a1 "com/example/rewoven_tree/rewoventree/storage/TableShape" "open" "[I" .null) (F_attributes : Fld Z h0 a1 "com/example/rewoven_tree/rewoventree/storage/TableShape" "attributes" "[I" .null) (F_rowCount : Fld Z h0 a1 "com/example/rewoven_tree/rewoventree/storage/TableShape" "rowCount" "I" (.int (0 : Int32))) (F_depth : Fld Z h0 a1 "com/example/rewoven_tree/rewoventree/storage/TableShape" "depth" "I" (.int (0 : Int32))) (F_distance : Fld Z h0 a1 "com/example/rewoven_tree/rewoventree/storage/TableShape" "distance" "I" (.int (0 : Int32))) (F_endedRow : Fld Z h0 a1 "com/example/rewoven_tree/rewoventree/storage/TableShape" "endedRow" "I" (.int (0 : Int32))) (F_endedSize : Fld Z h0 a1 "com/example/rewoven_tree/rewoventree/storage/TableShape" "endedSize" "I" (.int (0 : Int32))) (F_endedAttributes : Fld Z h0 a1 "com/example/rewoven_tree/rewoventree/storage/TableShape" "endedAttributes" "I" (.int (0 : Int32))) (E1 : Exa Z h0 a1 "com/example/rewoven_tree/rewoventree/storage/TableShape") (ga : n0 ≤ a1) :
    MetFree l (⟨"com/example/rewoven_tree/rewoventree/storage/TableShape", "<init>", "()V"⟩ : MethodName) (head1 (Jvm.Cond.code (⟨"com/example/rewoven_tree/rewoventree/storage/TableShape", "<init>", "()V"⟩ : MethodName) prog_249_method_1_code 1 none :: ws) ({ frames := 1, cells := 2, slots := 16, locals := 12 } : Room)) (fun a U => a = #[(.ref a1)] ∧ Z.Warmed39 U.vm ∧ U.heap = h0) (fun _ _ _ _ _ => True) (fun _ U o U' => ∃ v L, o = .returned v ∧ Q2 Z a1 h0 n0 v U'.heap L ∧ FrameEnd U o U' L ({ frames := 1, cells := 2, slots := 16, locals := 12 } : Room).cells ({ frames := 1, cells := 2, slots := 16, locals := 12 } : Room).slots) := by
  have ww13 := hw _ (List.mem_of_getElem? (i := 13) rfl)
  have ww18 := hw _ (List.mem_of_getElem? (i := 18) rfl)
  have ww19 := hw _ (List.mem_of_getElem? (i := 19) rfl)
  have ww20 := hw _ (List.mem_of_getElem? (i := 20) rfl)
  have ww21 := hw _ (List.mem_of_getElem? (i := 21) rfl)
  have ww22 := hw _ (List.mem_of_getElem? (i := 22) rfl)
  have ww23 := hw _ (List.mem_of_getElem? (i := 23) rfl)
  have ww24 := hw _ (List.mem_of_getElem? (i := 24) rfl)
  have ww25 := hw _ (List.mem_of_getElem? (i := 25) rfl)
  have ww32 := hw _ (List.mem_of_getElem? (i := 32) rfl)
  have ww44 := hw _ (List.mem_of_getElem? (i := 44) rfl)
  have ww46 := hw _ (List.mem_of_getElem? (i := 46) rfl)
  have ww66 := hw _ (List.mem_of_getElem? (i := 66) rfl)
  have ww68 := hw _ (List.mem_of_getElem? (i := 68) rfl)
  have ww70 := hw _ (List.mem_of_getElem? (i := 70) rfl)
  refine MetFree.of_bodySF (plainFor_of_name pn_2) hisR ?_
  intro p e s m args below meth c s₁ Bd hml0 hP hK
  obtain ⟨rfl, hZ, hh⟩ := hP
  have hx := Bd.exec
  have hby := Bd.bytes
  have hlk : meth.locks = false := Bd.notSynchronized
  have hret := Bd.returns
  have hml : c.maxLocals = 1 := hml0
  have hown : s.vm.findClass "com/example/rewoven_tree/rewoventree/storage/TableShape" = some m.cls := findClass_of_methodNamed Bd.named
  have hnm := (name_of_methodNamed Bd.named Bd.method).1
  have X0 : Stand p l e ({ frames := 1, cells := 2, slots := 16, locals := 12 } : Room) s m #[(.ref a1)] below meth c s₁ [] 0 0 := Stand.of_body Bd
  have e0 : s₁.heap = h0 := by rw [← hh, Bd.state]; rfl
  have N0 := Fr.nil n0
  have K0 := Keep.refl h0 [a1]
  show OwnEnd p e below s (Q2 Z a1 h0 n0) ({ frames := 1, cells := 2, slots := 16, locals := 12 } : Room).cells ({ frames := 1, cells := 2, slots := 16, locals := 12 } : Room).slots _
  refine OwnEnd.go (fun _ k => castTop (ef_2 m a1) k) ?_
  show OwnEnd p e below s _ _ _ (s₁.setTop (mkF m 0 #[.val (.ref a1)] []))
  refine OwnEnd.go (fun _ k => XS.aloadN X0.here hx rfl (hb hby d2_0) rfl rfl k) ?_
  show OwnEnd p e below s _ _ _ (s₁.setTop (mkF m 1 #[.val (.ref a1)] [(.ref a1)]))
  obtain ⟨T101, X101, e101, st101⟩ := initO X0 hx hZ hown ww18 ww19 ww20 e0 (g := (mkF m 1 #[.val (.ref a1)] [(.ref a1)])) rfl (by rw [hml]; rfl) rfl (hb hby d2_1) (by decide) (W := 0) (by show 2 * 0 + _ ≤ _; exact Nat.le_of_eq rfl) (by decide)
  refine OwnEnd.go (fun _ k => st101 _ k) ?_
  show OwnEnd p e below s _ _ _ (T101.setTop (mkF m 4 #[.val (.ref a1)] []))
  refine OwnEnd.go (fun _ k => XS.aloadN X101.here hx rfl (hb hby d2_4) rfl rfl k) ?_
  show OwnEnd p e below s _ _ _ (T101.setTop (mkF m 5 #[.val (.ref a1)] [(.ref a1)]))
  refine OwnEnd.go (fun _ k => XS.bipush X101.here hx rfl (hb hby d2_5) k) ?_
  show OwnEnd p e below s _ _ _ (T101.setTop (mkF m 7 #[.val (.ref a1)] [(.int (8 : Int32)), (.ref a1)]))
  obtain ⟨T102, h102, k102, X102, e102, E102, A102, st102⟩ := newP (aty := .int) X101 hx hZ ww21 e101 (g := (mkF m 7 #[.val (.ref a1)] [(.int (8 : Int32)), (.ref a1)])) rfl (hb hby d2_7) rfl (by decide) (cap := 8) (by decide) (by decide) (by decide) (by decide)
  obtain ⟨b102, g102⟩ : ∃ z, z = h0.size := ⟨_, rfl⟩
  rw [← g102] at A102 st102
  have ne103 : a1 ≠ b102 := Nat.ne_of_lt (Nat.lt_of_lt_of_le F_open.lt (Nat.le_of_eq g102.symm))
  have u102 : n0 ≤ b102 := Nat.le_trans Z0 (Nat.le_of_eq g102.symm)
  have v102 : h0.size ≤ b102 := Nat.le_trans K0.1 (Nat.le_of_eq g102.symm)
  have F104 := F_open.ext E102
  have F105 := F_attributes.ext E102
  have F106 := F_rowCount.ext E102
  have F107 := F_depth.ext E102
  have F108 := F_distance.ext E102
  have F109 := F_endedRow.ext E102
  have F110 := F_endedSize.ext E102
  have F111 := F_endedAttributes.ext E102
  have F112 := E1.ext E102
  have K102 := K0.ext E102
  have Y102 := Nat.le_trans Z0 E102.1
  have V102 : Arv Z h102 b102 k102 .int (8 : Int32) [(.int (0 : Int32)), (.int (0 : Int32)), (.int (0 : Int32)), (.int (0 : Int32)), (.int (0 : Int32)), (.int (0 : Int32)), (.int (0 : Int32)), (.int (0 : Int32))] (.int (0 : Int32)) := (Arv.new A102 (by decide)).pad (pad_rep [] (.int (0 : Int32)) 8)
  refine OwnEnd.go (fun _ k => st102 _ k) ?_
  show OwnEnd p e below s _ _ _ (T102.setTop (mkF m 9 #[.val (.ref a1)] [(.ref b102), (.ref a1)]))
  obtain ⟨T113, h113, X113, e113, W113, st113⟩ := putF X102 hx hZ hown (host := "") (Or.inl ww22) Via.refl e102 F104 F112 (Or.inl ww23) ww13 (ty := (.array .int)) (by decide) rfl rfl (g := (mkF m 9 #[.val (.ref a1)] [(.ref b102), (.ref a1)])) rfl rfl (hb hby d2_9)
  have F114 := F104.same W113
  have F115 := F105.other W113 (Or.inr (slot_ne (Or.inl ww25) (Or.inl ww23) (by decide) (t := (.array .int)) (t' := (.array .int)) (by decide) (by decide)))
  have F116 := F106.other W113 (Or.inr (slot_ne (Or.inl ww32) (Or.inl ww23) (by decide) (t := .int) (t' := (.array .int)) (by decide) (by decide)))
  have F117 := F107.other W113 (Or.inr (slot_ne (Or.inl ww44) (Or.inl ww23) (by decide) (t := .int) (t' := (.array .int)) (by decide) (by decide)))
  have F118 := F108.other W113 (Or.inr (slot_ne (Or.inl ww46) (Or.inl ww23) (by decide) (t := .int) (t' := (.array .int)) (by decide) (by decide)))
  have F119 := F109.other W113 (Or.inr (slot_ne (Or.inl ww66) (Or.inl ww23) (by decide) (t := .int) (t' := (.array .int)) (by decide) (by decide)))
  have F120 := F110.other W113 (Or.inr (slot_ne (Or.inl ww68) (Or.inl ww23) (by decide) (t := .int) (t' := (.array .int)) (by decide) (by decide)))
  have F121 := F111.other W113 (Or.inr (slot_ne (Or.inl ww70) (Or.inl ww23) (by decide) (t := .int) (t' := (.array .int)) (by decide) (by decide)))
  have F122 := F112.wr W113
  have F123 := V102.other W113 (Ne.symm ne103)
  have N113 := Fr.snoc X113 N0 ga
  have K113 := K102.wr W113 (Or.inl (List.mem_of_getElem? (i := 0) rfl))
  have Y113 := Nat.le_trans Y102 (Nat.le_of_eq W113.size.symm)
  refine OwnEnd.go (fun _ k => st113 _ k) ?_
  show OwnEnd p e below s _ _ _ (T113.setTop (mkF m 12 #[.val (.ref a1)] []))
  refine OwnEnd.go (fun _ k => XS.aloadN X113.here hx rfl (hb hby d2_12) rfl rfl k) ?_
  show OwnEnd p e below s _ _ _ (T113.setTop (mkF m 13 #[.val (.ref a1)] [(.ref a1)]))
  refine OwnEnd.go (fun _ k => XS.bipush X113.here hx rfl (hb hby d2_13) k) ?_
  show OwnEnd p e below s _ _ _ (T113.setTop (mkF m 15 #[.val (.ref a1)] [(.int (8 : Int32)), (.ref a1)]))
  obtain ⟨T124, h124, k124, X124, e124, E124, A124, st124⟩ := newP (aty := .int) X113 hx hZ ww21 e113 (g := (mkF m 15 #[.val (.ref a1)] [(.int (8 : Int32)), (.ref a1)])) rfl (hb hby d2_15) rfl (by decide) (cap := 8) (by decide) (by decide) (by decide) (by decide)
  obtain ⟨b124, g124⟩ : ∃ z, z = h113.size := ⟨_, rfl⟩
  rw [← g124] at A124 st124
  have ne125 : a1 ≠ b124 := Nat.ne_of_lt (Nat.lt_of_lt_of_le F114.lt (Nat.le_of_eq g124.symm))
  have ne126 : b102 ≠ b124 := Nat.ne_of_lt (Nat.lt_of_lt_of_le F123.lt (Nat.le_of_eq g124.symm))
  have u124 : n0 ≤ b124 := Nat.le_trans Y113 (Nat.le_of_eq g124.symm)
  have v124 : h0.size ≤ b124 := Nat.le_trans K113.1 (Nat.le_of_eq g124.symm)
  have F127 := F114.ext E124
  have F128 := F115.ext E124
  have F129 := F116.ext E124
  have F130 := F117.ext E124
  have F131 := F118.ext E124
  have F132 := F119.ext E124
  have F133 := F120.ext E124
  have F134 := F121.ext E124
  have F135 := F122.ext E124
  have F136 := F123.ext E124
  have K124 := K113.ext E124
  have Y124 := Nat.le_trans Y113 E124.1
  have V124 : Arv Z h124 b124 k124 .int (8 : Int32) [(.int (0 : Int32)), (.int (0 : Int32)), (.int (0 : Int32)), (.int (0 : Int32)), (.int (0 : Int32)), (.int (0 : Int32)), (.int (0 : Int32)), (.int (0 : Int32))] (.int (0 : Int32)) := (Arv.new A124 (by decide)).pad (pad_rep [] (.int (0 : Int32)) 8)
  refine OwnEnd.go (fun _ k => st124 _ k) ?_
  show OwnEnd p e below s _ _ _ (T124.setTop (mkF m 17 #[.val (.ref a1)] [(.ref b124), (.ref a1)]))
  obtain ⟨T137, h137, X137, e137, W137, st137⟩ := putF X124 hx hZ hown (host := "") (Or.inl ww24) Via.refl e124 F128 F135 (Or.inl ww25) ww13 (ty := (.array .int)) (by decide) rfl rfl (g := (mkF m 17 #[.val (.ref a1)] [(.ref b124), (.ref a1)])) rfl rfl (hb hby d2_17)
  have F138 := F127.other W137 (Or.inr (slot_ne (Or.inl ww23) (Or.inl ww25) (by decide) (t := (.array .int)) (t' := (.array .int)) (by decide) (by decide)))
  have F139 := F128.same W137
  have F140 := F129.other W137 (Or.inr (slot_ne (Or.inl ww32) (Or.inl ww25) (by decide) (t := .int) (t' := (.array .int)) (by decide) (by decide)))
  have F141 := F130.other W137 (Or.inr (slot_ne (Or.inl ww44) (Or.inl ww25) (by decide) (t := .int) (t' := (.array .int)) (by decide) (by decide)))
  have F142 := F131.other W137 (Or.inr (slot_ne (Or.inl ww46) (Or.inl ww25) (by decide) (t := .int) (t' := (.array .int)) (by decide) (by decide)))
  have F143 := F132.other W137 (Or.inr (slot_ne (Or.inl ww66) (Or.inl ww25) (by decide) (t := .int) (t' := (.array .int)) (by decide) (by decide)))
  have F144 := F133.other W137 (Or.inr (slot_ne (Or.inl ww68) (Or.inl ww25) (by decide) (t := .int) (t' := (.array .int)) (by decide) (by decide)))
  have F145 := F134.other W137 (Or.inr (slot_ne (Or.inl ww70) (Or.inl ww25) (by decide) (t := .int) (t' := (.array .int)) (by decide) (by decide)))
  have F146 := F135.wr W137
  have F147 := F136.other W137 (Ne.symm ne103)
  have F148 := V124.other W137 (Ne.symm ne125)
  have N137 := Fr.snoc X137 N113 ga
  have K137 := K124.wr W137 (Or.inl (List.mem_of_getElem? (i := 0) rfl))
  have Y137 := Nat.le_trans Y124 (Nat.le_of_eq W137.size.symm)
  refine OwnEnd.go (fun _ k => st137 _ k) ?_
  show OwnEnd p e below s _ _ _ (T137.setTop (mkF m 20 #[.val (.ref a1)] []))
  refine ownRetV X137 hx hlk hret (hb hby d2_20) (by decide) (by decide) ?_
  show Q2 Z a1 h0 n0 _ T137.heap _
  rw [e137]
  exact ⟨b102, b124, rfl, N137, K137, u102, u124, v102, v124, ⟨ga, u102, u124, ne103, ne125, ne126, F146, F138, F139, F140, F141, ⟨_, F142⟩, F143, F144, F145, ⟨_, F147⟩, ⟨_, F148⟩⟩⟩
theorem d4_0 : decode prog_249_method_4_code 0 = .ok (.aload_n 0, 1) := by decide +kernel
theorem d4_1 : decode prog_249_method_4_code 1 = .ok (.dup, 1) := by decide +kernel
theorem d4_2 : decode prog_249_method_4_code 2 = .ok (.getfield 42, 3) := by decide +kernel
theorem d4_5 : decode prog_249_method_4_code 5 = .ok (.iload_n 1, 1) := by decide +kernel
theorem d4_6 : decode prog_249_method_4_code 6 = .ok (.iadd, 1) := by decide +kernel
theorem d4_7 : decode prog_249_method_4_code 7 = .ok (.putfield 42, 3) := by decide +kernel
theorem d4_10 : decode prog_249_method_4_code 10 = .ok (.return_, 1) := by decide +kernel
theorem pn_4 : plainName "com/example/rewoven_tree/rewoventree/storage/TableShape" = true := by first | (simp [plainName, overriddenIn]; done) | decide +kernel
theorem ef_4 (m : MethodId) (x0 : Addr) (x1 : Int32) : entryFrame m #[(.ref x0), (.int x1)] 2 = mkF m 0 #[.val (.ref x0), .val (.int x1)] [] := by first | (simp [entryFrame, mkF, argsToLocals, Value.category]; done) | rfl
def Q4 (Z : State) (a1 : Addr) (p2 : Int32) (bo : Addr) (bt : Addr) (rc : Int32) (o0 : Int32) (o1 : Int32) (t0 : Int32) (t1 : Int32) (er : Int32) (es : Int32) (ea : Int32) (dp : Int32) (h0 : Heap) (n0 : Nat) (v : Option Value) (h : Heap) (L : List Loc) : Prop := v = none ∧ Fr n0 L ∧ Keep h0 h [a1, bo, bt] ∧ ownTS Z h n0 a1 bo bt (rc + p2) dp o0 o1 t0 t1 er es ea
set_option maxRecDepth 65536 in
set_option maxHeartbeats 40000000 in
theorem rm4 (l : Launch) (Z : State) (a0 : Array Value) (hw : ∀ d ∈ tables_1, d.before a0 Z = true) (ws : List Jvm.Cond) (a1 : Addr) (p2 : Int32) (bo : Addr) (bt : Addr) (rc : Int32) (o0 : Int32) (o1 : Int32) (t0 : Int32) (t1 : Int32) (er : Int32) (es : Int32) (ea : Int32) (dp : Int32) (h0 : Heap) (n0 : Nat) (Z0 : n0 ≤ h0.size) (B0 : ownTS Z h0 n0 a1 bo bt rc dp o0 o1 t0 t1 er es ea) :
    MetFree l (⟨"com/example/rewoven_tree/rewoventree/storage/TableShape", "pass", "(I)V"⟩ : MethodName) (head1 (Jvm.Cond.code (⟨"com/example/rewoven_tree/rewoventree/storage/TableShape", "pass", "(I)V"⟩ : MethodName) prog_249_method_4_code 2 none :: ws) ({ frames := 0, cells := 0, slots := 0, locals := 0 } : Room)) (fun a U => a = #[(.ref a1), (.int p2)] ∧ Z.Warmed39 U.vm ∧ U.heap = h0) (fun _ _ _ _ _ => True) (fun _ U o U' => ∃ v L, o = .returned v ∧ Q4 Z a1 p2 bo bt rc o0 o1 t0 t1 er es ea dp h0 n0 v U'.heap L ∧ FrameEnd U o U' L ({ frames := 0, cells := 0, slots := 0, locals := 0 } : Room).cells ({ frames := 0, cells := 0, slots := 0, locals := 0 } : Room).slots) := by
  have ww13 := hw _ (List.mem_of_getElem? (i := 13) rfl)
  have ww23 := hw _ (List.mem_of_getElem? (i := 23) rfl)
  have ww25 := hw _ (List.mem_of_getElem? (i := 25) rfl)
  have ww31 := hw _ (List.mem_of_getElem? (i := 31) rfl)
  have ww32 := hw _ (List.mem_of_getElem? (i := 32) rfl)
  have ww44 := hw _ (List.mem_of_getElem? (i := 44) rfl)
  have ww46 := hw _ (List.mem_of_getElem? (i := 46) rfl)
  have ww66 := hw _ (List.mem_of_getElem? (i := 66) rfl)
  have ww68 := hw _ (List.mem_of_getElem? (i := 68) rfl)
  have ww70 := hw _ (List.mem_of_getElem? (i := 70) rfl)
  refine MetFree.of_bodySF (plainFor_of_name pn_4) hisR ?_
  intro p e s m args below meth c s₁ Bd hml0 hP hK
  obtain ⟨rfl, hZ, hh⟩ := hP
  have hx := Bd.exec
  have hby := Bd.bytes
  have hlk : meth.locks = false := Bd.notSynchronized
  have hret := Bd.returns
  have hml : c.maxLocals = 2 := hml0
  have hown : s.vm.findClass "com/example/rewoven_tree/rewoventree/storage/TableShape" = some m.cls := findClass_of_methodNamed Bd.named
  have hnm := (name_of_methodNamed Bd.named Bd.method).1
  have X0 : Stand p l e ({ frames := 0, cells := 0, slots := 0, locals := 0 } : Room) s m #[(.ref a1), (.int p2)] below meth c s₁ [] 0 0 := Stand.of_body Bd
  have e0 : s₁.heap = h0 := by rw [← hh, Bd.state]; rfl
  have N0 := Fr.nil n0
  have K0 := Keep.refl h0 [a1, bo, bt]
  show OwnEnd p e below s (Q4 Z a1 p2 bo bt rc o0 o1 t0 t1 er es ea dp h0 n0) ({ frames := 0, cells := 0, slots := 0, locals := 0 } : Room).cells ({ frames := 0, cells := 0, slots := 0, locals := 0 } : Room).slots _
  refine OwnEnd.go (fun _ k => castTop (ef_4 m a1 p2) k) ?_
  obtain ⟨ga, go, gt, n1, n2, n3, E1, F_open, F_attr, F_rc, F_dp, ⟨di, F_di⟩, F_er, F_es, F_ea, ⟨ko, V_o⟩, ⟨kt, V_t⟩⟩ := B0
  show OwnEnd p e below s _ _ _ (s₁.setTop (mkF m 0 #[.val (.ref a1), .val (.int p2)] []))
  refine OwnEnd.go (fun _ k => XS.aloadN X0.here hx rfl (hb hby d4_0) rfl rfl k) ?_
  show OwnEnd p e below s _ _ _ (s₁.setTop (mkF m 1 #[.val (.ref a1), .val (.int p2)] [(.ref a1)]))
  refine OwnEnd.go (fun _ k => XS.dup X0.here hx rfl (hb hby d4_1) rfl rfl k) ?_
  show OwnEnd p e below s _ _ _ (s₁.setTop (mkF m 2 #[.val (.ref a1), .val (.int p2)] [(.ref a1), (.ref a1)]))
  obtain ⟨T101, X101, e101, st101⟩ := getF X0 hx hZ hown (host := "") (Or.inl ww31) Via.refl e0 F_rc (g := (mkF m 2 #[.val (.ref a1), .val (.int p2)] [(.ref a1), (.ref a1)])) rfl rfl (hb hby d4_2)
  refine OwnEnd.go (fun _ k => st101 _ k) ?_
  show OwnEnd p e below s _ _ _ (T101.setTop (mkF m 5 #[.val (.ref a1), .val (.int p2)] [(.int rc), (.ref a1)]))
  refine OwnEnd.go (fun _ k => XS.iloadN X101.here hx rfl (hb hby d4_5) rfl  k) ?_
  show OwnEnd p e below s _ _ _ (T101.setTop (mkF m 6 #[.val (.ref a1), .val (.int p2)] [(.int p2), (.int rc), (.ref a1)]))
  refine OwnEnd.go (fun _ k => XS.iadd X101.here hx rfl (hb hby d4_6) rfl k) ?_
  show OwnEnd p e below s _ _ _ (T101.setTop (mkF m 7 #[.val (.ref a1), .val (.int p2)] [(.int (rc + p2)), (.ref a1)]))
  obtain ⟨T102, h102, X102, e102, W102, st102⟩ := putF X101 hx hZ hown (host := "") (Or.inl ww31) Via.refl e101 F_rc E1 (Or.inl ww32) ww13 (ty := .int) (by decide) rfl rfl (g := (mkF m 7 #[.val (.ref a1), .val (.int p2)] [(.int (rc + p2)), (.ref a1)])) rfl rfl (hb hby d4_7)
  have F104 := E1.wr W102
  have F105 := F_open.other W102 (Or.inr (slot_ne (Or.inl ww23) (Or.inl ww32) (by decide) (t := (.array .int)) (t' := .int) (by decide) (by decide)))
  have F106 := F_attr.other W102 (Or.inr (slot_ne (Or.inl ww25) (Or.inl ww32) (by decide) (t := (.array .int)) (t' := .int) (by decide) (by decide)))
  have F107 := F_rc.same W102
  have F108 := F_dp.other W102 (Or.inr (slot_ne (Or.inl ww44) (Or.inl ww32) (by decide) (t := .int) (t' := .int) (by decide) (by decide)))
  have F109 := F_di.other W102 (Or.inr (slot_ne (Or.inl ww46) (Or.inl ww32) (by decide) (t := .int) (t' := .int) (by decide) (by decide)))
  have F110 := F_er.other W102 (Or.inr (slot_ne (Or.inl ww66) (Or.inl ww32) (by decide) (t := .int) (t' := .int) (by decide) (by decide)))
  have F111 := F_es.other W102 (Or.inr (slot_ne (Or.inl ww68) (Or.inl ww32) (by decide) (t := .int) (t' := .int) (by decide) (by decide)))
  have F112 := F_ea.other W102 (Or.inr (slot_ne (Or.inl ww70) (Or.inl ww32) (by decide) (t := .int) (t' := .int) (by decide) (by decide)))
  have F113 := V_o.other W102 (Ne.symm n1)
  have F114 := V_t.other W102 (Ne.symm n2)
  have N102 := Fr.snoc X102 N0 ga
  have K102 := K0.wr W102 (Or.inl (List.mem_of_getElem? (i := 0) rfl))
  have Y102 := Nat.le_trans Z0 (Nat.le_of_eq W102.size.symm)
  refine OwnEnd.go (fun _ k => st102 _ k) ?_
  show OwnEnd p e below s _ _ _ (T102.setTop (mkF m 10 #[.val (.ref a1), .val (.int p2)] []))
  refine ownRetV X102 hx hlk hret (hb hby d4_10) (by decide) (by decide) ?_
  show Q4 Z a1 p2 bo bt rc o0 o1 t0 t1 er es ea dp h0 n0 _ T102.heap _
  rw [e102]
  exact ⟨rfl, N102, K102, ⟨ga, go, gt, n1, n2, n3, F104, F105, F106, F107, F108, ⟨_, F109⟩, F110, F111, F112, ⟨_, F113⟩, ⟨_, F114⟩⟩⟩
theorem d6d0_0 : decode prog_249_method_3_code 0 = .ok (.aload_n 0, 1) := by decide +kernel
theorem d6d0_1 : decode prog_249_method_3_code 1 = .ok (.getfield 42, 3) := by decide +kernel
theorem d6d0_4 : decode prog_249_method_3_code 4 = .ok (.istore_n 2, 1) := by decide +kernel
theorem d6d0_5 : decode prog_249_method_3_code 5 = .ok (.aload_n 0, 1) := by decide +kernel
theorem d6d0_6 : decode prog_249_method_3_code 6 = .ok (.aload_n 0, 1) := by decide +kernel
theorem d6d0_7 : decode prog_249_method_3_code 7 = .ok (.getfield 26, 3) := by decide +kernel
theorem d6d0_10 : decode prog_249_method_3_code 10 = .ok (.ifCond .ne 7, 3) := by decide +kernel
theorem d6d0_13 : decode prog_249_method_3_code 13 = .ok (.iconst 0, 1) := by decide +kernel
theorem d6d0_14 : decode prog_249_method_3_code 14 = .ok (.goto 16, 3) := by decide +kernel
theorem d6d0_30 : decode prog_249_method_3_code 30 = .ok (.putfield 45, 3) := by decide +kernel
theorem d6d0_33 : decode prog_249_method_3_code 33 = .ok (.aload_n 0, 1) := by decide +kernel
theorem d6d0_34 : decode prog_249_method_3_code 34 = .ok (.dup, 1) := by decide +kernel
theorem d6d0_35 : decode prog_249_method_3_code 35 = .ok (.getfield 42, 3) := by decide +kernel
theorem d6d0_38 : decode prog_249_method_3_code 38 = .ok (.iload_n 1, 1) := by decide +kernel
theorem d6d0_39 : decode prog_249_method_3_code 39 = .ok (.iadd, 1) := by decide +kernel
theorem d6d0_40 : decode prog_249_method_3_code 40 = .ok (.putfield 42, 3) := by decide +kernel
theorem d6d0_43 : decode prog_249_method_3_code 43 = .ok (.iload_n 2, 1) := by decide +kernel
theorem d6d0_44 : decode prog_249_method_3_code 44 = .ok (.ireturn, 1) := by decide +kernel
theorem pn_6d0 : plainName "com/example/rewoven_tree/rewoventree/storage/TableShape" = true := by first | (simp [plainName, overriddenIn]; done) | decide +kernel
theorem ef_6d0 (m : MethodId) (x0 : Addr) (x1 : Int32) : entryFrame m #[(.ref x0), (.int x1)] 3 = mkF m 0 #[.val (.ref x0), .val (.int x1), .unset] [] := by first | (simp [entryFrame, mkF, argsToLocals, Value.category]; done) | rfl
def Q6d0 (Z : State) (a1 : Addr) (p2 : Int32) (bo : Addr) (bt : Addr) (rc : Int32) (o0 : Int32) (o1 : Int32) (t0 : Int32) (t1 : Int32) (er : Int32) (es : Int32) (ea : Int32) (h0 : Heap) (n0 : Nat) (v : Option Value) (h : Heap) (L : List Loc) : Prop := v = some (.int rc) ∧ Fr n0 L ∧ Keep h0 h [a1, bo, bt] ∧ ownTS Z h n0 a1 bo bt (rc + p2) (0 : Int32) o0 o1 t0 t1 er es ea
set_option maxRecDepth 65536 in
set_option maxHeartbeats 40000000 in
theorem rm6d0 (l : Launch) (Z : State) (a0 : Array Value) (hw : ∀ d ∈ tables_1, d.before a0 Z = true) (ws : List Jvm.Cond) (a1 : Addr) (p2 : Int32) (bo : Addr) (bt : Addr) (rc : Int32) (o0 : Int32) (o1 : Int32) (t0 : Int32) (t1 : Int32) (er : Int32) (es : Int32) (ea : Int32) (h0 : Heap) (n0 : Nat) (Z0 : n0 ≤ h0.size) (B0 : ownTS Z h0 n0 a1 bo bt rc (0 : Int32) o0 o1 t0 t1 er es ea) :
    MetFree l (⟨"com/example/rewoven_tree/rewoventree/storage/TableShape", "placeSubtree", "(I)I"⟩ : MethodName) (head1 (Jvm.Cond.code (⟨"com/example/rewoven_tree/rewoventree/storage/TableShape", "placeSubtree", "(I)I"⟩ : MethodName) prog_249_method_3_code 3 (some .int) :: ws) ({ frames := 0, cells := 0, slots := 0, locals := 0 } : Room)) (fun a U => a = #[(.ref a1), (.int p2)] ∧ Z.Warmed39 U.vm ∧ U.heap = h0) (fun _ _ _ _ _ => True) (fun _ U o U' => ∃ v L, o = .returned v ∧ Q6d0 Z a1 p2 bo bt rc o0 o1 t0 t1 er es ea h0 n0 v U'.heap L ∧ FrameEnd U o U' L ({ frames := 0, cells := 0, slots := 0, locals := 0 } : Room).cells ({ frames := 0, cells := 0, slots := 0, locals := 0 } : Room).slots) := by
  have ww13 := hw _ (List.mem_of_getElem? (i := 13) rfl)
  have ww23 := hw _ (List.mem_of_getElem? (i := 23) rfl)
  have ww25 := hw _ (List.mem_of_getElem? (i := 25) rfl)
  have ww31 := hw _ (List.mem_of_getElem? (i := 31) rfl)
  have ww32 := hw _ (List.mem_of_getElem? (i := 32) rfl)
  have ww43 := hw _ (List.mem_of_getElem? (i := 43) rfl)
  have ww44 := hw _ (List.mem_of_getElem? (i := 44) rfl)
  have ww45 := hw _ (List.mem_of_getElem? (i := 45) rfl)
  have ww46 := hw _ (List.mem_of_getElem? (i := 46) rfl)
  have ww66 := hw _ (List.mem_of_getElem? (i := 66) rfl)
  have ww68 := hw _ (List.mem_of_getElem? (i := 68) rfl)
  have ww70 := hw _ (List.mem_of_getElem? (i := 70) rfl)
  refine MetFree.of_bodySF (plainFor_of_name pn_6d0) hisR ?_
  intro p e s m args below meth c s₁ Bd hml0 hP hK
  obtain ⟨rfl, hZ, hh⟩ := hP
  have hx := Bd.exec
  have hby := Bd.bytes
  have hlk : meth.locks = false := Bd.notSynchronized
  have hret := Bd.returns
  have hml : c.maxLocals = 3 := hml0
  have hown : s.vm.findClass "com/example/rewoven_tree/rewoventree/storage/TableShape" = some m.cls := findClass_of_methodNamed Bd.named
  have hnm := (name_of_methodNamed Bd.named Bd.method).1
  have X0 : Stand p l e ({ frames := 0, cells := 0, slots := 0, locals := 0 } : Room) s m #[(.ref a1), (.int p2)] below meth c s₁ [] 0 0 := Stand.of_body Bd
  have e0 : s₁.heap = h0 := by rw [← hh, Bd.state]; rfl
  have N0 := Fr.nil n0
  have K0 := Keep.refl h0 [a1, bo, bt]
  show OwnEnd p e below s (Q6d0 Z a1 p2 bo bt rc o0 o1 t0 t1 er es ea h0 n0) ({ frames := 0, cells := 0, slots := 0, locals := 0 } : Room).cells ({ frames := 0, cells := 0, slots := 0, locals := 0 } : Room).slots _
  refine OwnEnd.go (fun _ k => castTop (ef_6d0 m a1 p2) k) ?_
  obtain ⟨ga, go, gt, n1, n2, n3, E1, F_open, F_attr, F_rc, F_dp, ⟨di, F_di⟩, F_er, F_es, F_ea, ⟨ko, V_o⟩, ⟨kt, V_t⟩⟩ := B0
  show OwnEnd p e below s _ _ _ (s₁.setTop (mkF m 0 #[.val (.ref a1), .val (.int p2), .unset] []))
  refine OwnEnd.go (fun _ k => XS.aloadN X0.here hx rfl (hb hby d6d0_0) rfl rfl k) ?_
  show OwnEnd p e below s _ _ _ (s₁.setTop (mkF m 1 #[.val (.ref a1), .val (.int p2), .unset] [(.ref a1)]))
  obtain ⟨T101, X101, e101, st101⟩ := getF X0 hx hZ hown (host := "") (Or.inl ww31) Via.refl e0 F_rc (g := (mkF m 1 #[.val (.ref a1), .val (.int p2), .unset] [(.ref a1)])) rfl rfl (hb hby d6d0_1)
  refine OwnEnd.go (fun _ k => st101 _ k) ?_
  show OwnEnd p e below s _ _ _ (T101.setTop (mkF m 4 #[.val (.ref a1), .val (.int p2), .unset] [(.int rc)]))
  refine OwnEnd.go (fun _ k => XS.istoreN X101.here hx rfl (hb hby d6d0_4) rfl  (l' := #[.val (.ref a1), .val (.int p2), .val (.int rc)]) rfl k) ?_
  show OwnEnd p e below s _ _ _ (T101.setTop (mkF m 5 #[.val (.ref a1), .val (.int p2), .val (.int rc)] []))
  refine OwnEnd.go (fun _ k => XS.aloadN X101.here hx rfl (hb hby d6d0_5) rfl rfl k) ?_
  show OwnEnd p e below s _ _ _ (T101.setTop (mkF m 6 #[.val (.ref a1), .val (.int p2), .val (.int rc)] [(.ref a1)]))
  refine OwnEnd.go (fun _ k => XS.aloadN X101.here hx rfl (hb hby d6d0_6) rfl rfl k) ?_
  show OwnEnd p e below s _ _ _ (T101.setTop (mkF m 7 #[.val (.ref a1), .val (.int p2), .val (.int rc)] [(.ref a1), (.ref a1)]))
  obtain ⟨T102, X102, e102, st102⟩ := getF X101 hx hZ hown (host := "") (Or.inl ww43) Via.refl e101 F_dp (g := (mkF m 7 #[.val (.ref a1), .val (.int p2), .val (.int rc)] [(.ref a1), (.ref a1)])) rfl rfl (hb hby d6d0_7)
  refine OwnEnd.go (fun _ k => st102 _ k) ?_
  show OwnEnd p e below s _ _ _ (T102.setTop (mkF m 10 #[.val (.ref a1), .val (.int p2), .val (.int rc)] [(.int (0 : Int32)), (.ref a1)]))
  refine OwnEnd.go (fun _ k => XS.ifNo X102.here hx rfl (hb hby d6d0_10) rfl ((if0 _ _).trans (teq (by decide : (0 : Int32) = (0 : Int32))).2) k) ?_
  show OwnEnd p e below s _ _ _ (T102.setTop (mkF m 13 #[.val (.ref a1), .val (.int p2), .val (.int rc)] [(.ref a1)]))
  refine OwnEnd.go (fun _ k => XS.iconst X102.here hx rfl (hb hby d6d0_13) k) ?_
  show OwnEnd p e below s _ _ _ (T102.setTop (mkF m 14 #[.val (.ref a1), .val (.int p2), .val (.int rc)] [(.int (0 : Int32)), (.ref a1)]))
  refine OwnEnd.go (fun _ k => XS.goto X102.here hx rfl (pc0 := 14) (pc' := 30) rfl (hb hby d6d0_14) (by decide) (by decide) k) ?_
  show OwnEnd p e below s _ _ _ (T102.setTop (mkF m 30 #[.val (.ref a1), .val (.int p2), .val (.int rc)] [(.int (0 : Int32)), (.ref a1)]))
  obtain ⟨T103, h103, X103, e103, W103, st103⟩ := putF X102 hx hZ hown (host := "") (Or.inl ww45) Via.refl e102 F_di E1 (Or.inl ww46) ww13 (ty := .int) (by decide) rfl rfl (g := (mkF m 30 #[.val (.ref a1), .val (.int p2), .val (.int rc)] [(.int (0 : Int32)), (.ref a1)])) rfl rfl (hb hby d6d0_30)
  have F105 := E1.wr W103
  have F106 := F_open.other W103 (Or.inr (slot_ne (Or.inl ww23) (Or.inl ww46) (by decide) (t := (.array .int)) (t' := .int) (by decide) (by decide)))
  have F107 := F_attr.other W103 (Or.inr (slot_ne (Or.inl ww25) (Or.inl ww46) (by decide) (t := (.array .int)) (t' := .int) (by decide) (by decide)))
  have F108 := F_rc.other W103 (Or.inr (slot_ne (Or.inl ww32) (Or.inl ww46) (by decide) (t := .int) (t' := .int) (by decide) (by decide)))
  have F109 := F_dp.other W103 (Or.inr (slot_ne (Or.inl ww44) (Or.inl ww46) (by decide) (t := .int) (t' := .int) (by decide) (by decide)))
  have F110 := F_di.same W103
  have F111 := F_er.other W103 (Or.inr (slot_ne (Or.inl ww66) (Or.inl ww46) (by decide) (t := .int) (t' := .int) (by decide) (by decide)))
  have F112 := F_es.other W103 (Or.inr (slot_ne (Or.inl ww68) (Or.inl ww46) (by decide) (t := .int) (t' := .int) (by decide) (by decide)))
  have F113 := F_ea.other W103 (Or.inr (slot_ne (Or.inl ww70) (Or.inl ww46) (by decide) (t := .int) (t' := .int) (by decide) (by decide)))
  have F114 := V_o.other W103 (Ne.symm n1)
  have F115 := V_t.other W103 (Ne.symm n2)
  have N103 := Fr.snoc X103 N0 ga
  have K103 := K0.wr W103 (Or.inl (List.mem_of_getElem? (i := 0) rfl))
  have Y103 := Nat.le_trans Z0 (Nat.le_of_eq W103.size.symm)
  refine OwnEnd.go (fun _ k => st103 _ k) ?_
  show OwnEnd p e below s _ _ _ (T103.setTop (mkF m 33 #[.val (.ref a1), .val (.int p2), .val (.int rc)] []))
  refine OwnEnd.go (fun _ k => XS.aloadN X103.here hx rfl (hb hby d6d0_33) rfl rfl k) ?_
  show OwnEnd p e below s _ _ _ (T103.setTop (mkF m 34 #[.val (.ref a1), .val (.int p2), .val (.int rc)] [(.ref a1)]))
  refine OwnEnd.go (fun _ k => XS.dup X103.here hx rfl (hb hby d6d0_34) rfl rfl k) ?_
  show OwnEnd p e below s _ _ _ (T103.setTop (mkF m 35 #[.val (.ref a1), .val (.int p2), .val (.int rc)] [(.ref a1), (.ref a1)]))
  obtain ⟨T116, X116, e116, st116⟩ := getF X103 hx hZ hown (host := "") (Or.inl ww31) Via.refl e103 F108 (g := (mkF m 35 #[.val (.ref a1), .val (.int p2), .val (.int rc)] [(.ref a1), (.ref a1)])) rfl rfl (hb hby d6d0_35)
  refine OwnEnd.go (fun _ k => st116 _ k) ?_
  show OwnEnd p e below s _ _ _ (T116.setTop (mkF m 38 #[.val (.ref a1), .val (.int p2), .val (.int rc)] [(.int rc), (.ref a1)]))
  refine OwnEnd.go (fun _ k => XS.iloadN X116.here hx rfl (hb hby d6d0_38) rfl  k) ?_
  show OwnEnd p e below s _ _ _ (T116.setTop (mkF m 39 #[.val (.ref a1), .val (.int p2), .val (.int rc)] [(.int p2), (.int rc), (.ref a1)]))
  refine OwnEnd.go (fun _ k => XS.iadd X116.here hx rfl (hb hby d6d0_39) rfl k) ?_
  show OwnEnd p e below s _ _ _ (T116.setTop (mkF m 40 #[.val (.ref a1), .val (.int p2), .val (.int rc)] [(.int (rc + p2)), (.ref a1)]))
  obtain ⟨T117, h117, X117, e117, W117, st117⟩ := putF X116 hx hZ hown (host := "") (Or.inl ww31) Via.refl e116 F108 F105 (Or.inl ww32) ww13 (ty := .int) (by decide) rfl rfl (g := (mkF m 40 #[.val (.ref a1), .val (.int p2), .val (.int rc)] [(.int (rc + p2)), (.ref a1)])) rfl rfl (hb hby d6d0_40)
  have F118 := F105.wr W117
  have F119 := F106.other W117 (Or.inr (slot_ne (Or.inl ww23) (Or.inl ww32) (by decide) (t := (.array .int)) (t' := .int) (by decide) (by decide)))
  have F120 := F107.other W117 (Or.inr (slot_ne (Or.inl ww25) (Or.inl ww32) (by decide) (t := (.array .int)) (t' := .int) (by decide) (by decide)))
  have F121 := F108.same W117
  have F122 := F109.other W117 (Or.inr (slot_ne (Or.inl ww44) (Or.inl ww32) (by decide) (t := .int) (t' := .int) (by decide) (by decide)))
  have F123 := F110.other W117 (Or.inr (slot_ne (Or.inl ww46) (Or.inl ww32) (by decide) (t := .int) (t' := .int) (by decide) (by decide)))
  have F124 := F111.other W117 (Or.inr (slot_ne (Or.inl ww66) (Or.inl ww32) (by decide) (t := .int) (t' := .int) (by decide) (by decide)))
  have F125 := F112.other W117 (Or.inr (slot_ne (Or.inl ww68) (Or.inl ww32) (by decide) (t := .int) (t' := .int) (by decide) (by decide)))
  have F126 := F113.other W117 (Or.inr (slot_ne (Or.inl ww70) (Or.inl ww32) (by decide) (t := .int) (t' := .int) (by decide) (by decide)))
  have F127 := F114.other W117 (Ne.symm n1)
  have F128 := F115.other W117 (Ne.symm n2)
  have N117 := Fr.snoc X117 N103 ga
  have K117 := K103.wr W117 (Or.inl (List.mem_of_getElem? (i := 0) rfl))
  have Y117 := Nat.le_trans Y103 (Nat.le_of_eq W117.size.symm)
  refine OwnEnd.go (fun _ k => st117 _ k) ?_
  show OwnEnd p e below s _ _ _ (T117.setTop (mkF m 43 #[.val (.ref a1), .val (.int p2), .val (.int rc)] []))
  refine OwnEnd.go (fun _ k => XS.iloadN X117.here hx rfl (hb hby d6d0_43) rfl  k) ?_
  show OwnEnd p e below s _ _ _ (T117.setTop (mkF m 44 #[.val (.ref a1), .val (.int p2), .val (.int rc)] [(.int rc)]))
  refine ownRetI X117 hx hlk hret (hb hby d6d0_44) (by decide) (by decide) ?_
  show Q6d0 Z a1 p2 bo bt rc o0 o1 t0 t1 er es ea h0 n0 _ T117.heap _
  rw [e117]
  exact ⟨rfl, N117, K117, ⟨ga, go, gt, n1, n2, n3, F118, F119, F120, F121, F122, ⟨_, F123⟩, F124, F125, F126, ⟨_, F127⟩, ⟨_, F128⟩⟩⟩
theorem d5d0leaf_0 : decode prog_249_method_2_code 0 = .ok (.aload_n 0, 1) := by decide +kernel
theorem d5d0leaf_1 : decode prog_249_method_2_code 1 = .ok (.iconst 1, 1) := by decide +kernel
theorem d5d0leaf_2 : decode prog_249_method_2_code 2 = .ok (.invokevirtual 16, 3) := by decide +kernel
theorem d5d0leaf_5 : decode prog_249_method_2_code 5 = .ok (.istore_n 2, 1) := by decide +kernel
theorem d5d0leaf_6 : decode prog_249_method_2_code 6 = .ok (.aload_n 1, 1) := by decide +kernel
theorem d5d0leaf_7 : decode prog_249_method_2_code 7 = .ok (.getstatic 20, 3) := by decide +kernel
theorem d5d0leaf_10 : decode prog_249_method_2_code 10 = .ok (.if_acmp .ne 25, 3) := by decide +kernel
theorem d5d0leaf_13 : decode prog_249_method_2_code 13 = .ok (.aload_n 0, 1) := by decide +kernel
theorem d5d0leaf_14 : decode prog_249_method_2_code 14 = .ok (.getfield 26, 3) := by decide +kernel
theorem d5d0leaf_17 : decode prog_249_method_2_code 17 = .ok (.ifCond .le 18, 3) := by decide +kernel
theorem d5d0leaf_35 : decode prog_249_method_2_code 35 = .ok (.aload_n 1, 1) := by decide +kernel
theorem d5d0leaf_36 : decode prog_249_method_2_code 36 = .ok (.getstatic 30, 3) := by decide +kernel
theorem d5d0leaf_39 : decode prog_249_method_2_code 39 = .ok (.if_acmp .eq 10, 3) := by decide +kernel
theorem d5d0leaf_42 : decode prog_249_method_2_code 42 = .ok (.aload_n 1, 1) := by decide +kernel
theorem d5d0leaf_43 : decode prog_249_method_2_code 43 = .ok (.getstatic 33, 3) := by decide +kernel
theorem d5d0leaf_46 : decode prog_249_method_2_code 46 = .ok (.if_acmp .ne 79, 3) := by decide +kernel
theorem d5d0leaf_125 : decode prog_249_method_2_code 125 = .ok (.iload_n 2, 1) := by decide +kernel
theorem d5d0leaf_126 : decode prog_249_method_2_code 126 = .ok (.ireturn, 1) := by decide +kernel
theorem pn_5d0leaf : plainName "com/example/rewoven_tree/rewoventree/storage/TableShape" = true := by first | (simp [plainName, overriddenIn]; done) | decide +kernel
theorem pd5d0leaf_0 : parseMethodDescriptor "(I)I" = some ⟨[.int], some .int⟩ := by decide +kernel
theorem ef_5d0leaf (m : MethodId) (x0 : Addr) (x1 : Addr) : entryFrame m #[(.ref x0), (.ref x1)] 3 = mkF m 0 #[.val (.ref x0), .val (.ref x1), .unset] [] := by first | (simp [entryFrame, mkF, argsToLocals, Value.category]; done) | rfl
def Q5d0leaf (Z : State) (a1 : Addr) (a2 : Addr) (bo : Addr) (bt : Addr) (rc : Int32) (o0 : Int32) (o1 : Int32) (t0 : Int32) (t1 : Int32) (er : Int32) (es : Int32) (ea : Int32) (xA : Addr) (xE : Addr) (xD : Addr) (h0 : Heap) (n0 : Nat) (v : Option Value) (h : Heap) (L : List Loc) : Prop := v = some (.int rc) ∧ Fr n0 L ∧ Keep h0 h [a1, bo, bt] ∧ ownTS Z h n0 a1 bo bt (rc + (1 : Int32)) (0 : Int32) o0 o1 t0 t1 er es ea
set_option maxRecDepth 65536 in
set_option maxHeartbeats 40000000 in
theorem rm5d0leaf (l : Launch) (Z : State) (a0 : Array Value) (hw : ∀ d ∈ tables_1, d.before a0 Z = true) (ws : List Jvm.Cond) (a1 : Addr) (a2 : Addr) (bo : Addr) (bt : Addr) (rc : Int32) (o0 : Int32) (o1 : Int32) (t0 : Int32) (t1 : Int32) (er : Int32) (es : Int32) (ea : Int32) (xA : Addr) (xE : Addr) (xD : Addr) (h0 : Heap) (n0 : Nat) (Z0 : n0 ≤ h0.size) (O0 : Old Z n0 h0) (SA : Sta Z Z.heap "com/example/rewoven_tree/rewoventree/storage/NodeKind" "ATTRIBUTE" "Lcom/example/rewoven_tree/rewoventree/storage/NodeKind;" (.ref xA)) (SE : Sta Z Z.heap "com/example/rewoven_tree/rewoventree/storage/NodeKind" "ELEMENT" "Lcom/example/rewoven_tree/rewoventree/storage/NodeKind;" (.ref xE)) (SD : Sta Z Z.heap "com/example/rewoven_tree/rewoventree/storage/NodeKind" "DOCUMENT" "Lcom/example/rewoven_tree/rewoventree/storage/NodeKind;" (.ref xD)) (nE : a2 ≠ xE) (nD : a2 ≠ xD) (B0 : ownTS Z h0 n0 a1 bo bt rc (0 : Int32) o0 o1 t0 t1 er es ea) :
    MetFree l (⟨"com/example/rewoven_tree/rewoventree/storage/TableShape", "place", "(Lcom/example/rewoven_tree/rewoventree/storage/NodeKind;)I"⟩ : MethodName) (head1 (Jvm.Cond.code (⟨"com/example/rewoven_tree/rewoventree/storage/TableShape", "place", "(Lcom/example/rewoven_tree/rewoventree/storage/NodeKind;)I"⟩ : MethodName) prog_249_method_2_code 3 (some .int) :: ws) ({ frames := 1, cells := 0, slots := 0, locals := 14 } : Room)) (fun a U => a = #[(.ref a1), (.ref a2)] ∧ Z.Warmed39 U.vm ∧ U.heap = h0) (fun _ _ _ _ _ => True) (fun _ U o U' => ∃ v L, o = .returned v ∧ Q5d0leaf Z a1 a2 bo bt rc o0 o1 t0 t1 er es ea xA xE xD h0 n0 v U'.heap L ∧ FrameEnd U o U' L ({ frames := 1, cells := 0, slots := 0, locals := 14 } : Room).cells ({ frames := 1, cells := 0, slots := 0, locals := 14 } : Room).slots) := by
  have ww14 := hw _ (List.mem_of_getElem? (i := 14) rfl)
  have ww38 := hw _ (List.mem_of_getElem? (i := 38) rfl)
  have ww39 := hw _ (List.mem_of_getElem? (i := 39) rfl)
  have ww40 := hw _ (List.mem_of_getElem? (i := 40) rfl)
  have ww41 := hw _ (List.mem_of_getElem? (i := 41) rfl)
  have ww42 := hw _ (List.mem_of_getElem? (i := 42) rfl)
  have ww43 := hw _ (List.mem_of_getElem? (i := 43) rfl)
  have ww47 := hw _ (List.mem_of_getElem? (i := 47) rfl)
  have ww48 := hw _ (List.mem_of_getElem? (i := 48) rfl)
  have ww49 := hw _ (List.mem_of_getElem? (i := 49) rfl)
  refine MetFree.of_bodySF (plainFor_of_name pn_5d0leaf) hisR ?_
  intro p e s m args below meth c s₁ Bd hml0 hP hK
  obtain ⟨rfl, hZ, hh⟩ := hP
  have hx := Bd.exec
  have hby := Bd.bytes
  have hlk : meth.locks = false := Bd.notSynchronized
  have hret := Bd.returns
  have hml : c.maxLocals = 3 := hml0
  have hown : s.vm.findClass "com/example/rewoven_tree/rewoventree/storage/TableShape" = some m.cls := findClass_of_methodNamed Bd.named
  have hnm := (name_of_methodNamed Bd.named Bd.method).1
  have X0 : Stand p l e ({ frames := 1, cells := 0, slots := 0, locals := 14 } : Room) s m #[(.ref a1), (.ref a2)] below meth c s₁ [] 0 0 := Stand.of_body Bd
  have e0 : s₁.heap = h0 := by rw [← hh, Bd.state]; rfl
  have N0 := Fr.nil n0
  have K0 := Keep.refl h0 [a1, bo, bt]
  show OwnEnd p e below s (Q5d0leaf Z a1 a2 bo bt rc o0 o1 t0 t1 er es ea xA xE xD h0 n0) ({ frames := 1, cells := 0, slots := 0, locals := 14 } : Room).cells ({ frames := 1, cells := 0, slots := 0, locals := 14 } : Room).slots _
  refine OwnEnd.go (fun _ k => castTop (ef_5d0leaf m a1 a2) k) ?_
  have E1 := B0.2.2.2.2.2.2.1
  have ga := B0.1
  have go := B0.2.1
  have gt := B0.2.2.1
  show OwnEnd p e below s _ _ _ (s₁.setTop (mkF m 0 #[.val (.ref a1), .val (.ref a2), .unset] []))
  refine OwnEnd.go (fun _ k => XS.aloadN X0.here hx rfl (hb hby d5d0leaf_0) rfl rfl k) ?_
  show OwnEnd p e below s _ _ _ (s₁.setTop (mkF m 1 #[.val (.ref a1), .val (.ref a2), .unset] [(.ref a1)]))
  refine OwnEnd.go (fun _ k => XS.iconst X0.here hx rfl (hb hby d5d0leaf_1) k) ?_
  show OwnEnd p e below s _ _ _ (s₁.setTop (mkF m 2 #[.val (.ref a1), .val (.ref a2), .unset] [(.int (1 : Int32)), (.ref a1)]))
  obtain ⟨_, T101, L101, X101, hQ101, st101⟩ := ownCallV X0 hx hZ hown ww38 ww39 ww41 ww40 ww14 ww42 (by decide) (rm6d0 l Z a0 hw [] a1 (1 : Int32) bo bt rc o0 o1 t0 t1 er es ea h0 n0 Z0  B0) e0 E1 0 (by decide) (by decide) (by decide) (by decide) (g := (mkF m 2 #[.val (.ref a1), .val (.ref a2), .unset] [(.int (1 : Int32)), (.ref a1)])) rfl (by rw [hml]; rfl) (argsL := [(.int (1 : Int32))]) (rest := []) (lenOf pd5d0leaf_0 rfl) rfl rfl (by show 2 * 0 + _ ≤ _; exact Nat.le_of_eq rfl) (hb hby d5d0leaf_2)
  obtain ⟨rfl, N101q, K101q, P102⟩ := hQ101
  have N101 := Fr.app N0 N101q
  have F104 := E1.keep K101q
  have K101 := K0.trans K101q (allS (Or.inl (List.mem_of_getElem? (i := 0) rfl)) (allS (Or.inl (List.mem_of_getElem? (i := 1) rfl)) (allS (Or.inl (List.mem_of_getElem? (i := 2) rfl)) all0)))
  have Y101 := Nat.le_trans Z0 K101q.1
  have O101 := O0.keep K101q (allS ga (allS go (allS gt all0)))
  refine OwnEnd.go (fun _ k => st101 _ k) ?_
  obtain ⟨-, -, -, n1, n2, n3, E2, F_open, F_attr, F_rc, F_dp, ⟨di, F_di⟩, F_er, F_es, F_ea, ⟨ko, V_o⟩, ⟨kt, V_t⟩⟩ := P102
  show OwnEnd p e below s _ _ _ (T101.setTop (mkF m 5 #[.val (.ref a1), .val (.ref a2), .unset] [(.int rc)]))
  refine OwnEnd.go (fun _ k => XS.istoreN X101.here hx rfl (hb hby d5d0leaf_5) rfl  (l' := #[.val (.ref a1), .val (.ref a2), .val (.int rc)]) rfl k) ?_
  show OwnEnd p e below s _ _ _ (T101.setTop (mkF m 6 #[.val (.ref a1), .val (.ref a2), .val (.int rc)] []))
  refine OwnEnd.go (fun _ k => XS.aloadN X101.here hx rfl (hb hby d5d0leaf_6) rfl rfl k) ?_
  show OwnEnd p e below s _ _ _ (T101.setTop (mkF m 7 #[.val (.ref a1), .val (.ref a2), .val (.int rc)] [(.ref a2)]))
  obtain ⟨T105, X105, e105, st105⟩ := getS2 X101 hx hZ hown (host := "") (Or.inl ww47) Via.refl (rfl : T101.heap = T101.heap) (SA.ext O101.2) (g := (mkF m 7 #[.val (.ref a1), .val (.ref a2), .val (.int rc)] [(.ref a2)])) rfl (hb hby d5d0leaf_7)
  refine OwnEnd.go (fun _ k => st105 _ k) ?_
  show OwnEnd p e below s _ _ _ (T105.setTop (mkF m 10 #[.val (.ref a1), .val (.ref a2), .val (.int rc)] [(.ref xA), (.ref a2)]))
  by_cases ha106 : a2 = xA
  · refine OwnEnd.go (fun _ k => Jvm.RoadKit.acmp (g := (mkF m 10 #[.val (.ref a1), .val (.ref a2), .val (.int rc)] [(.ref xA), (.ref a2)])) X105 hx rfl rfl rfl (pc0 := 10) (pc' := 13) (same := true) rfl (hb hby d5d0leaf_10) rfl (decide_eq_true (congrArg Value.ref ha106)) (by decide) (by decide) k) ?_
    show OwnEnd p e below s _ _ _ (T105.setTop (mkF m 13 #[.val (.ref a1), .val (.ref a2), .val (.int rc)] []))
    refine OwnEnd.go (fun _ k => XS.aloadN X105.here hx rfl (hb hby d5d0leaf_13) rfl rfl k) ?_
    show OwnEnd p e below s _ _ _ (T105.setTop (mkF m 14 #[.val (.ref a1), .val (.ref a2), .val (.int rc)] [(.ref a1)]))
    obtain ⟨T107, X107, e107, st107⟩ := getF X105 hx hZ hown (host := "") (Or.inl ww43) Via.refl e105 F_dp (g := (mkF m 14 #[.val (.ref a1), .val (.ref a2), .val (.int rc)] [(.ref a1)])) rfl rfl (hb hby d5d0leaf_14)
    refine OwnEnd.go (fun _ k => st107 _ k) ?_
    show OwnEnd p e below s _ _ _ (T107.setTop (mkF m 17 #[.val (.ref a1), .val (.ref a2), .val (.int rc)] [(.int (0 : Int32))]))
    refine OwnEnd.go (fun _ k => XS.ifYes X107.here hx rfl (pc0 := 17) (pc' := 35) rfl (hb hby d5d0leaf_17) rfl ((if0 _ _).trans (flt (by decide : ¬ (0 : Int32) < (0 : Int32))).2.2.2) (by decide) (by decide) k) ?_
    show OwnEnd p e below s _ _ _ (T107.setTop (mkF m 35 #[.val (.ref a1), .val (.ref a2), .val (.int rc)] []))
    refine OwnEnd.go (fun _ k => XS.aloadN X107.here hx rfl (hb hby d5d0leaf_35) rfl rfl k) ?_
    show OwnEnd p e below s _ _ _ (T107.setTop (mkF m 36 #[.val (.ref a1), .val (.ref a2), .val (.int rc)] [(.ref a2)]))
    obtain ⟨T108, X108, e108, st108⟩ := getS2 X107 hx hZ hown (host := "") (Or.inl ww48) Via.refl e107 (SE.ext O101.2) (g := (mkF m 36 #[.val (.ref a1), .val (.ref a2), .val (.int rc)] [(.ref a2)])) rfl (hb hby d5d0leaf_36)
    refine OwnEnd.go (fun _ k => st108 _ k) ?_
    show OwnEnd p e below s _ _ _ (T108.setTop (mkF m 39 #[.val (.ref a1), .val (.ref a2), .val (.int rc)] [(.ref xE), (.ref a2)]))
    refine OwnEnd.go (fun _ k => Jvm.RoadKit.acmp (g := (mkF m 39 #[.val (.ref a1), .val (.ref a2), .val (.int rc)] [(.ref xE), (.ref a2)])) X108 hx rfl rfl rfl (pc0 := 39) (pc' := 42) (same := false) rfl (hb hby d5d0leaf_39) rfl (decide_eq_false fun q => nE (Value.ref.inj q)) (by decide) (by decide) k) ?_
    show OwnEnd p e below s _ _ _ (T108.setTop (mkF m 42 #[.val (.ref a1), .val (.ref a2), .val (.int rc)] []))
    refine OwnEnd.go (fun _ k => XS.aloadN X108.here hx rfl (hb hby d5d0leaf_42) rfl rfl k) ?_
    show OwnEnd p e below s _ _ _ (T108.setTop (mkF m 43 #[.val (.ref a1), .val (.ref a2), .val (.int rc)] [(.ref a2)]))
    obtain ⟨T109, X109, e109, st109⟩ := getS2 X108 hx hZ hown (host := "") (Or.inl ww49) Via.refl e108 (SD.ext O101.2) (g := (mkF m 43 #[.val (.ref a1), .val (.ref a2), .val (.int rc)] [(.ref a2)])) rfl (hb hby d5d0leaf_43)
    refine OwnEnd.go (fun _ k => st109 _ k) ?_
    show OwnEnd p e below s _ _ _ (T109.setTop (mkF m 46 #[.val (.ref a1), .val (.ref a2), .val (.int rc)] [(.ref xD), (.ref a2)]))
    refine OwnEnd.go (fun _ k => Jvm.RoadKit.acmp (g := (mkF m 46 #[.val (.ref a1), .val (.ref a2), .val (.int rc)] [(.ref xD), (.ref a2)])) X109 hx rfl rfl rfl (pc0 := 46) (pc' := 125) (same := false) rfl (hb hby d5d0leaf_46) rfl (decide_eq_false fun q => nD (Value.ref.inj q)) (by decide) (by decide) k) ?_
    show OwnEnd p e below s _ _ _ (T109.setTop (mkF m 125 #[.val (.ref a1), .val (.ref a2), .val (.int rc)] []))
    refine OwnEnd.go (fun _ k => XS.iloadN X109.here hx rfl (hb hby d5d0leaf_125) rfl  k) ?_
    show OwnEnd p e below s _ _ _ (T109.setTop (mkF m 126 #[.val (.ref a1), .val (.ref a2), .val (.int rc)] [(.int rc)]))
    refine ownRetI X109 hx hlk hret (hb hby d5d0leaf_126) (by decide) (by decide) ?_
    show Q5d0leaf Z a1 a2 bo bt rc o0 o1 t0 t1 er es ea xA xE xD h0 n0 _ T109.heap _
    rw [e109]
    exact ⟨rfl, N101, K101, ⟨ga, go, gt, n1, n2, n3, E2, F_open, F_attr, F_rc, F_dp, ⟨_, F_di⟩, F_er, F_es, F_ea, ⟨_, V_o⟩, ⟨_, V_t⟩⟩⟩
  · refine OwnEnd.go (fun _ k => Jvm.RoadKit.acmp (g := (mkF m 10 #[.val (.ref a1), .val (.ref a2), .val (.int rc)] [(.ref xA), (.ref a2)])) X105 hx rfl rfl rfl (pc0 := 10) (pc' := 35) (same := false) rfl (hb hby d5d0leaf_10) rfl (decide_eq_false fun q => ha106 (Value.ref.inj q)) (by decide) (by decide) k) ?_
    show OwnEnd p e below s _ _ _ (T105.setTop (mkF m 35 #[.val (.ref a1), .val (.ref a2), .val (.int rc)] []))
    refine OwnEnd.go (fun _ k => XS.aloadN X105.here hx rfl (hb hby d5d0leaf_35) rfl rfl k) ?_
    show OwnEnd p e below s _ _ _ (T105.setTop (mkF m 36 #[.val (.ref a1), .val (.ref a2), .val (.int rc)] [(.ref a2)]))
    obtain ⟨T110, X110, e110, st110⟩ := getS2 X105 hx hZ hown (host := "") (Or.inl ww48) Via.refl e105 (SE.ext O101.2) (g := (mkF m 36 #[.val (.ref a1), .val (.ref a2), .val (.int rc)] [(.ref a2)])) rfl (hb hby d5d0leaf_36)
    refine OwnEnd.go (fun _ k => st110 _ k) ?_
    show OwnEnd p e below s _ _ _ (T110.setTop (mkF m 39 #[.val (.ref a1), .val (.ref a2), .val (.int rc)] [(.ref xE), (.ref a2)]))
    refine OwnEnd.go (fun _ k => Jvm.RoadKit.acmp (g := (mkF m 39 #[.val (.ref a1), .val (.ref a2), .val (.int rc)] [(.ref xE), (.ref a2)])) X110 hx rfl rfl rfl (pc0 := 39) (pc' := 42) (same := false) rfl (hb hby d5d0leaf_39) rfl (decide_eq_false fun q => nE (Value.ref.inj q)) (by decide) (by decide) k) ?_
    show OwnEnd p e below s _ _ _ (T110.setTop (mkF m 42 #[.val (.ref a1), .val (.ref a2), .val (.int rc)] []))
    refine OwnEnd.go (fun _ k => XS.aloadN X110.here hx rfl (hb hby d5d0leaf_42) rfl rfl k) ?_
    show OwnEnd p e below s _ _ _ (T110.setTop (mkF m 43 #[.val (.ref a1), .val (.ref a2), .val (.int rc)] [(.ref a2)]))
    obtain ⟨T111, X111, e111, st111⟩ := getS2 X110 hx hZ hown (host := "") (Or.inl ww49) Via.refl e110 (SD.ext O101.2) (g := (mkF m 43 #[.val (.ref a1), .val (.ref a2), .val (.int rc)] [(.ref a2)])) rfl (hb hby d5d0leaf_43)
    refine OwnEnd.go (fun _ k => st111 _ k) ?_
    show OwnEnd p e below s _ _ _ (T111.setTop (mkF m 46 #[.val (.ref a1), .val (.ref a2), .val (.int rc)] [(.ref xD), (.ref a2)]))
    refine OwnEnd.go (fun _ k => Jvm.RoadKit.acmp (g := (mkF m 46 #[.val (.ref a1), .val (.ref a2), .val (.int rc)] [(.ref xD), (.ref a2)])) X111 hx rfl rfl rfl (pc0 := 46) (pc' := 125) (same := false) rfl (hb hby d5d0leaf_46) rfl (decide_eq_false fun q => nD (Value.ref.inj q)) (by decide) (by decide) k) ?_
    show OwnEnd p e below s _ _ _ (T111.setTop (mkF m 125 #[.val (.ref a1), .val (.ref a2), .val (.int rc)] []))
    refine OwnEnd.go (fun _ k => XS.iloadN X111.here hx rfl (hb hby d5d0leaf_125) rfl  k) ?_
    show OwnEnd p e below s _ _ _ (T111.setTop (mkF m 126 #[.val (.ref a1), .val (.ref a2), .val (.int rc)] [(.int rc)]))
    refine ownRetI X111 hx hlk hret (hb hby d5d0leaf_126) (by decide) (by decide) ?_
    show Q5d0leaf Z a1 a2 bo bt rc o0 o1 t0 t1 er es ea xA xE xD h0 n0 _ T111.heap _
    rw [e111]
    exact ⟨rfl, N101, K101, ⟨ga, go, gt, n1, n2, n3, E2, F_open, F_attr, F_rc, F_dp, ⟨_, F_di⟩, F_er, F_es, F_ea, ⟨_, V_o⟩, ⟨_, V_t⟩⟩⟩
theorem d5d0open_0 : decode prog_249_method_2_code 0 = .ok (.aload_n 0, 1) := by decide +kernel
theorem d5d0open_1 : decode prog_249_method_2_code 1 = .ok (.iconst 1, 1) := by decide +kernel
theorem d5d0open_2 : decode prog_249_method_2_code 2 = .ok (.invokevirtual 16, 3) := by decide +kernel
theorem d5d0open_5 : decode prog_249_method_2_code 5 = .ok (.istore_n 2, 1) := by decide +kernel
theorem d5d0open_6 : decode prog_249_method_2_code 6 = .ok (.aload_n 1, 1) := by decide +kernel
theorem d5d0open_7 : decode prog_249_method_2_code 7 = .ok (.getstatic 20, 3) := by decide +kernel
theorem d5d0open_10 : decode prog_249_method_2_code 10 = .ok (.if_acmp .ne 25, 3) := by decide +kernel
theorem d5d0open_35 : decode prog_249_method_2_code 35 = .ok (.aload_n 1, 1) := by decide +kernel
theorem d5d0open_36 : decode prog_249_method_2_code 36 = .ok (.getstatic 30, 3) := by decide +kernel
theorem d5d0open_39 : decode prog_249_method_2_code 39 = .ok (.if_acmp .eq 10, 3) := by decide +kernel
theorem d5d0open_42 : decode prog_249_method_2_code 42 = .ok (.aload_n 1, 1) := by decide +kernel
theorem d5d0open_43 : decode prog_249_method_2_code 43 = .ok (.getstatic 33, 3) := by decide +kernel
theorem d5d0open_46 : decode prog_249_method_2_code 46 = .ok (.if_acmp .ne 79, 3) := by decide +kernel
theorem d5d0open_49 : decode prog_249_method_2_code 49 = .ok (.aload_n 0, 1) := by decide +kernel
theorem d5d0open_50 : decode prog_249_method_2_code 50 = .ok (.getfield 26, 3) := by decide +kernel
theorem d5d0open_53 : decode prog_249_method_2_code 53 = .ok (.aload_n 0, 1) := by decide +kernel
theorem d5d0open_54 : decode prog_249_method_2_code 54 = .ok (.getfield 7, 3) := by decide +kernel
theorem d5d0open_57 : decode prog_249_method_2_code 57 = .ok (.arraylength, 1) := by decide +kernel
theorem d5d0open_58 : decode prog_249_method_2_code 58 = .ok (.if_icmp .ne 37, 3) := by decide +kernel
theorem d5d0open_95 : decode prog_249_method_2_code 95 = .ok (.aload_n 0, 1) := by decide +kernel
theorem d5d0open_96 : decode prog_249_method_2_code 96 = .ok (.getfield 7, 3) := by decide +kernel
theorem d5d0open_99 : decode prog_249_method_2_code 99 = .ok (.aload_n 0, 1) := by decide +kernel
theorem d5d0open_100 : decode prog_249_method_2_code 100 = .ok (.getfield 26, 3) := by decide +kernel
theorem d5d0open_103 : decode prog_249_method_2_code 103 = .ok (.iload_n 2, 1) := by decide +kernel
theorem d5d0open_104 : decode prog_249_method_2_code 104 = .ok (.iastore, 1) := by decide +kernel
theorem d5d0open_105 : decode prog_249_method_2_code 105 = .ok (.aload_n 0, 1) := by decide +kernel
theorem d5d0open_106 : decode prog_249_method_2_code 106 = .ok (.getfield 13, 3) := by decide +kernel
theorem d5d0open_109 : decode prog_249_method_2_code 109 = .ok (.aload_n 0, 1) := by decide +kernel
theorem d5d0open_110 : decode prog_249_method_2_code 110 = .ok (.getfield 26, 3) := by decide +kernel
theorem d5d0open_113 : decode prog_249_method_2_code 113 = .ok (.iconst 0, 1) := by decide +kernel
theorem d5d0open_114 : decode prog_249_method_2_code 114 = .ok (.iastore, 1) := by decide +kernel
theorem d5d0open_115 : decode prog_249_method_2_code 115 = .ok (.aload_n 0, 1) := by decide +kernel
theorem d5d0open_116 : decode prog_249_method_2_code 116 = .ok (.dup, 1) := by decide +kernel
theorem d5d0open_117 : decode prog_249_method_2_code 117 = .ok (.getfield 26, 3) := by decide +kernel
theorem d5d0open_120 : decode prog_249_method_2_code 120 = .ok (.iconst 1, 1) := by decide +kernel
theorem d5d0open_121 : decode prog_249_method_2_code 121 = .ok (.iadd, 1) := by decide +kernel
theorem d5d0open_122 : decode prog_249_method_2_code 122 = .ok (.putfield 26, 3) := by decide +kernel
theorem d5d0open_125 : decode prog_249_method_2_code 125 = .ok (.iload_n 2, 1) := by decide +kernel
theorem d5d0open_126 : decode prog_249_method_2_code 126 = .ok (.ireturn, 1) := by decide +kernel
theorem pn_5d0open : plainName "com/example/rewoven_tree/rewoventree/storage/TableShape" = true := by first | (simp [plainName, overriddenIn]; done) | decide +kernel
theorem pd5d0open_0 : parseMethodDescriptor "(I)I" = some ⟨[.int], some .int⟩ := by decide +kernel
theorem ef_5d0open (m : MethodId) (x0 : Addr) (x1 : Addr) : entryFrame m #[(.ref x0), (.ref x1)] 3 = mkF m 0 #[.val (.ref x0), .val (.ref x1), .unset] [] := by first | (simp [entryFrame, mkF, argsToLocals, Value.category]; done) | rfl
def Q5d0open (Z : State) (a1 : Addr) (a2 : Addr) (bo : Addr) (bt : Addr) (rc : Int32) (o0 : Int32) (o1 : Int32) (t0 : Int32) (t1 : Int32) (er : Int32) (es : Int32) (ea : Int32) (xA : Addr) (xE : Addr) (xD : Addr) (h0 : Heap) (n0 : Nat) (v : Option Value) (h : Heap) (L : List Loc) : Prop := v = some (.int rc) ∧ Fr n0 L ∧ Keep h0 h [a1, bo, bt] ∧ ownTS Z h n0 a1 bo bt (rc + (1 : Int32)) (1 : Int32) rc o1 (0 : Int32) t1 er es ea
set_option maxRecDepth 65536 in
set_option maxHeartbeats 40000000 in
theorem rm5d0open (l : Launch) (Z : State) (a0 : Array Value) (hw : ∀ d ∈ tables_1, d.before a0 Z = true) (ws : List Jvm.Cond) (a1 : Addr) (a2 : Addr) (bo : Addr) (bt : Addr) (rc : Int32) (o0 : Int32) (o1 : Int32) (t0 : Int32) (t1 : Int32) (er : Int32) (es : Int32) (ea : Int32) (xA : Addr) (xE : Addr) (xD : Addr) (h0 : Heap) (n0 : Nat) (Z0 : n0 ≤ h0.size) (O0 : Old Z n0 h0) (SA : Sta Z Z.heap "com/example/rewoven_tree/rewoventree/storage/NodeKind" "ATTRIBUTE" "Lcom/example/rewoven_tree/rewoventree/storage/NodeKind;" (.ref xA)) (SE : Sta Z Z.heap "com/example/rewoven_tree/rewoventree/storage/NodeKind" "ELEMENT" "Lcom/example/rewoven_tree/rewoventree/storage/NodeKind;" (.ref xE)) (SD : Sta Z Z.heap "com/example/rewoven_tree/rewoventree/storage/NodeKind" "DOCUMENT" "Lcom/example/rewoven_tree/rewoventree/storage/NodeKind;" (.ref xD)) (nA : a2 ≠ xA) (hk : a2 = xE ∨ a2 = xD) (B0 : ownTS Z h0 n0 a1 bo bt rc (0 : Int32) o0 o1 t0 t1 er es ea) :
    MetFree l (⟨"com/example/rewoven_tree/rewoventree/storage/TableShape", "place", "(Lcom/example/rewoven_tree/rewoventree/storage/NodeKind;)I"⟩ : MethodName) (head1 (Jvm.Cond.code (⟨"com/example/rewoven_tree/rewoventree/storage/TableShape", "place", "(Lcom/example/rewoven_tree/rewoventree/storage/NodeKind;)I"⟩ : MethodName) prog_249_method_2_code 3 (some .int) :: ws) ({ frames := 1, cells := 0, slots := 0, locals := 14 } : Room)) (fun a U => a = #[(.ref a1), (.ref a2)] ∧ Z.Warmed39 U.vm ∧ U.heap = h0) (fun _ _ _ _ _ => True) (fun _ U o U' => ∃ v L, o = .returned v ∧ Q5d0open Z a1 a2 bo bt rc o0 o1 t0 t1 er es ea xA xE xD h0 n0 v U'.heap L ∧ FrameEnd U o U' L ({ frames := 1, cells := 0, slots := 0, locals := 14 } : Room).cells ({ frames := 1, cells := 0, slots := 0, locals := 14 } : Room).slots) := by
  have ww13 := hw _ (List.mem_of_getElem? (i := 13) rfl)
  have ww14 := hw _ (List.mem_of_getElem? (i := 14) rfl)
  have ww22 := hw _ (List.mem_of_getElem? (i := 22) rfl)
  have ww23 := hw _ (List.mem_of_getElem? (i := 23) rfl)
  have ww24 := hw _ (List.mem_of_getElem? (i := 24) rfl)
  have ww25 := hw _ (List.mem_of_getElem? (i := 25) rfl)
  have ww32 := hw _ (List.mem_of_getElem? (i := 32) rfl)
  have ww38 := hw _ (List.mem_of_getElem? (i := 38) rfl)
  have ww39 := hw _ (List.mem_of_getElem? (i := 39) rfl)
  have ww40 := hw _ (List.mem_of_getElem? (i := 40) rfl)
  have ww41 := hw _ (List.mem_of_getElem? (i := 41) rfl)
  have ww42 := hw _ (List.mem_of_getElem? (i := 42) rfl)
  have ww43 := hw _ (List.mem_of_getElem? (i := 43) rfl)
  have ww44 := hw _ (List.mem_of_getElem? (i := 44) rfl)
  have ww46 := hw _ (List.mem_of_getElem? (i := 46) rfl)
  have ww47 := hw _ (List.mem_of_getElem? (i := 47) rfl)
  have ww48 := hw _ (List.mem_of_getElem? (i := 48) rfl)
  have ww49 := hw _ (List.mem_of_getElem? (i := 49) rfl)
  have ww66 := hw _ (List.mem_of_getElem? (i := 66) rfl)
  have ww68 := hw _ (List.mem_of_getElem? (i := 68) rfl)
  have ww70 := hw _ (List.mem_of_getElem? (i := 70) rfl)
  refine MetFree.of_bodySF (plainFor_of_name pn_5d0open) hisR ?_
  intro p e s m args below meth c s₁ Bd hml0 hP hK
  obtain ⟨rfl, hZ, hh⟩ := hP
  have hx := Bd.exec
  have hby := Bd.bytes
  have hlk : meth.locks = false := Bd.notSynchronized
  have hret := Bd.returns
  have hml : c.maxLocals = 3 := hml0
  have hown : s.vm.findClass "com/example/rewoven_tree/rewoventree/storage/TableShape" = some m.cls := findClass_of_methodNamed Bd.named
  have hnm := (name_of_methodNamed Bd.named Bd.method).1
  have X0 : Stand p l e ({ frames := 1, cells := 0, slots := 0, locals := 14 } : Room) s m #[(.ref a1), (.ref a2)] below meth c s₁ [] 0 0 := Stand.of_body Bd
  have e0 : s₁.heap = h0 := by rw [← hh, Bd.state]; rfl
  have N0 := Fr.nil n0
  have K0 := Keep.refl h0 [a1, bo, bt]
  show OwnEnd p e below s (Q5d0open Z a1 a2 bo bt rc o0 o1 t0 t1 er es ea xA xE xD h0 n0) ({ frames := 1, cells := 0, slots := 0, locals := 14 } : Room).cells ({ frames := 1, cells := 0, slots := 0, locals := 14 } : Room).slots _
  refine OwnEnd.go (fun _ k => castTop (ef_5d0open m a1 a2) k) ?_
  have E1 := B0.2.2.2.2.2.2.1
  have ga := B0.1
  have go := B0.2.1
  have gt := B0.2.2.1
  show OwnEnd p e below s _ _ _ (s₁.setTop (mkF m 0 #[.val (.ref a1), .val (.ref a2), .unset] []))
  refine OwnEnd.go (fun _ k => XS.aloadN X0.here hx rfl (hb hby d5d0open_0) rfl rfl k) ?_
  show OwnEnd p e below s _ _ _ (s₁.setTop (mkF m 1 #[.val (.ref a1), .val (.ref a2), .unset] [(.ref a1)]))
  refine OwnEnd.go (fun _ k => XS.iconst X0.here hx rfl (hb hby d5d0open_1) k) ?_
  show OwnEnd p e below s _ _ _ (s₁.setTop (mkF m 2 #[.val (.ref a1), .val (.ref a2), .unset] [(.int (1 : Int32)), (.ref a1)]))
  obtain ⟨_, T101, L101, X101, hQ101, st101⟩ := ownCallV X0 hx hZ hown ww38 ww39 ww41 ww40 ww14 ww42 (by decide) (rm6d0 l Z a0 hw [] a1 (1 : Int32) bo bt rc o0 o1 t0 t1 er es ea h0 n0 Z0  B0) e0 E1 0 (by decide) (by decide) (by decide) (by decide) (g := (mkF m 2 #[.val (.ref a1), .val (.ref a2), .unset] [(.int (1 : Int32)), (.ref a1)])) rfl (by rw [hml]; rfl) (argsL := [(.int (1 : Int32))]) (rest := []) (lenOf pd5d0open_0 rfl) rfl rfl (by show 2 * 0 + _ ≤ _; exact Nat.le_of_eq rfl) (hb hby d5d0open_2)
  obtain ⟨rfl, N101q, K101q, P102⟩ := hQ101
  have N101 := Fr.app N0 N101q
  have F104 := E1.keep K101q
  have K101 := K0.trans K101q (allS (Or.inl (List.mem_of_getElem? (i := 0) rfl)) (allS (Or.inl (List.mem_of_getElem? (i := 1) rfl)) (allS (Or.inl (List.mem_of_getElem? (i := 2) rfl)) all0)))
  have Y101 := Nat.le_trans Z0 K101q.1
  have O101 := O0.keep K101q (allS ga (allS go (allS gt all0)))
  refine OwnEnd.go (fun _ k => st101 _ k) ?_
  obtain ⟨-, -, -, n1, n2, n3, E2, F_open, F_attr, F_rc, F_dp, ⟨di, F_di⟩, F_er, F_es, F_ea, ⟨ko, V_o⟩, ⟨kt, V_t⟩⟩ := P102
  show OwnEnd p e below s _ _ _ (T101.setTop (mkF m 5 #[.val (.ref a1), .val (.ref a2), .unset] [(.int rc)]))
  refine OwnEnd.go (fun _ k => XS.istoreN X101.here hx rfl (hb hby d5d0open_5) rfl  (l' := #[.val (.ref a1), .val (.ref a2), .val (.int rc)]) rfl k) ?_
  show OwnEnd p e below s _ _ _ (T101.setTop (mkF m 6 #[.val (.ref a1), .val (.ref a2), .val (.int rc)] []))
  refine OwnEnd.go (fun _ k => XS.aloadN X101.here hx rfl (hb hby d5d0open_6) rfl rfl k) ?_
  show OwnEnd p e below s _ _ _ (T101.setTop (mkF m 7 #[.val (.ref a1), .val (.ref a2), .val (.int rc)] [(.ref a2)]))
  obtain ⟨T105, X105, e105, st105⟩ := getS2 X101 hx hZ hown (host := "") (Or.inl ww47) Via.refl (rfl : T101.heap = T101.heap) (SA.ext O101.2) (g := (mkF m 7 #[.val (.ref a1), .val (.ref a2), .val (.int rc)] [(.ref a2)])) rfl (hb hby d5d0open_7)
  refine OwnEnd.go (fun _ k => st105 _ k) ?_
  show OwnEnd p e below s _ _ _ (T105.setTop (mkF m 10 #[.val (.ref a1), .val (.ref a2), .val (.int rc)] [(.ref xA), (.ref a2)]))
  refine OwnEnd.go (fun _ k => Jvm.RoadKit.acmp (g := (mkF m 10 #[.val (.ref a1), .val (.ref a2), .val (.int rc)] [(.ref xA), (.ref a2)])) X105 hx rfl rfl rfl (pc0 := 10) (pc' := 35) (same := false) rfl (hb hby d5d0open_10) rfl (decide_eq_false fun q => nA (Value.ref.inj q)) (by decide) (by decide) k) ?_
  show OwnEnd p e below s _ _ _ (T105.setTop (mkF m 35 #[.val (.ref a1), .val (.ref a2), .val (.int rc)] []))
  refine OwnEnd.go (fun _ k => XS.aloadN X105.here hx rfl (hb hby d5d0open_35) rfl rfl k) ?_
  show OwnEnd p e below s _ _ _ (T105.setTop (mkF m 36 #[.val (.ref a1), .val (.ref a2), .val (.int rc)] [(.ref a2)]))
  obtain ⟨T106, X106, e106, st106⟩ := getS2 X105 hx hZ hown (host := "") (Or.inl ww48) Via.refl e105 (SE.ext O101.2) (g := (mkF m 36 #[.val (.ref a1), .val (.ref a2), .val (.int rc)] [(.ref a2)])) rfl (hb hby d5d0open_36)
  refine OwnEnd.go (fun _ k => st106 _ k) ?_
  show OwnEnd p e below s _ _ _ (T106.setTop (mkF m 39 #[.val (.ref a1), .val (.ref a2), .val (.int rc)] [(.ref xE), (.ref a2)]))
  by_cases ha107 : a2 = xE
  · refine OwnEnd.go (fun _ k => Jvm.RoadKit.acmp (g := (mkF m 39 #[.val (.ref a1), .val (.ref a2), .val (.int rc)] [(.ref xE), (.ref a2)])) X106 hx rfl rfl rfl (pc0 := 39) (pc' := 49) (same := true) rfl (hb hby d5d0open_39) rfl (decide_eq_true (congrArg Value.ref ha107)) (by decide) (by decide) k) ?_
    show OwnEnd p e below s _ _ _ (T106.setTop (mkF m 49 #[.val (.ref a1), .val (.ref a2), .val (.int rc)] []))
    refine OwnEnd.go (fun _ k => XS.aloadN X106.here hx rfl (hb hby d5d0open_49) rfl rfl k) ?_
    show OwnEnd p e below s _ _ _ (T106.setTop (mkF m 50 #[.val (.ref a1), .val (.ref a2), .val (.int rc)] [(.ref a1)]))
    obtain ⟨T108, X108, e108, st108⟩ := getF X106 hx hZ hown (host := "") (Or.inl ww43) Via.refl e106 F_dp (g := (mkF m 50 #[.val (.ref a1), .val (.ref a2), .val (.int rc)] [(.ref a1)])) rfl rfl (hb hby d5d0open_50)
    refine OwnEnd.go (fun _ k => st108 _ k) ?_
    show OwnEnd p e below s _ _ _ (T108.setTop (mkF m 53 #[.val (.ref a1), .val (.ref a2), .val (.int rc)] [(.int (0 : Int32))]))
    refine OwnEnd.go (fun _ k => XS.aloadN X108.here hx rfl (hb hby d5d0open_53) rfl rfl k) ?_
    show OwnEnd p e below s _ _ _ (T108.setTop (mkF m 54 #[.val (.ref a1), .val (.ref a2), .val (.int rc)] [(.ref a1), (.int (0 : Int32))]))
    obtain ⟨T109, X109, e109, st109⟩ := getF X108 hx hZ hown (host := "") (Or.inl ww22) Via.refl e108 F_open (g := (mkF m 54 #[.val (.ref a1), .val (.ref a2), .val (.int rc)] [(.ref a1), (.int (0 : Int32))])) rfl rfl (hb hby d5d0open_54)
    refine OwnEnd.go (fun _ k => st109 _ k) ?_
    show OwnEnd p e below s _ _ _ (T109.setTop (mkF m 57 #[.val (.ref a1), .val (.ref a2), .val (.int rc)] [(.ref bo), (.int (0 : Int32))]))
    obtain ⟨c110, Ar110, q110, S110, G110, H110, J110⟩ := id V_o
    refine OwnEnd.go (fun _ k => ownLen X109 hx hZ e109 Ar110 S110 G110 (g := (mkF m 57 #[.val (.ref a1), .val (.ref a2), .val (.int rc)] [(.ref bo), (.int (0 : Int32))])) rfl rfl (hb hby d5d0open_57) _ k) ?_
    show OwnEnd p e below s _ _ _ (T109.setTop (mkF m 58 #[.val (.ref a1), .val (.ref a2), .val (.int rc)] [(.int (8 : Int32)), (.int (0 : Int32))]))
    refine OwnEnd.go (fun _ k => XS.icmpYes X109.here hx rfl (pc0 := 58) (pc' := 95) rfl (hb hby d5d0open_58) rfl (feq (by decide : ¬ (0 : Int32) = (8 : Int32))).2 (by decide) (by decide) k) ?_
    show OwnEnd p e below s _ _ _ (T109.setTop (mkF m 95 #[.val (.ref a1), .val (.ref a2), .val (.int rc)] []))
    refine OwnEnd.go (fun _ k => XS.aloadN X109.here hx rfl (hb hby d5d0open_95) rfl rfl k) ?_
    show OwnEnd p e below s _ _ _ (T109.setTop (mkF m 96 #[.val (.ref a1), .val (.ref a2), .val (.int rc)] [(.ref a1)]))
    obtain ⟨T111, X111, e111, st111⟩ := getF X109 hx hZ hown (host := "") (Or.inl ww22) Via.refl e109 F_open (g := (mkF m 96 #[.val (.ref a1), .val (.ref a2), .val (.int rc)] [(.ref a1)])) rfl rfl (hb hby d5d0open_96)
    refine OwnEnd.go (fun _ k => st111 _ k) ?_
    show OwnEnd p e below s _ _ _ (T111.setTop (mkF m 99 #[.val (.ref a1), .val (.ref a2), .val (.int rc)] [(.ref bo)]))
    refine OwnEnd.go (fun _ k => XS.aloadN X111.here hx rfl (hb hby d5d0open_99) rfl rfl k) ?_
    show OwnEnd p e below s _ _ _ (T111.setTop (mkF m 100 #[.val (.ref a1), .val (.ref a2), .val (.int rc)] [(.ref a1), (.ref bo)]))
    obtain ⟨T112, X112, e112, st112⟩ := getF X111 hx hZ hown (host := "") (Or.inl ww43) Via.refl e111 F_dp (g := (mkF m 100 #[.val (.ref a1), .val (.ref a2), .val (.int rc)] [(.ref a1), (.ref bo)])) rfl rfl (hb hby d5d0open_100)
    refine OwnEnd.go (fun _ k => st112 _ k) ?_
    show OwnEnd p e below s _ _ _ (T112.setTop (mkF m 103 #[.val (.ref a1), .val (.ref a2), .val (.int rc)] [(.int (0 : Int32)), (.ref bo)]))
    refine OwnEnd.go (fun _ k => XS.iloadN X112.here hx rfl (hb hby d5d0open_103) rfl  k) ?_
    show OwnEnd p e below s _ _ _ (T112.setTop (mkF m 104 #[.val (.ref a1), .val (.ref a2), .val (.int rc)] [(.int rc), (.int (0 : Int32)), (.ref bo)]))
    obtain ⟨c113, Ar113, q113, S113, G113, H113, J113⟩ := id V_o
    obtain ⟨T113, h113, X113, e113, W113, st113⟩ := stI X112 hx hZ e112 Ar113 (j := (0 : Int32)) (inb_of S113 ⟨by decide, by decide⟩) (g := (mkF m 104 #[.val (.ref a1), .val (.ref a2), .val (.int rc)] [(.int rc), (.int (0 : Int32)), (.ref bo)])) rfl rfl (hb hby d5d0open_104)
    have V113 : Arv Z h113 bo ko .int (8 : Int32) [(.int rc), (.int o1), (.int (0 : Int32)), (.int (0 : Int32)), (.int (0 : Int32)), (.int (0 : Int32)), (.int (0 : Int32)), (.int (0 : Int32))] (.int (0 : Int32)) := Arv.set Ar113 q113 S113 G113 H113 J113 rfl W113 0 rfl (Nat.le_of_ble_eq_true rfl)
    have F114 := E2.wr W113
    have F115 := F_open.other W113 (Or.inl n1)
    have F116 := F_attr.other W113 (Or.inl n1)
    have F117 := F_rc.other W113 (Or.inl n1)
    have F118 := F_dp.other W113 (Or.inl n1)
    have F119 := F_di.other W113 (Or.inl n1)
    have F120 := F_er.other W113 (Or.inl n1)
    have F121 := F_es.other W113 (Or.inl n1)
    have F122 := F_ea.other W113 (Or.inl n1)
    have F124 := V_t.other W113 (Ne.symm n3)
    have N113 := Fr.snoc X113 N101 go
    have K113 := K101.wr W113 (Or.inl (List.mem_of_getElem? (i := 1) rfl))
    have Y113 := Nat.le_trans Y101 (Nat.le_of_eq W113.size.symm)
    have O113 := O101.wr W113 go
    refine OwnEnd.go (fun _ k => st113 _ k) ?_
    show OwnEnd p e below s _ _ _ (T113.setTop (mkF m 105 #[.val (.ref a1), .val (.ref a2), .val (.int rc)] []))
    refine OwnEnd.go (fun _ k => XS.aloadN X113.here hx rfl (hb hby d5d0open_105) rfl rfl k) ?_
    show OwnEnd p e below s _ _ _ (T113.setTop (mkF m 106 #[.val (.ref a1), .val (.ref a2), .val (.int rc)] [(.ref a1)]))
    obtain ⟨T125, X125, e125, st125⟩ := getF X113 hx hZ hown (host := "") (Or.inl ww24) Via.refl e113 F116 (g := (mkF m 106 #[.val (.ref a1), .val (.ref a2), .val (.int rc)] [(.ref a1)])) rfl rfl (hb hby d5d0open_106)
    refine OwnEnd.go (fun _ k => st125 _ k) ?_
    show OwnEnd p e below s _ _ _ (T125.setTop (mkF m 109 #[.val (.ref a1), .val (.ref a2), .val (.int rc)] [(.ref bt)]))
    refine OwnEnd.go (fun _ k => XS.aloadN X125.here hx rfl (hb hby d5d0open_109) rfl rfl k) ?_
    show OwnEnd p e below s _ _ _ (T125.setTop (mkF m 110 #[.val (.ref a1), .val (.ref a2), .val (.int rc)] [(.ref a1), (.ref bt)]))
    obtain ⟨T126, X126, e126, st126⟩ := getF X125 hx hZ hown (host := "") (Or.inl ww43) Via.refl e125 F118 (g := (mkF m 110 #[.val (.ref a1), .val (.ref a2), .val (.int rc)] [(.ref a1), (.ref bt)])) rfl rfl (hb hby d5d0open_110)
    refine OwnEnd.go (fun _ k => st126 _ k) ?_
    show OwnEnd p e below s _ _ _ (T126.setTop (mkF m 113 #[.val (.ref a1), .val (.ref a2), .val (.int rc)] [(.int (0 : Int32)), (.ref bt)]))
    refine OwnEnd.go (fun _ k => XS.iconst X126.here hx rfl (hb hby d5d0open_113) k) ?_
    show OwnEnd p e below s _ _ _ (T126.setTop (mkF m 114 #[.val (.ref a1), .val (.ref a2), .val (.int rc)] [(.int (0 : Int32)), (.int (0 : Int32)), (.ref bt)]))
    obtain ⟨c127, Ar127, q127, S127, G127, H127, J127⟩ := id F124
    obtain ⟨T127, h127, X127, e127, W127, st127⟩ := stI X126 hx hZ e126 Ar127 (j := (0 : Int32)) (inb_of S127 ⟨by decide, by decide⟩) (g := (mkF m 114 #[.val (.ref a1), .val (.ref a2), .val (.int rc)] [(.int (0 : Int32)), (.int (0 : Int32)), (.ref bt)])) rfl rfl (hb hby d5d0open_114)
    have V127 : Arv Z h127 bt kt .int (8 : Int32) [(.int (0 : Int32)), (.int t1), (.int (0 : Int32)), (.int (0 : Int32)), (.int (0 : Int32)), (.int (0 : Int32)), (.int (0 : Int32)), (.int (0 : Int32))] (.int (0 : Int32)) := Arv.set Ar127 q127 S127 G127 H127 J127 rfl W127 0 rfl (Nat.le_of_ble_eq_true rfl)
    have F128 := F114.wr W127
    have F129 := F115.other W127 (Or.inl n2)
    have F130 := F116.other W127 (Or.inl n2)
    have F131 := F117.other W127 (Or.inl n2)
    have F132 := F118.other W127 (Or.inl n2)
    have F133 := F119.other W127 (Or.inl n2)
    have F134 := F120.other W127 (Or.inl n2)
    have F135 := F121.other W127 (Or.inl n2)
    have F136 := F122.other W127 (Or.inl n2)
    have F138 := V113.other W127 n3
    have N127 := Fr.snoc X127 N113 gt
    have K127 := K113.wr W127 (Or.inl (List.mem_of_getElem? (i := 2) rfl))
    have Y127 := Nat.le_trans Y113 (Nat.le_of_eq W127.size.symm)
    have O127 := O113.wr W127 gt
    refine OwnEnd.go (fun _ k => st127 _ k) ?_
    show OwnEnd p e below s _ _ _ (T127.setTop (mkF m 115 #[.val (.ref a1), .val (.ref a2), .val (.int rc)] []))
    refine OwnEnd.go (fun _ k => XS.aloadN X127.here hx rfl (hb hby d5d0open_115) rfl rfl k) ?_
    show OwnEnd p e below s _ _ _ (T127.setTop (mkF m 116 #[.val (.ref a1), .val (.ref a2), .val (.int rc)] [(.ref a1)]))
    refine OwnEnd.go (fun _ k => XS.dup X127.here hx rfl (hb hby d5d0open_116) rfl rfl k) ?_
    show OwnEnd p e below s _ _ _ (T127.setTop (mkF m 117 #[.val (.ref a1), .val (.ref a2), .val (.int rc)] [(.ref a1), (.ref a1)]))
    obtain ⟨T139, X139, e139, st139⟩ := getF X127 hx hZ hown (host := "") (Or.inl ww43) Via.refl e127 F132 (g := (mkF m 117 #[.val (.ref a1), .val (.ref a2), .val (.int rc)] [(.ref a1), (.ref a1)])) rfl rfl (hb hby d5d0open_117)
    refine OwnEnd.go (fun _ k => st139 _ k) ?_
    show OwnEnd p e below s _ _ _ (T139.setTop (mkF m 120 #[.val (.ref a1), .val (.ref a2), .val (.int rc)] [(.int (0 : Int32)), (.ref a1)]))
    refine OwnEnd.go (fun _ k => XS.iconst X139.here hx rfl (hb hby d5d0open_120) k) ?_
    show OwnEnd p e below s _ _ _ (T139.setTop (mkF m 121 #[.val (.ref a1), .val (.ref a2), .val (.int rc)] [(.int (1 : Int32)), (.int (0 : Int32)), (.ref a1)]))
    refine OwnEnd.go (fun _ k => XS.iadd X139.here hx rfl (hb hby d5d0open_121) rfl k) ?_
    show OwnEnd p e below s _ _ _ (T139.setTop (mkF m 122 #[.val (.ref a1), .val (.ref a2), .val (.int rc)] [(.int (1 : Int32)), (.ref a1)]))
    obtain ⟨T140, h140, X140, e140, W140, st140⟩ := putF X139 hx hZ hown (host := "") (Or.inl ww43) Via.refl e139 F132 F128 (Or.inl ww44) ww13 (ty := .int) (by decide) rfl rfl (g := (mkF m 122 #[.val (.ref a1), .val (.ref a2), .val (.int rc)] [(.int (1 : Int32)), (.ref a1)])) rfl rfl (hb hby d5d0open_122)
    have F141 := F128.wr W140
    have F142 := F129.other W140 (Or.inr (slot_ne (Or.inl ww23) (Or.inl ww44) (by decide) (t := (.array .int)) (t' := .int) (by decide) (by decide)))
    have F143 := F130.other W140 (Or.inr (slot_ne (Or.inl ww25) (Or.inl ww44) (by decide) (t := (.array .int)) (t' := .int) (by decide) (by decide)))
    have F144 := F131.other W140 (Or.inr (slot_ne (Or.inl ww32) (Or.inl ww44) (by decide) (t := .int) (t' := .int) (by decide) (by decide)))
    have F145 := F132.same W140
    have F146 := F133.other W140 (Or.inr (slot_ne (Or.inl ww46) (Or.inl ww44) (by decide) (t := .int) (t' := .int) (by decide) (by decide)))
    have F147 := F134.other W140 (Or.inr (slot_ne (Or.inl ww66) (Or.inl ww44) (by decide) (t := .int) (t' := .int) (by decide) (by decide)))
    have F148 := F135.other W140 (Or.inr (slot_ne (Or.inl ww68) (Or.inl ww44) (by decide) (t := .int) (t' := .int) (by decide) (by decide)))
    have F149 := F136.other W140 (Or.inr (slot_ne (Or.inl ww70) (Or.inl ww44) (by decide) (t := .int) (t' := .int) (by decide) (by decide)))
    have F150 := F138.other W140 (Ne.symm n1)
    have F151 := V127.other W140 (Ne.symm n2)
    have N140 := Fr.snoc X140 N127 ga
    have K140 := K127.wr W140 (Or.inl (List.mem_of_getElem? (i := 0) rfl))
    have Y140 := Nat.le_trans Y127 (Nat.le_of_eq W140.size.symm)
    have O140 := O127.wr W140 ga
    refine OwnEnd.go (fun _ k => st140 _ k) ?_
    show OwnEnd p e below s _ _ _ (T140.setTop (mkF m 125 #[.val (.ref a1), .val (.ref a2), .val (.int rc)] []))
    refine OwnEnd.go (fun _ k => XS.iloadN X140.here hx rfl (hb hby d5d0open_125) rfl  k) ?_
    show OwnEnd p e below s _ _ _ (T140.setTop (mkF m 126 #[.val (.ref a1), .val (.ref a2), .val (.int rc)] [(.int rc)]))
    refine ownRetI X140 hx hlk hret (hb hby d5d0open_126) (by decide) (by decide) ?_
    show Q5d0open Z a1 a2 bo bt rc o0 o1 t0 t1 er es ea xA xE xD h0 n0 _ T140.heap _
    rw [e140]
    exact ⟨rfl, N140, K140, ⟨ga, go, gt, n1, n2, n3, F141, F142, F143, F144, F145, ⟨_, F146⟩, F147, F148, F149, ⟨_, F150⟩, ⟨_, F151⟩⟩⟩
  · refine OwnEnd.go (fun _ k => Jvm.RoadKit.acmp (g := (mkF m 39 #[.val (.ref a1), .val (.ref a2), .val (.int rc)] [(.ref xE), (.ref a2)])) X106 hx rfl rfl rfl (pc0 := 39) (pc' := 42) (same := false) rfl (hb hby d5d0open_39) rfl (decide_eq_false fun q => ha107 (Value.ref.inj q)) (by decide) (by decide) k) ?_
    show OwnEnd p e below s _ _ _ (T106.setTop (mkF m 42 #[.val (.ref a1), .val (.ref a2), .val (.int rc)] []))
    refine OwnEnd.go (fun _ k => XS.aloadN X106.here hx rfl (hb hby d5d0open_42) rfl rfl k) ?_
    show OwnEnd p e below s _ _ _ (T106.setTop (mkF m 43 #[.val (.ref a1), .val (.ref a2), .val (.int rc)] [(.ref a2)]))
    obtain ⟨T152, X152, e152, st152⟩ := getS2 X106 hx hZ hown (host := "") (Or.inl ww49) Via.refl e106 (SD.ext O101.2) (g := (mkF m 43 #[.val (.ref a1), .val (.ref a2), .val (.int rc)] [(.ref a2)])) rfl (hb hby d5d0open_43)
    refine OwnEnd.go (fun _ k => st152 _ k) ?_
    show OwnEnd p e below s _ _ _ (T152.setTop (mkF m 46 #[.val (.ref a1), .val (.ref a2), .val (.int rc)] [(.ref xD), (.ref a2)]))
    refine OwnEnd.go (fun _ k => Jvm.RoadKit.acmp (g := (mkF m 46 #[.val (.ref a1), .val (.ref a2), .val (.int rc)] [(.ref xD), (.ref a2)])) X152 hx rfl rfl rfl (pc0 := 46) (pc' := 49) (same := true) rfl (hb hby d5d0open_46) rfl (decide_eq_true (congrArg Value.ref (hk.resolve_left ha107))) (by decide) (by decide) k) ?_
    show OwnEnd p e below s _ _ _ (T152.setTop (mkF m 49 #[.val (.ref a1), .val (.ref a2), .val (.int rc)] []))
    refine OwnEnd.go (fun _ k => XS.aloadN X152.here hx rfl (hb hby d5d0open_49) rfl rfl k) ?_
    show OwnEnd p e below s _ _ _ (T152.setTop (mkF m 50 #[.val (.ref a1), .val (.ref a2), .val (.int rc)] [(.ref a1)]))
    obtain ⟨T153, X153, e153, st153⟩ := getF X152 hx hZ hown (host := "") (Or.inl ww43) Via.refl e152 F_dp (g := (mkF m 50 #[.val (.ref a1), .val (.ref a2), .val (.int rc)] [(.ref a1)])) rfl rfl (hb hby d5d0open_50)
    refine OwnEnd.go (fun _ k => st153 _ k) ?_
    show OwnEnd p e below s _ _ _ (T153.setTop (mkF m 53 #[.val (.ref a1), .val (.ref a2), .val (.int rc)] [(.int (0 : Int32))]))
    refine OwnEnd.go (fun _ k => XS.aloadN X153.here hx rfl (hb hby d5d0open_53) rfl rfl k) ?_
    show OwnEnd p e below s _ _ _ (T153.setTop (mkF m 54 #[.val (.ref a1), .val (.ref a2), .val (.int rc)] [(.ref a1), (.int (0 : Int32))]))
    obtain ⟨T154, X154, e154, st154⟩ := getF X153 hx hZ hown (host := "") (Or.inl ww22) Via.refl e153 F_open (g := (mkF m 54 #[.val (.ref a1), .val (.ref a2), .val (.int rc)] [(.ref a1), (.int (0 : Int32))])) rfl rfl (hb hby d5d0open_54)
    refine OwnEnd.go (fun _ k => st154 _ k) ?_
    show OwnEnd p e below s _ _ _ (T154.setTop (mkF m 57 #[.val (.ref a1), .val (.ref a2), .val (.int rc)] [(.ref bo), (.int (0 : Int32))]))
    obtain ⟨c155, Ar155, q155, S155, G155, H155, J155⟩ := id V_o
    refine OwnEnd.go (fun _ k => ownLen X154 hx hZ e154 Ar155 S155 G155 (g := (mkF m 57 #[.val (.ref a1), .val (.ref a2), .val (.int rc)] [(.ref bo), (.int (0 : Int32))])) rfl rfl (hb hby d5d0open_57) _ k) ?_
    show OwnEnd p e below s _ _ _ (T154.setTop (mkF m 58 #[.val (.ref a1), .val (.ref a2), .val (.int rc)] [(.int (8 : Int32)), (.int (0 : Int32))]))
    refine OwnEnd.go (fun _ k => XS.icmpYes X154.here hx rfl (pc0 := 58) (pc' := 95) rfl (hb hby d5d0open_58) rfl (feq (by decide : ¬ (0 : Int32) = (8 : Int32))).2 (by decide) (by decide) k) ?_
    show OwnEnd p e below s _ _ _ (T154.setTop (mkF m 95 #[.val (.ref a1), .val (.ref a2), .val (.int rc)] []))
    refine OwnEnd.go (fun _ k => XS.aloadN X154.here hx rfl (hb hby d5d0open_95) rfl rfl k) ?_
    show OwnEnd p e below s _ _ _ (T154.setTop (mkF m 96 #[.val (.ref a1), .val (.ref a2), .val (.int rc)] [(.ref a1)]))
    obtain ⟨T156, X156, e156, st156⟩ := getF X154 hx hZ hown (host := "") (Or.inl ww22) Via.refl e154 F_open (g := (mkF m 96 #[.val (.ref a1), .val (.ref a2), .val (.int rc)] [(.ref a1)])) rfl rfl (hb hby d5d0open_96)
    refine OwnEnd.go (fun _ k => st156 _ k) ?_
    show OwnEnd p e below s _ _ _ (T156.setTop (mkF m 99 #[.val (.ref a1), .val (.ref a2), .val (.int rc)] [(.ref bo)]))
    refine OwnEnd.go (fun _ k => XS.aloadN X156.here hx rfl (hb hby d5d0open_99) rfl rfl k) ?_
    show OwnEnd p e below s _ _ _ (T156.setTop (mkF m 100 #[.val (.ref a1), .val (.ref a2), .val (.int rc)] [(.ref a1), (.ref bo)]))
    obtain ⟨T157, X157, e157, st157⟩ := getF X156 hx hZ hown (host := "") (Or.inl ww43) Via.refl e156 F_dp (g := (mkF m 100 #[.val (.ref a1), .val (.ref a2), .val (.int rc)] [(.ref a1), (.ref bo)])) rfl rfl (hb hby d5d0open_100)
    refine OwnEnd.go (fun _ k => st157 _ k) ?_
    show OwnEnd p e below s _ _ _ (T157.setTop (mkF m 103 #[.val (.ref a1), .val (.ref a2), .val (.int rc)] [(.int (0 : Int32)), (.ref bo)]))
    refine OwnEnd.go (fun _ k => XS.iloadN X157.here hx rfl (hb hby d5d0open_103) rfl  k) ?_
    show OwnEnd p e below s _ _ _ (T157.setTop (mkF m 104 #[.val (.ref a1), .val (.ref a2), .val (.int rc)] [(.int rc), (.int (0 : Int32)), (.ref bo)]))
    obtain ⟨c158, Ar158, q158, S158, G158, H158, J158⟩ := id V_o
    obtain ⟨T158, h158, X158, e158, W158, st158⟩ := stI X157 hx hZ e157 Ar158 (j := (0 : Int32)) (inb_of S158 ⟨by decide, by decide⟩) (g := (mkF m 104 #[.val (.ref a1), .val (.ref a2), .val (.int rc)] [(.int rc), (.int (0 : Int32)), (.ref bo)])) rfl rfl (hb hby d5d0open_104)
    have V158 : Arv Z h158 bo ko .int (8 : Int32) [(.int rc), (.int o1), (.int (0 : Int32)), (.int (0 : Int32)), (.int (0 : Int32)), (.int (0 : Int32)), (.int (0 : Int32)), (.int (0 : Int32))] (.int (0 : Int32)) := Arv.set Ar158 q158 S158 G158 H158 J158 rfl W158 0 rfl (Nat.le_of_ble_eq_true rfl)
    have F159 := E2.wr W158
    have F160 := F_open.other W158 (Or.inl n1)
    have F161 := F_attr.other W158 (Or.inl n1)
    have F162 := F_rc.other W158 (Or.inl n1)
    have F163 := F_dp.other W158 (Or.inl n1)
    have F164 := F_di.other W158 (Or.inl n1)
    have F165 := F_er.other W158 (Or.inl n1)
    have F166 := F_es.other W158 (Or.inl n1)
    have F167 := F_ea.other W158 (Or.inl n1)
    have F169 := V_t.other W158 (Ne.symm n3)
    have N158 := Fr.snoc X158 N101 go
    have K158 := K101.wr W158 (Or.inl (List.mem_of_getElem? (i := 1) rfl))
    have Y158 := Nat.le_trans Y101 (Nat.le_of_eq W158.size.symm)
    have O158 := O101.wr W158 go
    refine OwnEnd.go (fun _ k => st158 _ k) ?_
    show OwnEnd p e below s _ _ _ (T158.setTop (mkF m 105 #[.val (.ref a1), .val (.ref a2), .val (.int rc)] []))
    refine OwnEnd.go (fun _ k => XS.aloadN X158.here hx rfl (hb hby d5d0open_105) rfl rfl k) ?_
    show OwnEnd p e below s _ _ _ (T158.setTop (mkF m 106 #[.val (.ref a1), .val (.ref a2), .val (.int rc)] [(.ref a1)]))
    obtain ⟨T170, X170, e170, st170⟩ := getF X158 hx hZ hown (host := "") (Or.inl ww24) Via.refl e158 F161 (g := (mkF m 106 #[.val (.ref a1), .val (.ref a2), .val (.int rc)] [(.ref a1)])) rfl rfl (hb hby d5d0open_106)
    refine OwnEnd.go (fun _ k => st170 _ k) ?_
    show OwnEnd p e below s _ _ _ (T170.setTop (mkF m 109 #[.val (.ref a1), .val (.ref a2), .val (.int rc)] [(.ref bt)]))
    refine OwnEnd.go (fun _ k => XS.aloadN X170.here hx rfl (hb hby d5d0open_109) rfl rfl k) ?_
    show OwnEnd p e below s _ _ _ (T170.setTop (mkF m 110 #[.val (.ref a1), .val (.ref a2), .val (.int rc)] [(.ref a1), (.ref bt)]))
    obtain ⟨T171, X171, e171, st171⟩ := getF X170 hx hZ hown (host := "") (Or.inl ww43) Via.refl e170 F163 (g := (mkF m 110 #[.val (.ref a1), .val (.ref a2), .val (.int rc)] [(.ref a1), (.ref bt)])) rfl rfl (hb hby d5d0open_110)
    refine OwnEnd.go (fun _ k => st171 _ k) ?_
    show OwnEnd p e below s _ _ _ (T171.setTop (mkF m 113 #[.val (.ref a1), .val (.ref a2), .val (.int rc)] [(.int (0 : Int32)), (.ref bt)]))
    refine OwnEnd.go (fun _ k => XS.iconst X171.here hx rfl (hb hby d5d0open_113) k) ?_
    show OwnEnd p e below s _ _ _ (T171.setTop (mkF m 114 #[.val (.ref a1), .val (.ref a2), .val (.int rc)] [(.int (0 : Int32)), (.int (0 : Int32)), (.ref bt)]))
    obtain ⟨c172, Ar172, q172, S172, G172, H172, J172⟩ := id F169
    obtain ⟨T172, h172, X172, e172, W172, st172⟩ := stI X171 hx hZ e171 Ar172 (j := (0 : Int32)) (inb_of S172 ⟨by decide, by decide⟩) (g := (mkF m 114 #[.val (.ref a1), .val (.ref a2), .val (.int rc)] [(.int (0 : Int32)), (.int (0 : Int32)), (.ref bt)])) rfl rfl (hb hby d5d0open_114)
    have V172 : Arv Z h172 bt kt .int (8 : Int32) [(.int (0 : Int32)), (.int t1), (.int (0 : Int32)), (.int (0 : Int32)), (.int (0 : Int32)), (.int (0 : Int32)), (.int (0 : Int32)), (.int (0 : Int32))] (.int (0 : Int32)) := Arv.set Ar172 q172 S172 G172 H172 J172 rfl W172 0 rfl (Nat.le_of_ble_eq_true rfl)
    have F173 := F159.wr W172
    have F174 := F160.other W172 (Or.inl n2)
    have F175 := F161.other W172 (Or.inl n2)
    have F176 := F162.other W172 (Or.inl n2)
    have F177 := F163.other W172 (Or.inl n2)
    have F178 := F164.other W172 (Or.inl n2)
    have F179 := F165.other W172 (Or.inl n2)
    have F180 := F166.other W172 (Or.inl n2)
    have F181 := F167.other W172 (Or.inl n2)
    have F183 := V158.other W172 n3
    have N172 := Fr.snoc X172 N158 gt
    have K172 := K158.wr W172 (Or.inl (List.mem_of_getElem? (i := 2) rfl))
    have Y172 := Nat.le_trans Y158 (Nat.le_of_eq W172.size.symm)
    have O172 := O158.wr W172 gt
    refine OwnEnd.go (fun _ k => st172 _ k) ?_
    show OwnEnd p e below s _ _ _ (T172.setTop (mkF m 115 #[.val (.ref a1), .val (.ref a2), .val (.int rc)] []))
    refine OwnEnd.go (fun _ k => XS.aloadN X172.here hx rfl (hb hby d5d0open_115) rfl rfl k) ?_
    show OwnEnd p e below s _ _ _ (T172.setTop (mkF m 116 #[.val (.ref a1), .val (.ref a2), .val (.int rc)] [(.ref a1)]))
    refine OwnEnd.go (fun _ k => XS.dup X172.here hx rfl (hb hby d5d0open_116) rfl rfl k) ?_
    show OwnEnd p e below s _ _ _ (T172.setTop (mkF m 117 #[.val (.ref a1), .val (.ref a2), .val (.int rc)] [(.ref a1), (.ref a1)]))
    obtain ⟨T184, X184, e184, st184⟩ := getF X172 hx hZ hown (host := "") (Or.inl ww43) Via.refl e172 F177 (g := (mkF m 117 #[.val (.ref a1), .val (.ref a2), .val (.int rc)] [(.ref a1), (.ref a1)])) rfl rfl (hb hby d5d0open_117)
    refine OwnEnd.go (fun _ k => st184 _ k) ?_
    show OwnEnd p e below s _ _ _ (T184.setTop (mkF m 120 #[.val (.ref a1), .val (.ref a2), .val (.int rc)] [(.int (0 : Int32)), (.ref a1)]))
    refine OwnEnd.go (fun _ k => XS.iconst X184.here hx rfl (hb hby d5d0open_120) k) ?_
    show OwnEnd p e below s _ _ _ (T184.setTop (mkF m 121 #[.val (.ref a1), .val (.ref a2), .val (.int rc)] [(.int (1 : Int32)), (.int (0 : Int32)), (.ref a1)]))
    refine OwnEnd.go (fun _ k => XS.iadd X184.here hx rfl (hb hby d5d0open_121) rfl k) ?_
    show OwnEnd p e below s _ _ _ (T184.setTop (mkF m 122 #[.val (.ref a1), .val (.ref a2), .val (.int rc)] [(.int (1 : Int32)), (.ref a1)]))
    obtain ⟨T185, h185, X185, e185, W185, st185⟩ := putF X184 hx hZ hown (host := "") (Or.inl ww43) Via.refl e184 F177 F173 (Or.inl ww44) ww13 (ty := .int) (by decide) rfl rfl (g := (mkF m 122 #[.val (.ref a1), .val (.ref a2), .val (.int rc)] [(.int (1 : Int32)), (.ref a1)])) rfl rfl (hb hby d5d0open_122)
    have F186 := F173.wr W185
    have F187 := F174.other W185 (Or.inr (slot_ne (Or.inl ww23) (Or.inl ww44) (by decide) (t := (.array .int)) (t' := .int) (by decide) (by decide)))
    have F188 := F175.other W185 (Or.inr (slot_ne (Or.inl ww25) (Or.inl ww44) (by decide) (t := (.array .int)) (t' := .int) (by decide) (by decide)))
    have F189 := F176.other W185 (Or.inr (slot_ne (Or.inl ww32) (Or.inl ww44) (by decide) (t := .int) (t' := .int) (by decide) (by decide)))
    have F190 := F177.same W185
    have F191 := F178.other W185 (Or.inr (slot_ne (Or.inl ww46) (Or.inl ww44) (by decide) (t := .int) (t' := .int) (by decide) (by decide)))
    have F192 := F179.other W185 (Or.inr (slot_ne (Or.inl ww66) (Or.inl ww44) (by decide) (t := .int) (t' := .int) (by decide) (by decide)))
    have F193 := F180.other W185 (Or.inr (slot_ne (Or.inl ww68) (Or.inl ww44) (by decide) (t := .int) (t' := .int) (by decide) (by decide)))
    have F194 := F181.other W185 (Or.inr (slot_ne (Or.inl ww70) (Or.inl ww44) (by decide) (t := .int) (t' := .int) (by decide) (by decide)))
    have F195 := F183.other W185 (Ne.symm n1)
    have F196 := V172.other W185 (Ne.symm n2)
    have N185 := Fr.snoc X185 N172 ga
    have K185 := K172.wr W185 (Or.inl (List.mem_of_getElem? (i := 0) rfl))
    have Y185 := Nat.le_trans Y172 (Nat.le_of_eq W185.size.symm)
    have O185 := O172.wr W185 ga
    refine OwnEnd.go (fun _ k => st185 _ k) ?_
    show OwnEnd p e below s _ _ _ (T185.setTop (mkF m 125 #[.val (.ref a1), .val (.ref a2), .val (.int rc)] []))
    refine OwnEnd.go (fun _ k => XS.iloadN X185.here hx rfl (hb hby d5d0open_125) rfl  k) ?_
    show OwnEnd p e below s _ _ _ (T185.setTop (mkF m 126 #[.val (.ref a1), .val (.ref a2), .val (.int rc)] [(.int rc)]))
    refine ownRetI X185 hx hlk hret (hb hby d5d0open_126) (by decide) (by decide) ?_
    show Q5d0open Z a1 a2 bo bt rc o0 o1 t0 t1 er es ea xA xE xD h0 n0 _ T185.heap _
    rw [e185]
    exact ⟨rfl, N185, K185, ⟨ga, go, gt, n1, n2, n3, F186, F187, F188, F189, F190, ⟨_, F191⟩, F192, F193, F194, ⟨_, F195⟩, ⟨_, F196⟩⟩⟩
theorem d8d1_0 : decode prog_249_method_13_code 0 = .ok (.aload_n 0, 1) := by decide +kernel
theorem d8d1_1 : decode prog_249_method_13_code 1 = .ok (.getfield 26, 3) := by decide +kernel
theorem d8d1_4 : decode prog_249_method_13_code 4 = .ok (.ifCond .le 39, 3) := by decide +kernel
theorem d8d1_7 : decode prog_249_method_13_code 7 = .ok (.aload_n 0, 1) := by decide +kernel
theorem d8d1_8 : decode prog_249_method_13_code 8 = .ok (.getfield 42, 3) := by decide +kernel
theorem d8d1_11 : decode prog_249_method_13_code 11 = .ok (.aload_n 0, 1) := by decide +kernel
theorem d8d1_12 : decode prog_249_method_13_code 12 = .ok (.getfield 7, 3) := by decide +kernel
theorem d8d1_15 : decode prog_249_method_13_code 15 = .ok (.aload_n 0, 1) := by decide +kernel
theorem d8d1_16 : decode prog_249_method_13_code 16 = .ok (.getfield 26, 3) := by decide +kernel
theorem d8d1_19 : decode prog_249_method_13_code 19 = .ok (.iconst 1, 1) := by decide +kernel
theorem d8d1_20 : decode prog_249_method_13_code 20 = .ok (.isub, 1) := by decide +kernel
theorem d8d1_21 : decode prog_249_method_13_code 21 = .ok (.iaload, 1) := by decide +kernel
theorem d8d1_22 : decode prog_249_method_13_code 22 = .ok (.iconst 1, 1) := by decide +kernel
theorem d8d1_23 : decode prog_249_method_13_code 23 = .ok (.iadd, 1) := by decide +kernel
theorem d8d1_24 : decode prog_249_method_13_code 24 = .ok (.aload_n 0, 1) := by decide +kernel
theorem d8d1_25 : decode prog_249_method_13_code 25 = .ok (.getfield 13, 3) := by decide +kernel
theorem d8d1_28 : decode prog_249_method_13_code 28 = .ok (.aload_n 0, 1) := by decide +kernel
theorem d8d1_29 : decode prog_249_method_13_code 29 = .ok (.getfield 26, 3) := by decide +kernel
theorem d8d1_32 : decode prog_249_method_13_code 32 = .ok (.iconst 1, 1) := by decide +kernel
theorem d8d1_33 : decode prog_249_method_13_code 33 = .ok (.isub, 1) := by decide +kernel
theorem d8d1_34 : decode prog_249_method_13_code 34 = .ok (.iaload, 1) := by decide +kernel
theorem d8d1_35 : decode prog_249_method_13_code 35 = .ok (.iadd, 1) := by decide +kernel
theorem d8d1_36 : decode prog_249_method_13_code 36 = .ok (.if_icmp .ne 7, 3) := by decide +kernel
theorem d8d1_39 : decode prog_249_method_13_code 39 = .ok (.iconst 1, 1) := by decide +kernel
theorem d8d1_40 : decode prog_249_method_13_code 40 = .ok (.goto 4, 3) := by decide +kernel
theorem d8d1_43 : decode prog_249_method_13_code 43 = .ok (.iconst 0, 1) := by decide +kernel
theorem d8d1_44 : decode prog_249_method_13_code 44 = .ok (.ireturn, 1) := by decide +kernel
theorem pn_8d1 : plainName "com/example/rewoven_tree/rewoventree/storage/TableShape" = true := by first | (simp [plainName, overriddenIn]; done) | decide +kernel
theorem ef_8d1 (m : MethodId) (x0 : Addr) : entryFrame m #[(.ref x0)] 1 = mkF m 0 #[.val (.ref x0)] [] := by first | (simp [entryFrame, mkF, argsToLocals, Value.category]; done) | rfl
def Q8d1 (Z : State) (a1 : Addr) (bo : Addr) (bt : Addr) (rc : Int32) (o0 : Int32) (o1 : Int32) (t0 : Int32) (t1 : Int32) (er : Int32) (es : Int32) (ea : Int32) (h0 : Heap) (n0 : Nat) (v : Option Value) (h : Heap) (L : List Loc) : Prop := v = some (.int (own_isat rc o0 t0)) ∧ Fr n0 L ∧ h = h0
set_option maxRecDepth 65536 in
set_option maxHeartbeats 40000000 in
theorem rm8d1 (l : Launch) (Z : State) (a0 : Array Value) (hw : ∀ d ∈ tables_1, d.before a0 Z = true) (ws : List Jvm.Cond) (a1 : Addr) (bo : Addr) (bt : Addr) (rc : Int32) (o0 : Int32) (o1 : Int32) (t0 : Int32) (t1 : Int32) (er : Int32) (es : Int32) (ea : Int32) (h0 : Heap) (n0 : Nat) (Z0 : n0 ≤ h0.size) (B0 : ownTS Z h0 n0 a1 bo bt rc (1 : Int32) o0 o1 t0 t1 er es ea) :
    MetFree l (⟨"com/example/rewoven_tree/rewoventree/storage/TableShape", "isAtAttributes", "()Z"⟩ : MethodName) (head1 (Jvm.Cond.code (⟨"com/example/rewoven_tree/rewoventree/storage/TableShape", "isAtAttributes", "()Z"⟩ : MethodName) prog_249_method_13_code 1 (some .boolean) :: ws) ({ frames := 0, cells := 0, slots := 0, locals := 0 } : Room)) (fun a U => a = #[(.ref a1)] ∧ Z.Warmed39 U.vm ∧ U.heap = h0) (fun _ _ _ _ _ => True) (fun _ U o U' => ∃ v L, o = .returned v ∧ Q8d1 Z a1 bo bt rc o0 o1 t0 t1 er es ea h0 n0 v U'.heap L ∧ FrameEnd U o U' L ({ frames := 0, cells := 0, slots := 0, locals := 0 } : Room).cells ({ frames := 0, cells := 0, slots := 0, locals := 0 } : Room).slots) := by
  have ww22 := hw _ (List.mem_of_getElem? (i := 22) rfl)
  have ww24 := hw _ (List.mem_of_getElem? (i := 24) rfl)
  have ww31 := hw _ (List.mem_of_getElem? (i := 31) rfl)
  have ww43 := hw _ (List.mem_of_getElem? (i := 43) rfl)
  refine MetFree.of_bodySF (plainFor_of_name pn_8d1) hisR ?_
  intro p e s m args below meth c s₁ Bd hml0 hP hK
  obtain ⟨rfl, hZ, hh⟩ := hP
  have hx := Bd.exec
  have hby := Bd.bytes
  have hlk : meth.locks = false := Bd.notSynchronized
  have hret := Bd.returns
  have hml : c.maxLocals = 1 := hml0
  have hown : s.vm.findClass "com/example/rewoven_tree/rewoventree/storage/TableShape" = some m.cls := findClass_of_methodNamed Bd.named
  have hnm := (name_of_methodNamed Bd.named Bd.method).1
  have X0 : Stand p l e ({ frames := 0, cells := 0, slots := 0, locals := 0 } : Room) s m #[(.ref a1)] below meth c s₁ [] 0 0 := Stand.of_body Bd
  have e0 : s₁.heap = h0 := by rw [← hh, Bd.state]; rfl
  have N0 := Fr.nil n0
  have K0 := Keep.refl h0 []
  show OwnEnd p e below s (Q8d1 Z a1 bo bt rc o0 o1 t0 t1 er es ea h0 n0) ({ frames := 0, cells := 0, slots := 0, locals := 0 } : Room).cells ({ frames := 0, cells := 0, slots := 0, locals := 0 } : Room).slots _
  refine OwnEnd.go (fun _ k => castTop (ef_8d1 m a1) k) ?_
  obtain ⟨ga, go, gt, n1, n2, n3, E1, F_open, F_attr, F_rc, F_dp, ⟨di, F_di⟩, F_er, F_es, F_ea, ⟨ko, V_o⟩, ⟨kt, V_t⟩⟩ := B0
  show OwnEnd p e below s _ _ _ (s₁.setTop (mkF m 0 #[.val (.ref a1)] []))
  refine OwnEnd.go (fun _ k => XS.aloadN X0.here hx rfl (hb hby d8d1_0) rfl rfl k) ?_
  show OwnEnd p e below s _ _ _ (s₁.setTop (mkF m 1 #[.val (.ref a1)] [(.ref a1)]))
  obtain ⟨T101, X101, e101, st101⟩ := getF X0 hx hZ hown (host := "") (Or.inl ww43) Via.refl e0 F_dp (g := (mkF m 1 #[.val (.ref a1)] [(.ref a1)])) rfl rfl (hb hby d8d1_1)
  refine OwnEnd.go (fun _ k => st101 _ k) ?_
  show OwnEnd p e below s _ _ _ (T101.setTop (mkF m 4 #[.val (.ref a1)] [(.int (1 : Int32))]))
  refine OwnEnd.go (fun _ k => XS.ifNo X101.here hx rfl (hb hby d8d1_4) rfl ((if0 _ _).trans (tlt (by decide : (0 : Int32) < (1 : Int32))).2.2.2) k) ?_
  show OwnEnd p e below s _ _ _ (T101.setTop (mkF m 7 #[.val (.ref a1)] []))
  refine OwnEnd.go (fun _ k => XS.aloadN X101.here hx rfl (hb hby d8d1_7) rfl rfl k) ?_
  show OwnEnd p e below s _ _ _ (T101.setTop (mkF m 8 #[.val (.ref a1)] [(.ref a1)]))
  obtain ⟨T102, X102, e102, st102⟩ := getF X101 hx hZ hown (host := "") (Or.inl ww31) Via.refl e101 F_rc (g := (mkF m 8 #[.val (.ref a1)] [(.ref a1)])) rfl rfl (hb hby d8d1_8)
  refine OwnEnd.go (fun _ k => st102 _ k) ?_
  show OwnEnd p e below s _ _ _ (T102.setTop (mkF m 11 #[.val (.ref a1)] [(.int rc)]))
  refine OwnEnd.go (fun _ k => XS.aloadN X102.here hx rfl (hb hby d8d1_11) rfl rfl k) ?_
  show OwnEnd p e below s _ _ _ (T102.setTop (mkF m 12 #[.val (.ref a1)] [(.ref a1), (.int rc)]))
  obtain ⟨T103, X103, e103, st103⟩ := getF X102 hx hZ hown (host := "") (Or.inl ww22) Via.refl e102 F_open (g := (mkF m 12 #[.val (.ref a1)] [(.ref a1), (.int rc)])) rfl rfl (hb hby d8d1_12)
  refine OwnEnd.go (fun _ k => st103 _ k) ?_
  show OwnEnd p e below s _ _ _ (T103.setTop (mkF m 15 #[.val (.ref a1)] [(.ref bo), (.int rc)]))
  refine OwnEnd.go (fun _ k => XS.aloadN X103.here hx rfl (hb hby d8d1_15) rfl rfl k) ?_
  show OwnEnd p e below s _ _ _ (T103.setTop (mkF m 16 #[.val (.ref a1)] [(.ref a1), (.ref bo), (.int rc)]))
  obtain ⟨T104, X104, e104, st104⟩ := getF X103 hx hZ hown (host := "") (Or.inl ww43) Via.refl e103 F_dp (g := (mkF m 16 #[.val (.ref a1)] [(.ref a1), (.ref bo), (.int rc)])) rfl rfl (hb hby d8d1_16)
  refine OwnEnd.go (fun _ k => st104 _ k) ?_
  show OwnEnd p e below s _ _ _ (T104.setTop (mkF m 19 #[.val (.ref a1)] [(.int (1 : Int32)), (.ref bo), (.int rc)]))
  refine OwnEnd.go (fun _ k => XS.iconst X104.here hx rfl (hb hby d8d1_19) k) ?_
  show OwnEnd p e below s _ _ _ (T104.setTop (mkF m 20 #[.val (.ref a1)] [(.int (1 : Int32)), (.int (1 : Int32)), (.ref bo), (.int rc)]))
  refine OwnEnd.go (fun _ k => XS.isub X104.here hx rfl (hb hby d8d1_20) rfl k) ?_
  show OwnEnd p e below s _ _ _ (T104.setTop (mkF m 21 #[.val (.ref a1)] [(.int (0 : Int32)), (.ref bo), (.int rc)]))
  obtain ⟨c105, Ar105, q105, S105, G105, H105, J105⟩ := id V_o
  have i105 := inb_of (j := (0 : Int32)) S105 ⟨by decide, by decide⟩
  refine OwnEnd.go (fun _ k => X104.iaload hx (j := (0 : Int32)) (v := (.int o0)) (by rw [e104]; exact Ar105.1) (State.isArrayOf_alike hZ.alike Ar105.2.1) Ar105.2.2 i105 (Has.at H105 i105 rfl) (g := (mkF m 21 #[.val (.ref a1)] [(.int (0 : Int32)), (.ref bo), (.int rc)])) rfl rfl (hb hby d8d1_21) _ k) ?_
  show OwnEnd p e below s _ _ _ (T104.setTop (mkF m 22 #[.val (.ref a1)] [(.int o0), (.int rc)]))
  refine OwnEnd.go (fun _ k => XS.iconst X104.here hx rfl (hb hby d8d1_22) k) ?_
  show OwnEnd p e below s _ _ _ (T104.setTop (mkF m 23 #[.val (.ref a1)] [(.int (1 : Int32)), (.int o0), (.int rc)]))
  refine OwnEnd.go (fun _ k => XS.iadd X104.here hx rfl (hb hby d8d1_23) rfl k) ?_
  show OwnEnd p e below s _ _ _ (T104.setTop (mkF m 24 #[.val (.ref a1)] [(.int (o0 + (1 : Int32))), (.int rc)]))
  refine OwnEnd.go (fun _ k => XS.aloadN X104.here hx rfl (hb hby d8d1_24) rfl rfl k) ?_
  show OwnEnd p e below s _ _ _ (T104.setTop (mkF m 25 #[.val (.ref a1)] [(.ref a1), (.int (o0 + (1 : Int32))), (.int rc)]))
  obtain ⟨T106, X106, e106, st106⟩ := getF X104 hx hZ hown (host := "") (Or.inl ww24) Via.refl e104 F_attr (g := (mkF m 25 #[.val (.ref a1)] [(.ref a1), (.int (o0 + (1 : Int32))), (.int rc)])) rfl rfl (hb hby d8d1_25)
  refine OwnEnd.go (fun _ k => st106 _ k) ?_
  show OwnEnd p e below s _ _ _ (T106.setTop (mkF m 28 #[.val (.ref a1)] [(.ref bt), (.int (o0 + (1 : Int32))), (.int rc)]))
  refine OwnEnd.go (fun _ k => XS.aloadN X106.here hx rfl (hb hby d8d1_28) rfl rfl k) ?_
  show OwnEnd p e below s _ _ _ (T106.setTop (mkF m 29 #[.val (.ref a1)] [(.ref a1), (.ref bt), (.int (o0 + (1 : Int32))), (.int rc)]))
  obtain ⟨T107, X107, e107, st107⟩ := getF X106 hx hZ hown (host := "") (Or.inl ww43) Via.refl e106 F_dp (g := (mkF m 29 #[.val (.ref a1)] [(.ref a1), (.ref bt), (.int (o0 + (1 : Int32))), (.int rc)])) rfl rfl (hb hby d8d1_29)
  refine OwnEnd.go (fun _ k => st107 _ k) ?_
  show OwnEnd p e below s _ _ _ (T107.setTop (mkF m 32 #[.val (.ref a1)] [(.int (1 : Int32)), (.ref bt), (.int (o0 + (1 : Int32))), (.int rc)]))
  refine OwnEnd.go (fun _ k => XS.iconst X107.here hx rfl (hb hby d8d1_32) k) ?_
  show OwnEnd p e below s _ _ _ (T107.setTop (mkF m 33 #[.val (.ref a1)] [(.int (1 : Int32)), (.int (1 : Int32)), (.ref bt), (.int (o0 + (1 : Int32))), (.int rc)]))
  refine OwnEnd.go (fun _ k => XS.isub X107.here hx rfl (hb hby d8d1_33) rfl k) ?_
  show OwnEnd p e below s _ _ _ (T107.setTop (mkF m 34 #[.val (.ref a1)] [(.int (0 : Int32)), (.ref bt), (.int (o0 + (1 : Int32))), (.int rc)]))
  obtain ⟨c108, Ar108, q108, S108, G108, H108, J108⟩ := id V_t
  have i108 := inb_of (j := (0 : Int32)) S108 ⟨by decide, by decide⟩
  refine OwnEnd.go (fun _ k => X107.iaload hx (j := (0 : Int32)) (v := (.int t0)) (by rw [e107]; exact Ar108.1) (State.isArrayOf_alike hZ.alike Ar108.2.1) Ar108.2.2 i108 (Has.at H108 i108 rfl) (g := (mkF m 34 #[.val (.ref a1)] [(.int (0 : Int32)), (.ref bt), (.int (o0 + (1 : Int32))), (.int rc)])) rfl rfl (hb hby d8d1_34) _ k) ?_
  show OwnEnd p e below s _ _ _ (T107.setTop (mkF m 35 #[.val (.ref a1)] [(.int t0), (.int (o0 + (1 : Int32))), (.int rc)]))
  refine OwnEnd.go (fun _ k => XS.iadd X107.here hx rfl (hb hby d8d1_35) rfl k) ?_
  show OwnEnd p e below s _ _ _ (T107.setTop (mkF m 36 #[.val (.ref a1)] [(.int ((o0 + (1 : Int32)) + t0)), (.int rc)]))
  by_cases hc109 : rc = ((o0 + (1 : Int32)) + t0)
  · refine OwnEnd.go (fun _ k => XS.icmpNo X107.here hx rfl (hb hby d8d1_36) rfl (teq hc109).2 k) ?_
    show OwnEnd p e below s _ _ _ (T107.setTop (mkF m 39 #[.val (.ref a1)] []))
    refine OwnEnd.go (fun _ k => XS.iconst X107.here hx rfl (hb hby d8d1_39) k) ?_
    show OwnEnd p e below s _ _ _ (T107.setTop (mkF m 40 #[.val (.ref a1)] [(.int (1 : Int32))]))
    refine OwnEnd.go (fun _ k => XS.goto X107.here hx rfl (pc0 := 40) (pc' := 44) rfl (hb hby d8d1_40) (by decide) (by decide) k) ?_
    show OwnEnd p e below s _ _ _ (T107.setTop (mkF m 44 #[.val (.ref a1)] [(.int (1 : Int32))]))
    refine ownRetZ X107 hx hlk hret (hb hby d8d1_44) (by decide) (by decide) (1 : Int32) (by decide) ?_
    show Q8d1 Z a1 bo bt rc o0 o1 t0 t1 er es ea h0 n0 _ T107.heap _
    rw [e107]
    refine ⟨?_, N0, rfl⟩
    rw [own_isat_t hc109]
  · refine OwnEnd.go (fun _ k => XS.icmpYes X107.here hx rfl (pc0 := 36) (pc' := 43) rfl (hb hby d8d1_36) rfl (feq hc109).2 (by decide) (by decide) k) ?_
    show OwnEnd p e below s _ _ _ (T107.setTop (mkF m 43 #[.val (.ref a1)] []))
    refine OwnEnd.go (fun _ k => XS.iconst X107.here hx rfl (hb hby d8d1_43) k) ?_
    show OwnEnd p e below s _ _ _ (T107.setTop (mkF m 44 #[.val (.ref a1)] [(.int (0 : Int32))]))
    refine ownRetZ X107 hx hlk hret (hb hby d8d1_44) (by decide) (by decide) (0 : Int32) (by decide) ?_
    show Q8d1 Z a1 bo bt rc o0 o1 t0 t1 er es ea h0 n0 _ T107.heap _
    rw [e107]
    refine ⟨?_, N0, rfl⟩
    rw [own_isat_f hc109]
theorem d6d1_0 : decode prog_249_method_3_code 0 = .ok (.aload_n 0, 1) := by decide +kernel
theorem d6d1_1 : decode prog_249_method_3_code 1 = .ok (.getfield 42, 3) := by decide +kernel
theorem d6d1_4 : decode prog_249_method_3_code 4 = .ok (.istore_n 2, 1) := by decide +kernel
theorem d6d1_5 : decode prog_249_method_3_code 5 = .ok (.aload_n 0, 1) := by decide +kernel
theorem d6d1_6 : decode prog_249_method_3_code 6 = .ok (.aload_n 0, 1) := by decide +kernel
theorem d6d1_7 : decode prog_249_method_3_code 7 = .ok (.getfield 26, 3) := by decide +kernel
theorem d6d1_10 : decode prog_249_method_3_code 10 = .ok (.ifCond .ne 7, 3) := by decide +kernel
theorem d6d1_17 : decode prog_249_method_3_code 17 = .ok (.iload_n 2, 1) := by decide +kernel
theorem d6d1_18 : decode prog_249_method_3_code 18 = .ok (.aload_n 0, 1) := by decide +kernel
theorem d6d1_19 : decode prog_249_method_3_code 19 = .ok (.getfield 7, 3) := by decide +kernel
theorem d6d1_22 : decode prog_249_method_3_code 22 = .ok (.aload_n 0, 1) := by decide +kernel
theorem d6d1_23 : decode prog_249_method_3_code 23 = .ok (.getfield 26, 3) := by decide +kernel
theorem d6d1_26 : decode prog_249_method_3_code 26 = .ok (.iconst 1, 1) := by decide +kernel
theorem d6d1_27 : decode prog_249_method_3_code 27 = .ok (.isub, 1) := by decide +kernel
theorem d6d1_28 : decode prog_249_method_3_code 28 = .ok (.iaload, 1) := by decide +kernel
theorem d6d1_29 : decode prog_249_method_3_code 29 = .ok (.isub, 1) := by decide +kernel
theorem d6d1_30 : decode prog_249_method_3_code 30 = .ok (.putfield 45, 3) := by decide +kernel
theorem d6d1_33 : decode prog_249_method_3_code 33 = .ok (.aload_n 0, 1) := by decide +kernel
theorem d6d1_34 : decode prog_249_method_3_code 34 = .ok (.dup, 1) := by decide +kernel
theorem d6d1_35 : decode prog_249_method_3_code 35 = .ok (.getfield 42, 3) := by decide +kernel
theorem d6d1_38 : decode prog_249_method_3_code 38 = .ok (.iload_n 1, 1) := by decide +kernel
theorem d6d1_39 : decode prog_249_method_3_code 39 = .ok (.iadd, 1) := by decide +kernel
theorem d6d1_40 : decode prog_249_method_3_code 40 = .ok (.putfield 42, 3) := by decide +kernel
theorem d6d1_43 : decode prog_249_method_3_code 43 = .ok (.iload_n 2, 1) := by decide +kernel
theorem d6d1_44 : decode prog_249_method_3_code 44 = .ok (.ireturn, 1) := by decide +kernel
theorem pn_6d1 : plainName "com/example/rewoven_tree/rewoventree/storage/TableShape" = true := by first | (simp [plainName, overriddenIn]; done) | decide +kernel
theorem ef_6d1 (m : MethodId) (x0 : Addr) (x1 : Int32) : entryFrame m #[(.ref x0), (.int x1)] 3 = mkF m 0 #[.val (.ref x0), .val (.int x1), .unset] [] := by first | (simp [entryFrame, mkF, argsToLocals, Value.category]; done) | rfl
def Q6d1 (Z : State) (a1 : Addr) (p2 : Int32) (bo : Addr) (bt : Addr) (rc : Int32) (o0 : Int32) (o1 : Int32) (t0 : Int32) (t1 : Int32) (er : Int32) (es : Int32) (ea : Int32) (h0 : Heap) (n0 : Nat) (v : Option Value) (h : Heap) (L : List Loc) : Prop := v = some (.int rc) ∧ Fr n0 L ∧ Keep h0 h [a1, bo, bt] ∧ ownTS Z h n0 a1 bo bt (rc + p2) (1 : Int32) o0 o1 t0 t1 er es ea
set_option maxRecDepth 65536 in
set_option maxHeartbeats 40000000 in
theorem rm6d1 (l : Launch) (Z : State) (a0 : Array Value) (hw : ∀ d ∈ tables_1, d.before a0 Z = true) (ws : List Jvm.Cond) (a1 : Addr) (p2 : Int32) (bo : Addr) (bt : Addr) (rc : Int32) (o0 : Int32) (o1 : Int32) (t0 : Int32) (t1 : Int32) (er : Int32) (es : Int32) (ea : Int32) (h0 : Heap) (n0 : Nat) (Z0 : n0 ≤ h0.size) (B0 : ownTS Z h0 n0 a1 bo bt rc (1 : Int32) o0 o1 t0 t1 er es ea) :
    MetFree l (⟨"com/example/rewoven_tree/rewoventree/storage/TableShape", "placeSubtree", "(I)I"⟩ : MethodName) (head1 (Jvm.Cond.code (⟨"com/example/rewoven_tree/rewoventree/storage/TableShape", "placeSubtree", "(I)I"⟩ : MethodName) prog_249_method_3_code 3 (some .int) :: ws) ({ frames := 0, cells := 0, slots := 0, locals := 0 } : Room)) (fun a U => a = #[(.ref a1), (.int p2)] ∧ Z.Warmed39 U.vm ∧ U.heap = h0) (fun _ _ _ _ _ => True) (fun _ U o U' => ∃ v L, o = .returned v ∧ Q6d1 Z a1 p2 bo bt rc o0 o1 t0 t1 er es ea h0 n0 v U'.heap L ∧ FrameEnd U o U' L ({ frames := 0, cells := 0, slots := 0, locals := 0 } : Room).cells ({ frames := 0, cells := 0, slots := 0, locals := 0 } : Room).slots) := by
  have ww13 := hw _ (List.mem_of_getElem? (i := 13) rfl)
  have ww22 := hw _ (List.mem_of_getElem? (i := 22) rfl)
  have ww23 := hw _ (List.mem_of_getElem? (i := 23) rfl)
  have ww25 := hw _ (List.mem_of_getElem? (i := 25) rfl)
  have ww31 := hw _ (List.mem_of_getElem? (i := 31) rfl)
  have ww32 := hw _ (List.mem_of_getElem? (i := 32) rfl)
  have ww43 := hw _ (List.mem_of_getElem? (i := 43) rfl)
  have ww44 := hw _ (List.mem_of_getElem? (i := 44) rfl)
  have ww45 := hw _ (List.mem_of_getElem? (i := 45) rfl)
  have ww46 := hw _ (List.mem_of_getElem? (i := 46) rfl)
  have ww66 := hw _ (List.mem_of_getElem? (i := 66) rfl)
  have ww68 := hw _ (List.mem_of_getElem? (i := 68) rfl)
  have ww70 := hw _ (List.mem_of_getElem? (i := 70) rfl)
  refine MetFree.of_bodySF (plainFor_of_name pn_6d1) hisR ?_
  intro p e s m args below meth c s₁ Bd hml0 hP hK
  obtain ⟨rfl, hZ, hh⟩ := hP
  have hx := Bd.exec
  have hby := Bd.bytes
  have hlk : meth.locks = false := Bd.notSynchronized
  have hret := Bd.returns
  have hml : c.maxLocals = 3 := hml0
  have hown : s.vm.findClass "com/example/rewoven_tree/rewoventree/storage/TableShape" = some m.cls := findClass_of_methodNamed Bd.named
  have hnm := (name_of_methodNamed Bd.named Bd.method).1
  have X0 : Stand p l e ({ frames := 0, cells := 0, slots := 0, locals := 0 } : Room) s m #[(.ref a1), (.int p2)] below meth c s₁ [] 0 0 := Stand.of_body Bd
  have e0 : s₁.heap = h0 := by rw [← hh, Bd.state]; rfl
  have N0 := Fr.nil n0
  have K0 := Keep.refl h0 [a1, bo, bt]
  show OwnEnd p e below s (Q6d1 Z a1 p2 bo bt rc o0 o1 t0 t1 er es ea h0 n0) ({ frames := 0, cells := 0, slots := 0, locals := 0 } : Room).cells ({ frames := 0, cells := 0, slots := 0, locals := 0 } : Room).slots _
  refine OwnEnd.go (fun _ k => castTop (ef_6d1 m a1 p2) k) ?_
  obtain ⟨ga, go, gt, n1, n2, n3, E1, F_open, F_attr, F_rc, F_dp, ⟨di, F_di⟩, F_er, F_es, F_ea, ⟨ko, V_o⟩, ⟨kt, V_t⟩⟩ := B0
  show OwnEnd p e below s _ _ _ (s₁.setTop (mkF m 0 #[.val (.ref a1), .val (.int p2), .unset] []))
  refine OwnEnd.go (fun _ k => XS.aloadN X0.here hx rfl (hb hby d6d1_0) rfl rfl k) ?_
  show OwnEnd p e below s _ _ _ (s₁.setTop (mkF m 1 #[.val (.ref a1), .val (.int p2), .unset] [(.ref a1)]))
  obtain ⟨T101, X101, e101, st101⟩ := getF X0 hx hZ hown (host := "") (Or.inl ww31) Via.refl e0 F_rc (g := (mkF m 1 #[.val (.ref a1), .val (.int p2), .unset] [(.ref a1)])) rfl rfl (hb hby d6d1_1)
  refine OwnEnd.go (fun _ k => st101 _ k) ?_
  show OwnEnd p e below s _ _ _ (T101.setTop (mkF m 4 #[.val (.ref a1), .val (.int p2), .unset] [(.int rc)]))
  refine OwnEnd.go (fun _ k => XS.istoreN X101.here hx rfl (hb hby d6d1_4) rfl  (l' := #[.val (.ref a1), .val (.int p2), .val (.int rc)]) rfl k) ?_
  show OwnEnd p e below s _ _ _ (T101.setTop (mkF m 5 #[.val (.ref a1), .val (.int p2), .val (.int rc)] []))
  refine OwnEnd.go (fun _ k => XS.aloadN X101.here hx rfl (hb hby d6d1_5) rfl rfl k) ?_
  show OwnEnd p e below s _ _ _ (T101.setTop (mkF m 6 #[.val (.ref a1), .val (.int p2), .val (.int rc)] [(.ref a1)]))
  refine OwnEnd.go (fun _ k => XS.aloadN X101.here hx rfl (hb hby d6d1_6) rfl rfl k) ?_
  show OwnEnd p e below s _ _ _ (T101.setTop (mkF m 7 #[.val (.ref a1), .val (.int p2), .val (.int rc)] [(.ref a1), (.ref a1)]))
  obtain ⟨T102, X102, e102, st102⟩ := getF X101 hx hZ hown (host := "") (Or.inl ww43) Via.refl e101 F_dp (g := (mkF m 7 #[.val (.ref a1), .val (.int p2), .val (.int rc)] [(.ref a1), (.ref a1)])) rfl rfl (hb hby d6d1_7)
  refine OwnEnd.go (fun _ k => st102 _ k) ?_
  show OwnEnd p e below s _ _ _ (T102.setTop (mkF m 10 #[.val (.ref a1), .val (.int p2), .val (.int rc)] [(.int (1 : Int32)), (.ref a1)]))
  refine OwnEnd.go (fun _ k => XS.ifYes X102.here hx rfl (pc0 := 10) (pc' := 17) rfl (hb hby d6d1_10) rfl ((if0 _ _).trans (feq (by decide : ¬ (1 : Int32) = (0 : Int32))).2) (by decide) (by decide) k) ?_
  show OwnEnd p e below s _ _ _ (T102.setTop (mkF m 17 #[.val (.ref a1), .val (.int p2), .val (.int rc)] [(.ref a1)]))
  refine OwnEnd.go (fun _ k => XS.iloadN X102.here hx rfl (hb hby d6d1_17) rfl  k) ?_
  show OwnEnd p e below s _ _ _ (T102.setTop (mkF m 18 #[.val (.ref a1), .val (.int p2), .val (.int rc)] [(.int rc), (.ref a1)]))
  refine OwnEnd.go (fun _ k => XS.aloadN X102.here hx rfl (hb hby d6d1_18) rfl rfl k) ?_
  show OwnEnd p e below s _ _ _ (T102.setTop (mkF m 19 #[.val (.ref a1), .val (.int p2), .val (.int rc)] [(.ref a1), (.int rc), (.ref a1)]))
  obtain ⟨T103, X103, e103, st103⟩ := getF X102 hx hZ hown (host := "") (Or.inl ww22) Via.refl e102 F_open (g := (mkF m 19 #[.val (.ref a1), .val (.int p2), .val (.int rc)] [(.ref a1), (.int rc), (.ref a1)])) rfl rfl (hb hby d6d1_19)
  refine OwnEnd.go (fun _ k => st103 _ k) ?_
  show OwnEnd p e below s _ _ _ (T103.setTop (mkF m 22 #[.val (.ref a1), .val (.int p2), .val (.int rc)] [(.ref bo), (.int rc), (.ref a1)]))
  refine OwnEnd.go (fun _ k => XS.aloadN X103.here hx rfl (hb hby d6d1_22) rfl rfl k) ?_
  show OwnEnd p e below s _ _ _ (T103.setTop (mkF m 23 #[.val (.ref a1), .val (.int p2), .val (.int rc)] [(.ref a1), (.ref bo), (.int rc), (.ref a1)]))
  obtain ⟨T104, X104, e104, st104⟩ := getF X103 hx hZ hown (host := "") (Or.inl ww43) Via.refl e103 F_dp (g := (mkF m 23 #[.val (.ref a1), .val (.int p2), .val (.int rc)] [(.ref a1), (.ref bo), (.int rc), (.ref a1)])) rfl rfl (hb hby d6d1_23)
  refine OwnEnd.go (fun _ k => st104 _ k) ?_
  show OwnEnd p e below s _ _ _ (T104.setTop (mkF m 26 #[.val (.ref a1), .val (.int p2), .val (.int rc)] [(.int (1 : Int32)), (.ref bo), (.int rc), (.ref a1)]))
  refine OwnEnd.go (fun _ k => XS.iconst X104.here hx rfl (hb hby d6d1_26) k) ?_
  show OwnEnd p e below s _ _ _ (T104.setTop (mkF m 27 #[.val (.ref a1), .val (.int p2), .val (.int rc)] [(.int (1 : Int32)), (.int (1 : Int32)), (.ref bo), (.int rc), (.ref a1)]))
  refine OwnEnd.go (fun _ k => XS.isub X104.here hx rfl (hb hby d6d1_27) rfl k) ?_
  show OwnEnd p e below s _ _ _ (T104.setTop (mkF m 28 #[.val (.ref a1), .val (.int p2), .val (.int rc)] [(.int (0 : Int32)), (.ref bo), (.int rc), (.ref a1)]))
  obtain ⟨c105, Ar105, q105, S105, G105, H105, J105⟩ := id V_o
  have i105 := inb_of (j := (0 : Int32)) S105 ⟨by decide, by decide⟩
  refine OwnEnd.go (fun _ k => X104.iaload hx (j := (0 : Int32)) (v := (.int o0)) (by rw [e104]; exact Ar105.1) (State.isArrayOf_alike hZ.alike Ar105.2.1) Ar105.2.2 i105 (Has.at H105 i105 rfl) (g := (mkF m 28 #[.val (.ref a1), .val (.int p2), .val (.int rc)] [(.int (0 : Int32)), (.ref bo), (.int rc), (.ref a1)])) rfl rfl (hb hby d6d1_28) _ k) ?_
  show OwnEnd p e below s _ _ _ (T104.setTop (mkF m 29 #[.val (.ref a1), .val (.int p2), .val (.int rc)] [(.int o0), (.int rc), (.ref a1)]))
  refine OwnEnd.go (fun _ k => XS.isub X104.here hx rfl (hb hby d6d1_29) rfl k) ?_
  show OwnEnd p e below s _ _ _ (T104.setTop (mkF m 30 #[.val (.ref a1), .val (.int p2), .val (.int rc)] [(.int (rc - o0)), (.ref a1)]))
  obtain ⟨T106, h106, X106, e106, W106, st106⟩ := putF X104 hx hZ hown (host := "") (Or.inl ww45) Via.refl e104 F_di E1 (Or.inl ww46) ww13 (ty := .int) (by decide) rfl rfl (g := (mkF m 30 #[.val (.ref a1), .val (.int p2), .val (.int rc)] [(.int (rc - o0)), (.ref a1)])) rfl rfl (hb hby d6d1_30)
  have F108 := E1.wr W106
  have F109 := F_open.other W106 (Or.inr (slot_ne (Or.inl ww23) (Or.inl ww46) (by decide) (t := (.array .int)) (t' := .int) (by decide) (by decide)))
  have F110 := F_attr.other W106 (Or.inr (slot_ne (Or.inl ww25) (Or.inl ww46) (by decide) (t := (.array .int)) (t' := .int) (by decide) (by decide)))
  have F111 := F_rc.other W106 (Or.inr (slot_ne (Or.inl ww32) (Or.inl ww46) (by decide) (t := .int) (t' := .int) (by decide) (by decide)))
  have F112 := F_dp.other W106 (Or.inr (slot_ne (Or.inl ww44) (Or.inl ww46) (by decide) (t := .int) (t' := .int) (by decide) (by decide)))
  have F113 := F_di.same W106
  have F114 := F_er.other W106 (Or.inr (slot_ne (Or.inl ww66) (Or.inl ww46) (by decide) (t := .int) (t' := .int) (by decide) (by decide)))
  have F115 := F_es.other W106 (Or.inr (slot_ne (Or.inl ww68) (Or.inl ww46) (by decide) (t := .int) (t' := .int) (by decide) (by decide)))
  have F116 := F_ea.other W106 (Or.inr (slot_ne (Or.inl ww70) (Or.inl ww46) (by decide) (t := .int) (t' := .int) (by decide) (by decide)))
  have F117 := V_o.other W106 (Ne.symm n1)
  have F118 := V_t.other W106 (Ne.symm n2)
  have N106 := Fr.snoc X106 N0 ga
  have K106 := K0.wr W106 (Or.inl (List.mem_of_getElem? (i := 0) rfl))
  have Y106 := Nat.le_trans Z0 (Nat.le_of_eq W106.size.symm)
  refine OwnEnd.go (fun _ k => st106 _ k) ?_
  show OwnEnd p e below s _ _ _ (T106.setTop (mkF m 33 #[.val (.ref a1), .val (.int p2), .val (.int rc)] []))
  refine OwnEnd.go (fun _ k => XS.aloadN X106.here hx rfl (hb hby d6d1_33) rfl rfl k) ?_
  show OwnEnd p e below s _ _ _ (T106.setTop (mkF m 34 #[.val (.ref a1), .val (.int p2), .val (.int rc)] [(.ref a1)]))
  refine OwnEnd.go (fun _ k => XS.dup X106.here hx rfl (hb hby d6d1_34) rfl rfl k) ?_
  show OwnEnd p e below s _ _ _ (T106.setTop (mkF m 35 #[.val (.ref a1), .val (.int p2), .val (.int rc)] [(.ref a1), (.ref a1)]))
  obtain ⟨T119, X119, e119, st119⟩ := getF X106 hx hZ hown (host := "") (Or.inl ww31) Via.refl e106 F111 (g := (mkF m 35 #[.val (.ref a1), .val (.int p2), .val (.int rc)] [(.ref a1), (.ref a1)])) rfl rfl (hb hby d6d1_35)
  refine OwnEnd.go (fun _ k => st119 _ k) ?_
  show OwnEnd p e below s _ _ _ (T119.setTop (mkF m 38 #[.val (.ref a1), .val (.int p2), .val (.int rc)] [(.int rc), (.ref a1)]))
  refine OwnEnd.go (fun _ k => XS.iloadN X119.here hx rfl (hb hby d6d1_38) rfl  k) ?_
  show OwnEnd p e below s _ _ _ (T119.setTop (mkF m 39 #[.val (.ref a1), .val (.int p2), .val (.int rc)] [(.int p2), (.int rc), (.ref a1)]))
  refine OwnEnd.go (fun _ k => XS.iadd X119.here hx rfl (hb hby d6d1_39) rfl k) ?_
  show OwnEnd p e below s _ _ _ (T119.setTop (mkF m 40 #[.val (.ref a1), .val (.int p2), .val (.int rc)] [(.int (rc + p2)), (.ref a1)]))
  obtain ⟨T120, h120, X120, e120, W120, st120⟩ := putF X119 hx hZ hown (host := "") (Or.inl ww31) Via.refl e119 F111 F108 (Or.inl ww32) ww13 (ty := .int) (by decide) rfl rfl (g := (mkF m 40 #[.val (.ref a1), .val (.int p2), .val (.int rc)] [(.int (rc + p2)), (.ref a1)])) rfl rfl (hb hby d6d1_40)
  have F121 := F108.wr W120
  have F122 := F109.other W120 (Or.inr (slot_ne (Or.inl ww23) (Or.inl ww32) (by decide) (t := (.array .int)) (t' := .int) (by decide) (by decide)))
  have F123 := F110.other W120 (Or.inr (slot_ne (Or.inl ww25) (Or.inl ww32) (by decide) (t := (.array .int)) (t' := .int) (by decide) (by decide)))
  have F124 := F111.same W120
  have F125 := F112.other W120 (Or.inr (slot_ne (Or.inl ww44) (Or.inl ww32) (by decide) (t := .int) (t' := .int) (by decide) (by decide)))
  have F126 := F113.other W120 (Or.inr (slot_ne (Or.inl ww46) (Or.inl ww32) (by decide) (t := .int) (t' := .int) (by decide) (by decide)))
  have F127 := F114.other W120 (Or.inr (slot_ne (Or.inl ww66) (Or.inl ww32) (by decide) (t := .int) (t' := .int) (by decide) (by decide)))
  have F128 := F115.other W120 (Or.inr (slot_ne (Or.inl ww68) (Or.inl ww32) (by decide) (t := .int) (t' := .int) (by decide) (by decide)))
  have F129 := F116.other W120 (Or.inr (slot_ne (Or.inl ww70) (Or.inl ww32) (by decide) (t := .int) (t' := .int) (by decide) (by decide)))
  have F130 := F117.other W120 (Ne.symm n1)
  have F131 := F118.other W120 (Ne.symm n2)
  have N120 := Fr.snoc X120 N106 ga
  have K120 := K106.wr W120 (Or.inl (List.mem_of_getElem? (i := 0) rfl))
  have Y120 := Nat.le_trans Y106 (Nat.le_of_eq W120.size.symm)
  refine OwnEnd.go (fun _ k => st120 _ k) ?_
  show OwnEnd p e below s _ _ _ (T120.setTop (mkF m 43 #[.val (.ref a1), .val (.int p2), .val (.int rc)] []))
  refine OwnEnd.go (fun _ k => XS.iloadN X120.here hx rfl (hb hby d6d1_43) rfl  k) ?_
  show OwnEnd p e below s _ _ _ (T120.setTop (mkF m 44 #[.val (.ref a1), .val (.int p2), .val (.int rc)] [(.int rc)]))
  refine ownRetI X120 hx hlk hret (hb hby d6d1_44) (by decide) (by decide) ?_
  show Q6d1 Z a1 p2 bo bt rc o0 o1 t0 t1 er es ea h0 n0 _ T120.heap _
  rw [e120]
  exact ⟨rfl, N120, K120, ⟨ga, go, gt, n1, n2, n3, F121, F122, F123, F124, F125, ⟨_, F126⟩, F127, F128, F129, ⟨_, F130⟩, ⟨_, F131⟩⟩⟩
theorem d5d1attr_0 : decode prog_249_method_2_code 0 = .ok (.aload_n 0, 1) := by decide +kernel
theorem d5d1attr_1 : decode prog_249_method_2_code 1 = .ok (.iconst 1, 1) := by decide +kernel
theorem d5d1attr_2 : decode prog_249_method_2_code 2 = .ok (.invokevirtual 16, 3) := by decide +kernel
theorem d5d1attr_5 : decode prog_249_method_2_code 5 = .ok (.istore_n 2, 1) := by decide +kernel
theorem d5d1attr_6 : decode prog_249_method_2_code 6 = .ok (.aload_n 1, 1) := by decide +kernel
theorem d5d1attr_7 : decode prog_249_method_2_code 7 = .ok (.getstatic 20, 3) := by decide +kernel
theorem d5d1attr_10 : decode prog_249_method_2_code 10 = .ok (.if_acmp .ne 25, 3) := by decide +kernel
theorem d5d1attr_13 : decode prog_249_method_2_code 13 = .ok (.aload_n 0, 1) := by decide +kernel
theorem d5d1attr_14 : decode prog_249_method_2_code 14 = .ok (.getfield 26, 3) := by decide +kernel
theorem d5d1attr_17 : decode prog_249_method_2_code 17 = .ok (.ifCond .le 18, 3) := by decide +kernel
theorem d5d1attr_20 : decode prog_249_method_2_code 20 = .ok (.aload_n 0, 1) := by decide +kernel
theorem d5d1attr_21 : decode prog_249_method_2_code 21 = .ok (.getfield 13, 3) := by decide +kernel
theorem d5d1attr_24 : decode prog_249_method_2_code 24 = .ok (.aload_n 0, 1) := by decide +kernel
theorem d5d1attr_25 : decode prog_249_method_2_code 25 = .ok (.getfield 26, 3) := by decide +kernel
theorem d5d1attr_28 : decode prog_249_method_2_code 28 = .ok (.iconst 1, 1) := by decide +kernel
theorem d5d1attr_29 : decode prog_249_method_2_code 29 = .ok (.isub, 1) := by decide +kernel
theorem d5d1attr_30 : decode prog_249_method_2_code 30 = .ok (.dup2, 1) := by decide +kernel
theorem d5d1attr_31 : decode prog_249_method_2_code 31 = .ok (.iaload, 1) := by decide +kernel
theorem d5d1attr_32 : decode prog_249_method_2_code 32 = .ok (.iconst 1, 1) := by decide +kernel
theorem d5d1attr_33 : decode prog_249_method_2_code 33 = .ok (.iadd, 1) := by decide +kernel
theorem d5d1attr_34 : decode prog_249_method_2_code 34 = .ok (.iastore, 1) := by decide +kernel
theorem d5d1attr_35 : decode prog_249_method_2_code 35 = .ok (.aload_n 1, 1) := by decide +kernel
theorem d5d1attr_36 : decode prog_249_method_2_code 36 = .ok (.getstatic 30, 3) := by decide +kernel
theorem d5d1attr_39 : decode prog_249_method_2_code 39 = .ok (.if_acmp .eq 10, 3) := by decide +kernel
theorem d5d1attr_42 : decode prog_249_method_2_code 42 = .ok (.aload_n 1, 1) := by decide +kernel
theorem d5d1attr_43 : decode prog_249_method_2_code 43 = .ok (.getstatic 33, 3) := by decide +kernel
theorem d5d1attr_46 : decode prog_249_method_2_code 46 = .ok (.if_acmp .ne 79, 3) := by decide +kernel
theorem d5d1attr_125 : decode prog_249_method_2_code 125 = .ok (.iload_n 2, 1) := by decide +kernel
theorem d5d1attr_126 : decode prog_249_method_2_code 126 = .ok (.ireturn, 1) := by decide +kernel
theorem pn_5d1attr : plainName "com/example/rewoven_tree/rewoventree/storage/TableShape" = true := by first | (simp [plainName, overriddenIn]; done) | decide +kernel
theorem pd5d1attr_0 : parseMethodDescriptor "(I)I" = some ⟨[.int], some .int⟩ := by decide +kernel
theorem ef_5d1attr (m : MethodId) (x0 : Addr) (x1 : Addr) : entryFrame m #[(.ref x0), (.ref x1)] 3 = mkF m 0 #[.val (.ref x0), .val (.ref x1), .unset] [] := by first | (simp [entryFrame, mkF, argsToLocals, Value.category]; done) | rfl
def Q5d1attr (Z : State) (a1 : Addr) (a2 : Addr) (bo : Addr) (bt : Addr) (rc : Int32) (o0 : Int32) (o1 : Int32) (t0 : Int32) (t1 : Int32) (er : Int32) (es : Int32) (ea : Int32) (xA : Addr) (xE : Addr) (xD : Addr) (h0 : Heap) (n0 : Nat) (v : Option Value) (h : Heap) (L : List Loc) : Prop := v = some (.int rc) ∧ Fr n0 L ∧ Keep h0 h [a1, bo, bt] ∧ ownTS Z h n0 a1 bo bt (rc + (1 : Int32)) (1 : Int32) o0 o1 (t0 + (1 : Int32)) t1 er es ea
set_option maxRecDepth 65536 in
set_option maxHeartbeats 40000000 in
theorem rm5d1attr (l : Launch) (Z : State) (a0 : Array Value) (hw : ∀ d ∈ tables_1, d.before a0 Z = true) (ws : List Jvm.Cond) (a1 : Addr) (a2 : Addr) (bo : Addr) (bt : Addr) (rc : Int32) (o0 : Int32) (o1 : Int32) (t0 : Int32) (t1 : Int32) (er : Int32) (es : Int32) (ea : Int32) (xA : Addr) (xE : Addr) (xD : Addr) (h0 : Heap) (n0 : Nat) (Z0 : n0 ≤ h0.size) (O0 : Old Z n0 h0) (SA : Sta Z Z.heap "com/example/rewoven_tree/rewoventree/storage/NodeKind" "ATTRIBUTE" "Lcom/example/rewoven_tree/rewoventree/storage/NodeKind;" (.ref xA)) (SE : Sta Z Z.heap "com/example/rewoven_tree/rewoventree/storage/NodeKind" "ELEMENT" "Lcom/example/rewoven_tree/rewoventree/storage/NodeKind;" (.ref xE)) (SD : Sta Z Z.heap "com/example/rewoven_tree/rewoventree/storage/NodeKind" "DOCUMENT" "Lcom/example/rewoven_tree/rewoventree/storage/NodeKind;" (.ref xD)) (hk : a2 = xA) (nE : a2 ≠ xE) (nD : a2 ≠ xD) (B0 : ownTS Z h0 n0 a1 bo bt rc (1 : Int32) o0 o1 t0 t1 er es ea) :
    MetFree l (⟨"com/example/rewoven_tree/rewoventree/storage/TableShape", "place", "(Lcom/example/rewoven_tree/rewoventree/storage/NodeKind;)I"⟩ : MethodName) (head1 (Jvm.Cond.code (⟨"com/example/rewoven_tree/rewoventree/storage/TableShape", "place", "(Lcom/example/rewoven_tree/rewoventree/storage/NodeKind;)I"⟩ : MethodName) prog_249_method_2_code 3 (some .int) :: ws) ({ frames := 1, cells := 0, slots := 0, locals := 14 } : Room)) (fun a U => a = #[(.ref a1), (.ref a2)] ∧ Z.Warmed39 U.vm ∧ U.heap = h0) (fun _ _ _ _ _ => True) (fun _ U o U' => ∃ v L, o = .returned v ∧ Q5d1attr Z a1 a2 bo bt rc o0 o1 t0 t1 er es ea xA xE xD h0 n0 v U'.heap L ∧ FrameEnd U o U' L ({ frames := 1, cells := 0, slots := 0, locals := 14 } : Room).cells ({ frames := 1, cells := 0, slots := 0, locals := 14 } : Room).slots) := by
  have ww14 := hw _ (List.mem_of_getElem? (i := 14) rfl)
  have ww24 := hw _ (List.mem_of_getElem? (i := 24) rfl)
  have ww38 := hw _ (List.mem_of_getElem? (i := 38) rfl)
  have ww39 := hw _ (List.mem_of_getElem? (i := 39) rfl)
  have ww40 := hw _ (List.mem_of_getElem? (i := 40) rfl)
  have ww41 := hw _ (List.mem_of_getElem? (i := 41) rfl)
  have ww42 := hw _ (List.mem_of_getElem? (i := 42) rfl)
  have ww43 := hw _ (List.mem_of_getElem? (i := 43) rfl)
  have ww47 := hw _ (List.mem_of_getElem? (i := 47) rfl)
  have ww48 := hw _ (List.mem_of_getElem? (i := 48) rfl)
  have ww49 := hw _ (List.mem_of_getElem? (i := 49) rfl)
  refine MetFree.of_bodySF (plainFor_of_name pn_5d1attr) hisR ?_
  intro p e s m args below meth c s₁ Bd hml0 hP hK
  obtain ⟨rfl, hZ, hh⟩ := hP
  have hx := Bd.exec
  have hby := Bd.bytes
  have hlk : meth.locks = false := Bd.notSynchronized
  have hret := Bd.returns
  have hml : c.maxLocals = 3 := hml0
  have hown : s.vm.findClass "com/example/rewoven_tree/rewoventree/storage/TableShape" = some m.cls := findClass_of_methodNamed Bd.named
  have hnm := (name_of_methodNamed Bd.named Bd.method).1
  have X0 : Stand p l e ({ frames := 1, cells := 0, slots := 0, locals := 14 } : Room) s m #[(.ref a1), (.ref a2)] below meth c s₁ [] 0 0 := Stand.of_body Bd
  have e0 : s₁.heap = h0 := by rw [← hh, Bd.state]; rfl
  have N0 := Fr.nil n0
  have K0 := Keep.refl h0 [a1, bo, bt]
  show OwnEnd p e below s (Q5d1attr Z a1 a2 bo bt rc o0 o1 t0 t1 er es ea xA xE xD h0 n0) ({ frames := 1, cells := 0, slots := 0, locals := 14 } : Room).cells ({ frames := 1, cells := 0, slots := 0, locals := 14 } : Room).slots _
  refine OwnEnd.go (fun _ k => castTop (ef_5d1attr m a1 a2) k) ?_
  have E1 := B0.2.2.2.2.2.2.1
  have ga := B0.1
  have go := B0.2.1
  have gt := B0.2.2.1
  show OwnEnd p e below s _ _ _ (s₁.setTop (mkF m 0 #[.val (.ref a1), .val (.ref a2), .unset] []))
  refine OwnEnd.go (fun _ k => XS.aloadN X0.here hx rfl (hb hby d5d1attr_0) rfl rfl k) ?_
  show OwnEnd p e below s _ _ _ (s₁.setTop (mkF m 1 #[.val (.ref a1), .val (.ref a2), .unset] [(.ref a1)]))
  refine OwnEnd.go (fun _ k => XS.iconst X0.here hx rfl (hb hby d5d1attr_1) k) ?_
  show OwnEnd p e below s _ _ _ (s₁.setTop (mkF m 2 #[.val (.ref a1), .val (.ref a2), .unset] [(.int (1 : Int32)), (.ref a1)]))
  obtain ⟨_, T101, L101, X101, hQ101, st101⟩ := ownCallV X0 hx hZ hown ww38 ww39 ww41 ww40 ww14 ww42 (by decide) (rm6d1 l Z a0 hw [] a1 (1 : Int32) bo bt rc o0 o1 t0 t1 er es ea h0 n0 Z0  B0) e0 E1 0 (by decide) (by decide) (by decide) (by decide) (g := (mkF m 2 #[.val (.ref a1), .val (.ref a2), .unset] [(.int (1 : Int32)), (.ref a1)])) rfl (by rw [hml]; rfl) (argsL := [(.int (1 : Int32))]) (rest := []) (lenOf pd5d1attr_0 rfl) rfl rfl (by show 2 * 0 + _ ≤ _; exact Nat.le_of_eq rfl) (hb hby d5d1attr_2)
  obtain ⟨rfl, N101q, K101q, P102⟩ := hQ101
  have N101 := Fr.app N0 N101q
  have F104 := E1.keep K101q
  have K101 := K0.trans K101q (allS (Or.inl (List.mem_of_getElem? (i := 0) rfl)) (allS (Or.inl (List.mem_of_getElem? (i := 1) rfl)) (allS (Or.inl (List.mem_of_getElem? (i := 2) rfl)) all0)))
  have Y101 := Nat.le_trans Z0 K101q.1
  have O101 := O0.keep K101q (allS ga (allS go (allS gt all0)))
  refine OwnEnd.go (fun _ k => st101 _ k) ?_
  obtain ⟨-, -, -, n1, n2, n3, E2, F_open, F_attr, F_rc, F_dp, ⟨di, F_di⟩, F_er, F_es, F_ea, ⟨ko, V_o⟩, ⟨kt, V_t⟩⟩ := P102
  show OwnEnd p e below s _ _ _ (T101.setTop (mkF m 5 #[.val (.ref a1), .val (.ref a2), .unset] [(.int rc)]))
  refine OwnEnd.go (fun _ k => XS.istoreN X101.here hx rfl (hb hby d5d1attr_5) rfl  (l' := #[.val (.ref a1), .val (.ref a2), .val (.int rc)]) rfl k) ?_
  show OwnEnd p e below s _ _ _ (T101.setTop (mkF m 6 #[.val (.ref a1), .val (.ref a2), .val (.int rc)] []))
  refine OwnEnd.go (fun _ k => XS.aloadN X101.here hx rfl (hb hby d5d1attr_6) rfl rfl k) ?_
  show OwnEnd p e below s _ _ _ (T101.setTop (mkF m 7 #[.val (.ref a1), .val (.ref a2), .val (.int rc)] [(.ref a2)]))
  obtain ⟨T105, X105, e105, st105⟩ := getS2 X101 hx hZ hown (host := "") (Or.inl ww47) Via.refl (rfl : T101.heap = T101.heap) (SA.ext O101.2) (g := (mkF m 7 #[.val (.ref a1), .val (.ref a2), .val (.int rc)] [(.ref a2)])) rfl (hb hby d5d1attr_7)
  refine OwnEnd.go (fun _ k => st105 _ k) ?_
  show OwnEnd p e below s _ _ _ (T105.setTop (mkF m 10 #[.val (.ref a1), .val (.ref a2), .val (.int rc)] [(.ref xA), (.ref a2)]))
  refine OwnEnd.go (fun _ k => Jvm.RoadKit.acmp (g := (mkF m 10 #[.val (.ref a1), .val (.ref a2), .val (.int rc)] [(.ref xA), (.ref a2)])) X105 hx rfl rfl rfl (pc0 := 10) (pc' := 13) (same := true) rfl (hb hby d5d1attr_10) rfl (decide_eq_true (congrArg Value.ref hk)) (by decide) (by decide) k) ?_
  show OwnEnd p e below s _ _ _ (T105.setTop (mkF m 13 #[.val (.ref a1), .val (.ref a2), .val (.int rc)] []))
  refine OwnEnd.go (fun _ k => XS.aloadN X105.here hx rfl (hb hby d5d1attr_13) rfl rfl k) ?_
  show OwnEnd p e below s _ _ _ (T105.setTop (mkF m 14 #[.val (.ref a1), .val (.ref a2), .val (.int rc)] [(.ref a1)]))
  obtain ⟨T106, X106, e106, st106⟩ := getF X105 hx hZ hown (host := "") (Or.inl ww43) Via.refl e105 F_dp (g := (mkF m 14 #[.val (.ref a1), .val (.ref a2), .val (.int rc)] [(.ref a1)])) rfl rfl (hb hby d5d1attr_14)
  refine OwnEnd.go (fun _ k => st106 _ k) ?_
  show OwnEnd p e below s _ _ _ (T106.setTop (mkF m 17 #[.val (.ref a1), .val (.ref a2), .val (.int rc)] [(.int (1 : Int32))]))
  refine OwnEnd.go (fun _ k => XS.ifNo X106.here hx rfl (hb hby d5d1attr_17) rfl ((if0 _ _).trans (tlt (by decide : (0 : Int32) < (1 : Int32))).2.2.2) k) ?_
  show OwnEnd p e below s _ _ _ (T106.setTop (mkF m 20 #[.val (.ref a1), .val (.ref a2), .val (.int rc)] []))
  refine OwnEnd.go (fun _ k => XS.aloadN X106.here hx rfl (hb hby d5d1attr_20) rfl rfl k) ?_
  show OwnEnd p e below s _ _ _ (T106.setTop (mkF m 21 #[.val (.ref a1), .val (.ref a2), .val (.int rc)] [(.ref a1)]))
  obtain ⟨T107, X107, e107, st107⟩ := getF X106 hx hZ hown (host := "") (Or.inl ww24) Via.refl e106 F_attr (g := (mkF m 21 #[.val (.ref a1), .val (.ref a2), .val (.int rc)] [(.ref a1)])) rfl rfl (hb hby d5d1attr_21)
  refine OwnEnd.go (fun _ k => st107 _ k) ?_
  show OwnEnd p e below s _ _ _ (T107.setTop (mkF m 24 #[.val (.ref a1), .val (.ref a2), .val (.int rc)] [(.ref bt)]))
  refine OwnEnd.go (fun _ k => XS.aloadN X107.here hx rfl (hb hby d5d1attr_24) rfl rfl k) ?_
  show OwnEnd p e below s _ _ _ (T107.setTop (mkF m 25 #[.val (.ref a1), .val (.ref a2), .val (.int rc)] [(.ref a1), (.ref bt)]))
  obtain ⟨T108, X108, e108, st108⟩ := getF X107 hx hZ hown (host := "") (Or.inl ww43) Via.refl e107 F_dp (g := (mkF m 25 #[.val (.ref a1), .val (.ref a2), .val (.int rc)] [(.ref a1), (.ref bt)])) rfl rfl (hb hby d5d1attr_25)
  refine OwnEnd.go (fun _ k => st108 _ k) ?_
  show OwnEnd p e below s _ _ _ (T108.setTop (mkF m 28 #[.val (.ref a1), .val (.ref a2), .val (.int rc)] [(.int (1 : Int32)), (.ref bt)]))
  refine OwnEnd.go (fun _ k => XS.iconst X108.here hx rfl (hb hby d5d1attr_28) k) ?_
  show OwnEnd p e below s _ _ _ (T108.setTop (mkF m 29 #[.val (.ref a1), .val (.ref a2), .val (.int rc)] [(.int (1 : Int32)), (.int (1 : Int32)), (.ref bt)]))
  refine OwnEnd.go (fun _ k => XS.isub X108.here hx rfl (hb hby d5d1attr_29) rfl k) ?_
  show OwnEnd p e below s _ _ _ (T108.setTop (mkF m 30 #[.val (.ref a1), .val (.ref a2), .val (.int rc)] [(.int (0 : Int32)), (.ref bt)]))
  refine OwnEnd.go (fun _ k => XT.dup2 X108.here hx rfl (hb hby d5d1attr_30) rfl rfl rfl k) ?_
  show OwnEnd p e below s _ _ _ (T108.setTop (mkF m 31 #[.val (.ref a1), .val (.ref a2), .val (.int rc)] [(.int (0 : Int32)), (.ref bt), (.int (0 : Int32)), (.ref bt)]))
  obtain ⟨c109, Ar109, q109, S109, G109, H109, J109⟩ := id V_t
  have i109 := inb_of (j := (0 : Int32)) S109 ⟨by decide, by decide⟩
  refine OwnEnd.go (fun _ k => X108.iaload hx (j := (0 : Int32)) (v := (.int t0)) (by rw [e108]; exact Ar109.1) (State.isArrayOf_alike hZ.alike Ar109.2.1) Ar109.2.2 i109 (Has.at H109 i109 rfl) (g := (mkF m 31 #[.val (.ref a1), .val (.ref a2), .val (.int rc)] [(.int (0 : Int32)), (.ref bt), (.int (0 : Int32)), (.ref bt)])) rfl rfl (hb hby d5d1attr_31) _ k) ?_
  show OwnEnd p e below s _ _ _ (T108.setTop (mkF m 32 #[.val (.ref a1), .val (.ref a2), .val (.int rc)] [(.int t0), (.int (0 : Int32)), (.ref bt)]))
  refine OwnEnd.go (fun _ k => XS.iconst X108.here hx rfl (hb hby d5d1attr_32) k) ?_
  show OwnEnd p e below s _ _ _ (T108.setTop (mkF m 33 #[.val (.ref a1), .val (.ref a2), .val (.int rc)] [(.int (1 : Int32)), (.int t0), (.int (0 : Int32)), (.ref bt)]))
  refine OwnEnd.go (fun _ k => XS.iadd X108.here hx rfl (hb hby d5d1attr_33) rfl k) ?_
  show OwnEnd p e below s _ _ _ (T108.setTop (mkF m 34 #[.val (.ref a1), .val (.ref a2), .val (.int rc)] [(.int (t0 + (1 : Int32))), (.int (0 : Int32)), (.ref bt)]))
  obtain ⟨c110, Ar110, q110, S110, G110, H110, J110⟩ := id V_t
  obtain ⟨T110, h110, X110, e110, W110, st110⟩ := stI X108 hx hZ e108 Ar110 (j := (0 : Int32)) (inb_of S110 ⟨by decide, by decide⟩) (g := (mkF m 34 #[.val (.ref a1), .val (.ref a2), .val (.int rc)] [(.int (t0 + (1 : Int32))), (.int (0 : Int32)), (.ref bt)])) rfl rfl (hb hby d5d1attr_34)
  have V110 : Arv Z h110 bt kt .int (8 : Int32) [(.int (t0 + (1 : Int32))), (.int t1), (.int (0 : Int32)), (.int (0 : Int32)), (.int (0 : Int32)), (.int (0 : Int32)), (.int (0 : Int32)), (.int (0 : Int32))] (.int (0 : Int32)) := Arv.set Ar110 q110 S110 G110 H110 J110 rfl W110 0 rfl (Nat.le_of_ble_eq_true rfl)
  have F111 := E2.wr W110
  have F112 := F_open.other W110 (Or.inl n2)
  have F113 := F_attr.other W110 (Or.inl n2)
  have F114 := F_rc.other W110 (Or.inl n2)
  have F115 := F_dp.other W110 (Or.inl n2)
  have F116 := F_di.other W110 (Or.inl n2)
  have F117 := F_er.other W110 (Or.inl n2)
  have F118 := F_es.other W110 (Or.inl n2)
  have F119 := F_ea.other W110 (Or.inl n2)
  have F120 := V_o.other W110 n3
  have N110 := Fr.snoc X110 N101 gt
  have K110 := K101.wr W110 (Or.inl (List.mem_of_getElem? (i := 2) rfl))
  have Y110 := Nat.le_trans Y101 (Nat.le_of_eq W110.size.symm)
  have O110 := O101.wr W110 gt
  refine OwnEnd.go (fun _ k => st110 _ k) ?_
  show OwnEnd p e below s _ _ _ (T110.setTop (mkF m 35 #[.val (.ref a1), .val (.ref a2), .val (.int rc)] []))
  refine OwnEnd.go (fun _ k => XS.aloadN X110.here hx rfl (hb hby d5d1attr_35) rfl rfl k) ?_
  show OwnEnd p e below s _ _ _ (T110.setTop (mkF m 36 #[.val (.ref a1), .val (.ref a2), .val (.int rc)] [(.ref a2)]))
  obtain ⟨T122, X122, e122, st122⟩ := getS2 X110 hx hZ hown (host := "") (Or.inl ww48) Via.refl e110 (SE.ext O110.2) (g := (mkF m 36 #[.val (.ref a1), .val (.ref a2), .val (.int rc)] [(.ref a2)])) rfl (hb hby d5d1attr_36)
  refine OwnEnd.go (fun _ k => st122 _ k) ?_
  show OwnEnd p e below s _ _ _ (T122.setTop (mkF m 39 #[.val (.ref a1), .val (.ref a2), .val (.int rc)] [(.ref xE), (.ref a2)]))
  refine OwnEnd.go (fun _ k => Jvm.RoadKit.acmp (g := (mkF m 39 #[.val (.ref a1), .val (.ref a2), .val (.int rc)] [(.ref xE), (.ref a2)])) X122 hx rfl rfl rfl (pc0 := 39) (pc' := 42) (same := false) rfl (hb hby d5d1attr_39) rfl (decide_eq_false fun q => nE (Value.ref.inj q)) (by decide) (by decide) k) ?_
  show OwnEnd p e below s _ _ _ (T122.setTop (mkF m 42 #[.val (.ref a1), .val (.ref a2), .val (.int rc)] []))
  refine OwnEnd.go (fun _ k => XS.aloadN X122.here hx rfl (hb hby d5d1attr_42) rfl rfl k) ?_
  show OwnEnd p e below s _ _ _ (T122.setTop (mkF m 43 #[.val (.ref a1), .val (.ref a2), .val (.int rc)] [(.ref a2)]))
  obtain ⟨T123, X123, e123, st123⟩ := getS2 X122 hx hZ hown (host := "") (Or.inl ww49) Via.refl e122 (SD.ext O110.2) (g := (mkF m 43 #[.val (.ref a1), .val (.ref a2), .val (.int rc)] [(.ref a2)])) rfl (hb hby d5d1attr_43)
  refine OwnEnd.go (fun _ k => st123 _ k) ?_
  show OwnEnd p e below s _ _ _ (T123.setTop (mkF m 46 #[.val (.ref a1), .val (.ref a2), .val (.int rc)] [(.ref xD), (.ref a2)]))
  refine OwnEnd.go (fun _ k => Jvm.RoadKit.acmp (g := (mkF m 46 #[.val (.ref a1), .val (.ref a2), .val (.int rc)] [(.ref xD), (.ref a2)])) X123 hx rfl rfl rfl (pc0 := 46) (pc' := 125) (same := false) rfl (hb hby d5d1attr_46) rfl (decide_eq_false fun q => nD (Value.ref.inj q)) (by decide) (by decide) k) ?_
  show OwnEnd p e below s _ _ _ (T123.setTop (mkF m 125 #[.val (.ref a1), .val (.ref a2), .val (.int rc)] []))
  refine OwnEnd.go (fun _ k => XS.iloadN X123.here hx rfl (hb hby d5d1attr_125) rfl  k) ?_
  show OwnEnd p e below s _ _ _ (T123.setTop (mkF m 126 #[.val (.ref a1), .val (.ref a2), .val (.int rc)] [(.int rc)]))
  refine ownRetI X123 hx hlk hret (hb hby d5d1attr_126) (by decide) (by decide) ?_
  show Q5d1attr Z a1 a2 bo bt rc o0 o1 t0 t1 er es ea xA xE xD h0 n0 _ T123.heap _
  rw [e123]
  exact ⟨rfl, N110, K110, ⟨ga, go, gt, n1, n2, n3, F111, F112, F113, F114, F115, ⟨_, F116⟩, F117, F118, F119, ⟨_, F120⟩, ⟨_, V110⟩⟩⟩
theorem d9d1_0 : decode prog_249_method_6_code 0 = .ok (.aload_n 0, 1) := by decide +kernel
theorem d9d1_1 : decode prog_249_method_6_code 1 = .ok (.dup, 1) := by decide +kernel
theorem d9d1_2 : decode prog_249_method_6_code 2 = .ok (.getfield 26, 3) := by decide +kernel
theorem d9d1_5 : decode prog_249_method_6_code 5 = .ok (.iconst 1, 1) := by decide +kernel
theorem d9d1_6 : decode prog_249_method_6_code 6 = .ok (.isub, 1) := by decide +kernel
theorem d9d1_7 : decode prog_249_method_6_code 7 = .ok (.putfield 26, 3) := by decide +kernel
theorem d9d1_10 : decode prog_249_method_6_code 10 = .ok (.aload_n 0, 1) := by decide +kernel
theorem d9d1_11 : decode prog_249_method_6_code 11 = .ok (.aload_n 0, 1) := by decide +kernel
theorem d9d1_12 : decode prog_249_method_6_code 12 = .ok (.getfield 7, 3) := by decide +kernel
theorem d9d1_15 : decode prog_249_method_6_code 15 = .ok (.aload_n 0, 1) := by decide +kernel
theorem d9d1_16 : decode prog_249_method_6_code 16 = .ok (.getfield 26, 3) := by decide +kernel
theorem d9d1_19 : decode prog_249_method_6_code 19 = .ok (.iaload, 1) := by decide +kernel
theorem d9d1_20 : decode prog_249_method_6_code 20 = .ok (.putfield 48, 3) := by decide +kernel
theorem d9d1_23 : decode prog_249_method_6_code 23 = .ok (.aload_n 0, 1) := by decide +kernel
theorem d9d1_24 : decode prog_249_method_6_code 24 = .ok (.aload_n 0, 1) := by decide +kernel
theorem d9d1_25 : decode prog_249_method_6_code 25 = .ok (.getfield 42, 3) := by decide +kernel
theorem d9d1_28 : decode prog_249_method_6_code 28 = .ok (.aload_n 0, 1) := by decide +kernel
theorem d9d1_29 : decode prog_249_method_6_code 29 = .ok (.getfield 7, 3) := by decide +kernel
theorem d9d1_32 : decode prog_249_method_6_code 32 = .ok (.aload_n 0, 1) := by decide +kernel
theorem d9d1_33 : decode prog_249_method_6_code 33 = .ok (.getfield 26, 3) := by decide +kernel
theorem d9d1_36 : decode prog_249_method_6_code 36 = .ok (.iaload, 1) := by decide +kernel
theorem d9d1_37 : decode prog_249_method_6_code 37 = .ok (.isub, 1) := by decide +kernel
theorem d9d1_38 : decode prog_249_method_6_code 38 = .ok (.putfield 51, 3) := by decide +kernel
theorem d9d1_41 : decode prog_249_method_6_code 41 = .ok (.aload_n 0, 1) := by decide +kernel
theorem d9d1_42 : decode prog_249_method_6_code 42 = .ok (.aload_n 0, 1) := by decide +kernel
theorem d9d1_43 : decode prog_249_method_6_code 43 = .ok (.getfield 13, 3) := by decide +kernel
theorem d9d1_46 : decode prog_249_method_6_code 46 = .ok (.aload_n 0, 1) := by decide +kernel
theorem d9d1_47 : decode prog_249_method_6_code 47 = .ok (.getfield 26, 3) := by decide +kernel
theorem d9d1_50 : decode prog_249_method_6_code 50 = .ok (.iaload, 1) := by decide +kernel
theorem d9d1_51 : decode prog_249_method_6_code 51 = .ok (.putfield 54, 3) := by decide +kernel
theorem d9d1_54 : decode prog_249_method_6_code 54 = .ok (.return_, 1) := by decide +kernel
theorem pn_9d1 : plainName "com/example/rewoven_tree/rewoventree/storage/TableShape" = true := by first | (simp [plainName, overriddenIn]; done) | decide +kernel
theorem ef_9d1 (m : MethodId) (x0 : Addr) : entryFrame m #[(.ref x0)] 1 = mkF m 0 #[.val (.ref x0)] [] := by first | (simp [entryFrame, mkF, argsToLocals, Value.category]; done) | rfl
def Q9d1 (Z : State) (a1 : Addr) (bo : Addr) (bt : Addr) (rc : Int32) (o0 : Int32) (o1 : Int32) (t0 : Int32) (t1 : Int32) (er : Int32) (es : Int32) (ea : Int32) (h0 : Heap) (n0 : Nat) (v : Option Value) (h : Heap) (L : List Loc) : Prop := v = none ∧ Fr n0 L ∧ Keep h0 h [a1, bo, bt] ∧ ownTS Z h n0 a1 bo bt rc (0 : Int32) o0 o1 t0 t1 o0 (rc - o0) t0
set_option maxRecDepth 65536 in
set_option maxHeartbeats 40000000 in
theorem rm9d1 (l : Launch) (Z : State) (a0 : Array Value) (hw : ∀ d ∈ tables_1, d.before a0 Z = true) (ws : List Jvm.Cond) (a1 : Addr) (bo : Addr) (bt : Addr) (rc : Int32) (o0 : Int32) (o1 : Int32) (t0 : Int32) (t1 : Int32) (er : Int32) (es : Int32) (ea : Int32) (h0 : Heap) (n0 : Nat) (Z0 : n0 ≤ h0.size) (B0 : ownTS Z h0 n0 a1 bo bt rc (1 : Int32) o0 o1 t0 t1 er es ea) :
    MetFree l (⟨"com/example/rewoven_tree/rewoventree/storage/TableShape", "end", "()V"⟩ : MethodName) (head1 (Jvm.Cond.code (⟨"com/example/rewoven_tree/rewoventree/storage/TableShape", "end", "()V"⟩ : MethodName) prog_249_method_6_code 1 none :: ws) ({ frames := 0, cells := 0, slots := 0, locals := 0 } : Room)) (fun a U => a = #[(.ref a1)] ∧ Z.Warmed39 U.vm ∧ U.heap = h0) (fun _ _ _ _ _ => True) (fun _ U o U' => ∃ v L, o = .returned v ∧ Q9d1 Z a1 bo bt rc o0 o1 t0 t1 er es ea h0 n0 v U'.heap L ∧ FrameEnd U o U' L ({ frames := 0, cells := 0, slots := 0, locals := 0 } : Room).cells ({ frames := 0, cells := 0, slots := 0, locals := 0 } : Room).slots) := by
  have ww13 := hw _ (List.mem_of_getElem? (i := 13) rfl)
  have ww22 := hw _ (List.mem_of_getElem? (i := 22) rfl)
  have ww23 := hw _ (List.mem_of_getElem? (i := 23) rfl)
  have ww24 := hw _ (List.mem_of_getElem? (i := 24) rfl)
  have ww25 := hw _ (List.mem_of_getElem? (i := 25) rfl)
  have ww31 := hw _ (List.mem_of_getElem? (i := 31) rfl)
  have ww32 := hw _ (List.mem_of_getElem? (i := 32) rfl)
  have ww43 := hw _ (List.mem_of_getElem? (i := 43) rfl)
  have ww44 := hw _ (List.mem_of_getElem? (i := 44) rfl)
  have ww46 := hw _ (List.mem_of_getElem? (i := 46) rfl)
  have ww65 := hw _ (List.mem_of_getElem? (i := 65) rfl)
  have ww66 := hw _ (List.mem_of_getElem? (i := 66) rfl)
  have ww67 := hw _ (List.mem_of_getElem? (i := 67) rfl)
  have ww68 := hw _ (List.mem_of_getElem? (i := 68) rfl)
  have ww69 := hw _ (List.mem_of_getElem? (i := 69) rfl)
  have ww70 := hw _ (List.mem_of_getElem? (i := 70) rfl)
  refine MetFree.of_bodySF (plainFor_of_name pn_9d1) hisR ?_
  intro p e s m args below meth c s₁ Bd hml0 hP hK
  obtain ⟨rfl, hZ, hh⟩ := hP
  have hx := Bd.exec
  have hby := Bd.bytes
  have hlk : meth.locks = false := Bd.notSynchronized
  have hret := Bd.returns
  have hml : c.maxLocals = 1 := hml0
  have hown : s.vm.findClass "com/example/rewoven_tree/rewoventree/storage/TableShape" = some m.cls := findClass_of_methodNamed Bd.named
  have hnm := (name_of_methodNamed Bd.named Bd.method).1
  have X0 : Stand p l e ({ frames := 0, cells := 0, slots := 0, locals := 0 } : Room) s m #[(.ref a1)] below meth c s₁ [] 0 0 := Stand.of_body Bd
  have e0 : s₁.heap = h0 := by rw [← hh, Bd.state]; rfl
  have N0 := Fr.nil n0
  have K0 := Keep.refl h0 [a1, bo, bt]
  show OwnEnd p e below s (Q9d1 Z a1 bo bt rc o0 o1 t0 t1 er es ea h0 n0) ({ frames := 0, cells := 0, slots := 0, locals := 0 } : Room).cells ({ frames := 0, cells := 0, slots := 0, locals := 0 } : Room).slots _
  refine OwnEnd.go (fun _ k => castTop (ef_9d1 m a1) k) ?_
  obtain ⟨ga, go, gt, n1, n2, n3, E1, F_open, F_attr, F_rc, F_dp, ⟨di, F_di⟩, F_er, F_es, F_ea, ⟨ko, V_o⟩, ⟨kt, V_t⟩⟩ := B0
  show OwnEnd p e below s _ _ _ (s₁.setTop (mkF m 0 #[.val (.ref a1)] []))
  refine OwnEnd.go (fun _ k => XS.aloadN X0.here hx rfl (hb hby d9d1_0) rfl rfl k) ?_
  show OwnEnd p e below s _ _ _ (s₁.setTop (mkF m 1 #[.val (.ref a1)] [(.ref a1)]))
  refine OwnEnd.go (fun _ k => XS.dup X0.here hx rfl (hb hby d9d1_1) rfl rfl k) ?_
  show OwnEnd p e below s _ _ _ (s₁.setTop (mkF m 2 #[.val (.ref a1)] [(.ref a1), (.ref a1)]))
  obtain ⟨T101, X101, e101, st101⟩ := getF X0 hx hZ hown (host := "") (Or.inl ww43) Via.refl e0 F_dp (g := (mkF m 2 #[.val (.ref a1)] [(.ref a1), (.ref a1)])) rfl rfl (hb hby d9d1_2)
  refine OwnEnd.go (fun _ k => st101 _ k) ?_
  show OwnEnd p e below s _ _ _ (T101.setTop (mkF m 5 #[.val (.ref a1)] [(.int (1 : Int32)), (.ref a1)]))
  refine OwnEnd.go (fun _ k => XS.iconst X101.here hx rfl (hb hby d9d1_5) k) ?_
  show OwnEnd p e below s _ _ _ (T101.setTop (mkF m 6 #[.val (.ref a1)] [(.int (1 : Int32)), (.int (1 : Int32)), (.ref a1)]))
  refine OwnEnd.go (fun _ k => XS.isub X101.here hx rfl (hb hby d9d1_6) rfl k) ?_
  show OwnEnd p e below s _ _ _ (T101.setTop (mkF m 7 #[.val (.ref a1)] [(.int (0 : Int32)), (.ref a1)]))
  obtain ⟨T102, h102, X102, e102, W102, st102⟩ := putF X101 hx hZ hown (host := "") (Or.inl ww43) Via.refl e101 F_dp E1 (Or.inl ww44) ww13 (ty := .int) (by decide) rfl rfl (g := (mkF m 7 #[.val (.ref a1)] [(.int (0 : Int32)), (.ref a1)])) rfl rfl (hb hby d9d1_7)
  have F104 := E1.wr W102
  have F105 := F_open.other W102 (Or.inr (slot_ne (Or.inl ww23) (Or.inl ww44) (by decide) (t := (.array .int)) (t' := .int) (by decide) (by decide)))
  have F106 := F_attr.other W102 (Or.inr (slot_ne (Or.inl ww25) (Or.inl ww44) (by decide) (t := (.array .int)) (t' := .int) (by decide) (by decide)))
  have F107 := F_rc.other W102 (Or.inr (slot_ne (Or.inl ww32) (Or.inl ww44) (by decide) (t := .int) (t' := .int) (by decide) (by decide)))
  have F108 := F_dp.same W102
  have F109 := F_di.other W102 (Or.inr (slot_ne (Or.inl ww46) (Or.inl ww44) (by decide) (t := .int) (t' := .int) (by decide) (by decide)))
  have F110 := F_er.other W102 (Or.inr (slot_ne (Or.inl ww66) (Or.inl ww44) (by decide) (t := .int) (t' := .int) (by decide) (by decide)))
  have F111 := F_es.other W102 (Or.inr (slot_ne (Or.inl ww68) (Or.inl ww44) (by decide) (t := .int) (t' := .int) (by decide) (by decide)))
  have F112 := F_ea.other W102 (Or.inr (slot_ne (Or.inl ww70) (Or.inl ww44) (by decide) (t := .int) (t' := .int) (by decide) (by decide)))
  have F113 := V_o.other W102 (Ne.symm n1)
  have F114 := V_t.other W102 (Ne.symm n2)
  have N102 := Fr.snoc X102 N0 ga
  have K102 := K0.wr W102 (Or.inl (List.mem_of_getElem? (i := 0) rfl))
  have Y102 := Nat.le_trans Z0 (Nat.le_of_eq W102.size.symm)
  refine OwnEnd.go (fun _ k => st102 _ k) ?_
  show OwnEnd p e below s _ _ _ (T102.setTop (mkF m 10 #[.val (.ref a1)] []))
  refine OwnEnd.go (fun _ k => XS.aloadN X102.here hx rfl (hb hby d9d1_10) rfl rfl k) ?_
  show OwnEnd p e below s _ _ _ (T102.setTop (mkF m 11 #[.val (.ref a1)] [(.ref a1)]))
  refine OwnEnd.go (fun _ k => XS.aloadN X102.here hx rfl (hb hby d9d1_11) rfl rfl k) ?_
  show OwnEnd p e below s _ _ _ (T102.setTop (mkF m 12 #[.val (.ref a1)] [(.ref a1), (.ref a1)]))
  obtain ⟨T115, X115, e115, st115⟩ := getF X102 hx hZ hown (host := "") (Or.inl ww22) Via.refl e102 F105 (g := (mkF m 12 #[.val (.ref a1)] [(.ref a1), (.ref a1)])) rfl rfl (hb hby d9d1_12)
  refine OwnEnd.go (fun _ k => st115 _ k) ?_
  show OwnEnd p e below s _ _ _ (T115.setTop (mkF m 15 #[.val (.ref a1)] [(.ref bo), (.ref a1)]))
  refine OwnEnd.go (fun _ k => XS.aloadN X115.here hx rfl (hb hby d9d1_15) rfl rfl k) ?_
  show OwnEnd p e below s _ _ _ (T115.setTop (mkF m 16 #[.val (.ref a1)] [(.ref a1), (.ref bo), (.ref a1)]))
  obtain ⟨T116, X116, e116, st116⟩ := getF X115 hx hZ hown (host := "") (Or.inl ww43) Via.refl e115 F108 (g := (mkF m 16 #[.val (.ref a1)] [(.ref a1), (.ref bo), (.ref a1)])) rfl rfl (hb hby d9d1_16)
  refine OwnEnd.go (fun _ k => st116 _ k) ?_
  show OwnEnd p e below s _ _ _ (T116.setTop (mkF m 19 #[.val (.ref a1)] [(.int (0 : Int32)), (.ref bo), (.ref a1)]))
  obtain ⟨c117, Ar117, q117, S117, G117, H117, J117⟩ := id F113
  have i117 := inb_of (j := (0 : Int32)) S117 ⟨by decide, by decide⟩
  refine OwnEnd.go (fun _ k => X116.iaload hx (j := (0 : Int32)) (v := (.int o0)) (by rw [e116]; exact Ar117.1) (State.isArrayOf_alike hZ.alike Ar117.2.1) Ar117.2.2 i117 (Has.at H117 i117 rfl) (g := (mkF m 19 #[.val (.ref a1)] [(.int (0 : Int32)), (.ref bo), (.ref a1)])) rfl rfl (hb hby d9d1_19) _ k) ?_
  show OwnEnd p e below s _ _ _ (T116.setTop (mkF m 20 #[.val (.ref a1)] [(.int o0), (.ref a1)]))
  obtain ⟨T118, h118, X118, e118, W118, st118⟩ := putF X116 hx hZ hown (host := "") (Or.inl ww65) Via.refl e116 F110 F104 (Or.inl ww66) ww13 (ty := .int) (by decide) rfl rfl (g := (mkF m 20 #[.val (.ref a1)] [(.int o0), (.ref a1)])) rfl rfl (hb hby d9d1_20)
  have F119 := F104.wr W118
  have F120 := F105.other W118 (Or.inr (slot_ne (Or.inl ww23) (Or.inl ww66) (by decide) (t := (.array .int)) (t' := .int) (by decide) (by decide)))
  have F121 := F106.other W118 (Or.inr (slot_ne (Or.inl ww25) (Or.inl ww66) (by decide) (t := (.array .int)) (t' := .int) (by decide) (by decide)))
  have F122 := F107.other W118 (Or.inr (slot_ne (Or.inl ww32) (Or.inl ww66) (by decide) (t := .int) (t' := .int) (by decide) (by decide)))
  have F123 := F108.other W118 (Or.inr (slot_ne (Or.inl ww44) (Or.inl ww66) (by decide) (t := .int) (t' := .int) (by decide) (by decide)))
  have F124 := F109.other W118 (Or.inr (slot_ne (Or.inl ww46) (Or.inl ww66) (by decide) (t := .int) (t' := .int) (by decide) (by decide)))
  have F125 := F110.same W118
  have F126 := F111.other W118 (Or.inr (slot_ne (Or.inl ww68) (Or.inl ww66) (by decide) (t := .int) (t' := .int) (by decide) (by decide)))
  have F127 := F112.other W118 (Or.inr (slot_ne (Or.inl ww70) (Or.inl ww66) (by decide) (t := .int) (t' := .int) (by decide) (by decide)))
  have F128 := F113.other W118 (Ne.symm n1)
  have F129 := F114.other W118 (Ne.symm n2)
  have N118 := Fr.snoc X118 N102 ga
  have K118 := K102.wr W118 (Or.inl (List.mem_of_getElem? (i := 0) rfl))
  have Y118 := Nat.le_trans Y102 (Nat.le_of_eq W118.size.symm)
  refine OwnEnd.go (fun _ k => st118 _ k) ?_
  show OwnEnd p e below s _ _ _ (T118.setTop (mkF m 23 #[.val (.ref a1)] []))
  refine OwnEnd.go (fun _ k => XS.aloadN X118.here hx rfl (hb hby d9d1_23) rfl rfl k) ?_
  show OwnEnd p e below s _ _ _ (T118.setTop (mkF m 24 #[.val (.ref a1)] [(.ref a1)]))
  refine OwnEnd.go (fun _ k => XS.aloadN X118.here hx rfl (hb hby d9d1_24) rfl rfl k) ?_
  show OwnEnd p e below s _ _ _ (T118.setTop (mkF m 25 #[.val (.ref a1)] [(.ref a1), (.ref a1)]))
  obtain ⟨T130, X130, e130, st130⟩ := getF X118 hx hZ hown (host := "") (Or.inl ww31) Via.refl e118 F122 (g := (mkF m 25 #[.val (.ref a1)] [(.ref a1), (.ref a1)])) rfl rfl (hb hby d9d1_25)
  refine OwnEnd.go (fun _ k => st130 _ k) ?_
  show OwnEnd p e below s _ _ _ (T130.setTop (mkF m 28 #[.val (.ref a1)] [(.int rc), (.ref a1)]))
  refine OwnEnd.go (fun _ k => XS.aloadN X130.here hx rfl (hb hby d9d1_28) rfl rfl k) ?_
  show OwnEnd p e below s _ _ _ (T130.setTop (mkF m 29 #[.val (.ref a1)] [(.ref a1), (.int rc), (.ref a1)]))
  obtain ⟨T131, X131, e131, st131⟩ := getF X130 hx hZ hown (host := "") (Or.inl ww22) Via.refl e130 F120 (g := (mkF m 29 #[.val (.ref a1)] [(.ref a1), (.int rc), (.ref a1)])) rfl rfl (hb hby d9d1_29)
  refine OwnEnd.go (fun _ k => st131 _ k) ?_
  show OwnEnd p e below s _ _ _ (T131.setTop (mkF m 32 #[.val (.ref a1)] [(.ref bo), (.int rc), (.ref a1)]))
  refine OwnEnd.go (fun _ k => XS.aloadN X131.here hx rfl (hb hby d9d1_32) rfl rfl k) ?_
  show OwnEnd p e below s _ _ _ (T131.setTop (mkF m 33 #[.val (.ref a1)] [(.ref a1), (.ref bo), (.int rc), (.ref a1)]))
  obtain ⟨T132, X132, e132, st132⟩ := getF X131 hx hZ hown (host := "") (Or.inl ww43) Via.refl e131 F123 (g := (mkF m 33 #[.val (.ref a1)] [(.ref a1), (.ref bo), (.int rc), (.ref a1)])) rfl rfl (hb hby d9d1_33)
  refine OwnEnd.go (fun _ k => st132 _ k) ?_
  show OwnEnd p e below s _ _ _ (T132.setTop (mkF m 36 #[.val (.ref a1)] [(.int (0 : Int32)), (.ref bo), (.int rc), (.ref a1)]))
  obtain ⟨c133, Ar133, q133, S133, G133, H133, J133⟩ := id F128
  have i133 := inb_of (j := (0 : Int32)) S133 ⟨by decide, by decide⟩
  refine OwnEnd.go (fun _ k => X132.iaload hx (j := (0 : Int32)) (v := (.int o0)) (by rw [e132]; exact Ar133.1) (State.isArrayOf_alike hZ.alike Ar133.2.1) Ar133.2.2 i133 (Has.at H133 i133 rfl) (g := (mkF m 36 #[.val (.ref a1)] [(.int (0 : Int32)), (.ref bo), (.int rc), (.ref a1)])) rfl rfl (hb hby d9d1_36) _ k) ?_
  show OwnEnd p e below s _ _ _ (T132.setTop (mkF m 37 #[.val (.ref a1)] [(.int o0), (.int rc), (.ref a1)]))
  refine OwnEnd.go (fun _ k => XS.isub X132.here hx rfl (hb hby d9d1_37) rfl k) ?_
  show OwnEnd p e below s _ _ _ (T132.setTop (mkF m 38 #[.val (.ref a1)] [(.int (rc - o0)), (.ref a1)]))
  obtain ⟨T134, h134, X134, e134, W134, st134⟩ := putF X132 hx hZ hown (host := "") (Or.inl ww67) Via.refl e132 F126 F119 (Or.inl ww68) ww13 (ty := .int) (by decide) rfl rfl (g := (mkF m 38 #[.val (.ref a1)] [(.int (rc - o0)), (.ref a1)])) rfl rfl (hb hby d9d1_38)
  have F135 := F119.wr W134
  have F136 := F120.other W134 (Or.inr (slot_ne (Or.inl ww23) (Or.inl ww68) (by decide) (t := (.array .int)) (t' := .int) (by decide) (by decide)))
  have F137 := F121.other W134 (Or.inr (slot_ne (Or.inl ww25) (Or.inl ww68) (by decide) (t := (.array .int)) (t' := .int) (by decide) (by decide)))
  have F138 := F122.other W134 (Or.inr (slot_ne (Or.inl ww32) (Or.inl ww68) (by decide) (t := .int) (t' := .int) (by decide) (by decide)))
  have F139 := F123.other W134 (Or.inr (slot_ne (Or.inl ww44) (Or.inl ww68) (by decide) (t := .int) (t' := .int) (by decide) (by decide)))
  have F140 := F124.other W134 (Or.inr (slot_ne (Or.inl ww46) (Or.inl ww68) (by decide) (t := .int) (t' := .int) (by decide) (by decide)))
  have F141 := F125.other W134 (Or.inr (slot_ne (Or.inl ww66) (Or.inl ww68) (by decide) (t := .int) (t' := .int) (by decide) (by decide)))
  have F142 := F126.same W134
  have F143 := F127.other W134 (Or.inr (slot_ne (Or.inl ww70) (Or.inl ww68) (by decide) (t := .int) (t' := .int) (by decide) (by decide)))
  have F144 := F128.other W134 (Ne.symm n1)
  have F145 := F129.other W134 (Ne.symm n2)
  have N134 := Fr.snoc X134 N118 ga
  have K134 := K118.wr W134 (Or.inl (List.mem_of_getElem? (i := 0) rfl))
  have Y134 := Nat.le_trans Y118 (Nat.le_of_eq W134.size.symm)
  refine OwnEnd.go (fun _ k => st134 _ k) ?_
  show OwnEnd p e below s _ _ _ (T134.setTop (mkF m 41 #[.val (.ref a1)] []))
  refine OwnEnd.go (fun _ k => XS.aloadN X134.here hx rfl (hb hby d9d1_41) rfl rfl k) ?_
  show OwnEnd p e below s _ _ _ (T134.setTop (mkF m 42 #[.val (.ref a1)] [(.ref a1)]))
  refine OwnEnd.go (fun _ k => XS.aloadN X134.here hx rfl (hb hby d9d1_42) rfl rfl k) ?_
  show OwnEnd p e below s _ _ _ (T134.setTop (mkF m 43 #[.val (.ref a1)] [(.ref a1), (.ref a1)]))
  obtain ⟨T146, X146, e146, st146⟩ := getF X134 hx hZ hown (host := "") (Or.inl ww24) Via.refl e134 F137 (g := (mkF m 43 #[.val (.ref a1)] [(.ref a1), (.ref a1)])) rfl rfl (hb hby d9d1_43)
  refine OwnEnd.go (fun _ k => st146 _ k) ?_
  show OwnEnd p e below s _ _ _ (T146.setTop (mkF m 46 #[.val (.ref a1)] [(.ref bt), (.ref a1)]))
  refine OwnEnd.go (fun _ k => XS.aloadN X146.here hx rfl (hb hby d9d1_46) rfl rfl k) ?_
  show OwnEnd p e below s _ _ _ (T146.setTop (mkF m 47 #[.val (.ref a1)] [(.ref a1), (.ref bt), (.ref a1)]))
  obtain ⟨T147, X147, e147, st147⟩ := getF X146 hx hZ hown (host := "") (Or.inl ww43) Via.refl e146 F139 (g := (mkF m 47 #[.val (.ref a1)] [(.ref a1), (.ref bt), (.ref a1)])) rfl rfl (hb hby d9d1_47)
  refine OwnEnd.go (fun _ k => st147 _ k) ?_
  show OwnEnd p e below s _ _ _ (T147.setTop (mkF m 50 #[.val (.ref a1)] [(.int (0 : Int32)), (.ref bt), (.ref a1)]))
  obtain ⟨c148, Ar148, q148, S148, G148, H148, J148⟩ := id F145
  have i148 := inb_of (j := (0 : Int32)) S148 ⟨by decide, by decide⟩
  refine OwnEnd.go (fun _ k => X147.iaload hx (j := (0 : Int32)) (v := (.int t0)) (by rw [e147]; exact Ar148.1) (State.isArrayOf_alike hZ.alike Ar148.2.1) Ar148.2.2 i148 (Has.at H148 i148 rfl) (g := (mkF m 50 #[.val (.ref a1)] [(.int (0 : Int32)), (.ref bt), (.ref a1)])) rfl rfl (hb hby d9d1_50) _ k) ?_
  show OwnEnd p e below s _ _ _ (T147.setTop (mkF m 51 #[.val (.ref a1)] [(.int t0), (.ref a1)]))
  obtain ⟨T149, h149, X149, e149, W149, st149⟩ := putF X147 hx hZ hown (host := "") (Or.inl ww69) Via.refl e147 F143 F135 (Or.inl ww70) ww13 (ty := .int) (by decide) rfl rfl (g := (mkF m 51 #[.val (.ref a1)] [(.int t0), (.ref a1)])) rfl rfl (hb hby d9d1_51)
  have F150 := F135.wr W149
  have F151 := F136.other W149 (Or.inr (slot_ne (Or.inl ww23) (Or.inl ww70) (by decide) (t := (.array .int)) (t' := .int) (by decide) (by decide)))
  have F152 := F137.other W149 (Or.inr (slot_ne (Or.inl ww25) (Or.inl ww70) (by decide) (t := (.array .int)) (t' := .int) (by decide) (by decide)))
  have F153 := F138.other W149 (Or.inr (slot_ne (Or.inl ww32) (Or.inl ww70) (by decide) (t := .int) (t' := .int) (by decide) (by decide)))
  have F154 := F139.other W149 (Or.inr (slot_ne (Or.inl ww44) (Or.inl ww70) (by decide) (t := .int) (t' := .int) (by decide) (by decide)))
  have F155 := F140.other W149 (Or.inr (slot_ne (Or.inl ww46) (Or.inl ww70) (by decide) (t := .int) (t' := .int) (by decide) (by decide)))
  have F156 := F141.other W149 (Or.inr (slot_ne (Or.inl ww66) (Or.inl ww70) (by decide) (t := .int) (t' := .int) (by decide) (by decide)))
  have F157 := F142.other W149 (Or.inr (slot_ne (Or.inl ww68) (Or.inl ww70) (by decide) (t := .int) (t' := .int) (by decide) (by decide)))
  have F158 := F143.same W149
  have F159 := F144.other W149 (Ne.symm n1)
  have F160 := F145.other W149 (Ne.symm n2)
  have N149 := Fr.snoc X149 N134 ga
  have K149 := K134.wr W149 (Or.inl (List.mem_of_getElem? (i := 0) rfl))
  have Y149 := Nat.le_trans Y134 (Nat.le_of_eq W149.size.symm)
  refine OwnEnd.go (fun _ k => st149 _ k) ?_
  show OwnEnd p e below s _ _ _ (T149.setTop (mkF m 54 #[.val (.ref a1)] []))
  refine ownRetV X149 hx hlk hret (hb hby d9d1_54) (by decide) (by decide) ?_
  show Q9d1 Z a1 bo bt rc o0 o1 t0 t1 er es ea h0 n0 _ T149.heap _
  rw [e149]
  exact ⟨rfl, N149, K149, ⟨ga, go, gt, n1, n2, n3, F150, F151, F152, F153, F154, ⟨_, F155⟩, F156, F157, F158, ⟨_, F159⟩, ⟨_, F160⟩⟩⟩
theorem d8d0_0 : decode prog_249_method_13_code 0 = .ok (.aload_n 0, 1) := by decide +kernel
theorem d8d0_1 : decode prog_249_method_13_code 1 = .ok (.getfield 26, 3) := by decide +kernel
theorem d8d0_4 : decode prog_249_method_13_code 4 = .ok (.ifCond .le 39, 3) := by decide +kernel
theorem d8d0_43 : decode prog_249_method_13_code 43 = .ok (.iconst 0, 1) := by decide +kernel
theorem d8d0_44 : decode prog_249_method_13_code 44 = .ok (.ireturn, 1) := by decide +kernel
theorem pn_8d0 : plainName "com/example/rewoven_tree/rewoventree/storage/TableShape" = true := by first | (simp [plainName, overriddenIn]; done) | decide +kernel
theorem ef_8d0 (m : MethodId) (x0 : Addr) : entryFrame m #[(.ref x0)] 1 = mkF m 0 #[.val (.ref x0)] [] := by first | (simp [entryFrame, mkF, argsToLocals, Value.category]; done) | rfl
def Q8d0 (Z : State) (a1 : Addr) (bo : Addr) (bt : Addr) (rc : Int32) (o0 : Int32) (o1 : Int32) (t0 : Int32) (t1 : Int32) (er : Int32) (es : Int32) (ea : Int32) (h0 : Heap) (n0 : Nat) (v : Option Value) (h : Heap) (L : List Loc) : Prop := v = some (.int (0 : Int32)) ∧ Fr n0 L ∧ h = h0
set_option maxRecDepth 65536 in
set_option maxHeartbeats 40000000 in
theorem rm8d0 (l : Launch) (Z : State) (a0 : Array Value) (hw : ∀ d ∈ tables_1, d.before a0 Z = true) (ws : List Jvm.Cond) (a1 : Addr) (bo : Addr) (bt : Addr) (rc : Int32) (o0 : Int32) (o1 : Int32) (t0 : Int32) (t1 : Int32) (er : Int32) (es : Int32) (ea : Int32) (h0 : Heap) (n0 : Nat) (Z0 : n0 ≤ h0.size) (B0 : ownTS Z h0 n0 a1 bo bt rc (0 : Int32) o0 o1 t0 t1 er es ea) :
    MetFree l (⟨"com/example/rewoven_tree/rewoventree/storage/TableShape", "isAtAttributes", "()Z"⟩ : MethodName) (head1 (Jvm.Cond.code (⟨"com/example/rewoven_tree/rewoventree/storage/TableShape", "isAtAttributes", "()Z"⟩ : MethodName) prog_249_method_13_code 1 (some .boolean) :: ws) ({ frames := 0, cells := 0, slots := 0, locals := 0 } : Room)) (fun a U => a = #[(.ref a1)] ∧ Z.Warmed39 U.vm ∧ U.heap = h0) (fun _ _ _ _ _ => True) (fun _ U o U' => ∃ v L, o = .returned v ∧ Q8d0 Z a1 bo bt rc o0 o1 t0 t1 er es ea h0 n0 v U'.heap L ∧ FrameEnd U o U' L ({ frames := 0, cells := 0, slots := 0, locals := 0 } : Room).cells ({ frames := 0, cells := 0, slots := 0, locals := 0 } : Room).slots) := by
  have ww43 := hw _ (List.mem_of_getElem? (i := 43) rfl)
  refine MetFree.of_bodySF (plainFor_of_name pn_8d0) hisR ?_
  intro p e s m args below meth c s₁ Bd hml0 hP hK
  obtain ⟨rfl, hZ, hh⟩ := hP
  have hx := Bd.exec
  have hby := Bd.bytes
  have hlk : meth.locks = false := Bd.notSynchronized
  have hret := Bd.returns
  have hml : c.maxLocals = 1 := hml0
  have hown : s.vm.findClass "com/example/rewoven_tree/rewoventree/storage/TableShape" = some m.cls := findClass_of_methodNamed Bd.named
  have hnm := (name_of_methodNamed Bd.named Bd.method).1
  have X0 : Stand p l e ({ frames := 0, cells := 0, slots := 0, locals := 0 } : Room) s m #[(.ref a1)] below meth c s₁ [] 0 0 := Stand.of_body Bd
  have e0 : s₁.heap = h0 := by rw [← hh, Bd.state]; rfl
  have N0 := Fr.nil n0
  have K0 := Keep.refl h0 []
  show OwnEnd p e below s (Q8d0 Z a1 bo bt rc o0 o1 t0 t1 er es ea h0 n0) ({ frames := 0, cells := 0, slots := 0, locals := 0 } : Room).cells ({ frames := 0, cells := 0, slots := 0, locals := 0 } : Room).slots _
  refine OwnEnd.go (fun _ k => castTop (ef_8d0 m a1) k) ?_
  obtain ⟨ga, go, gt, n1, n2, n3, E1, F_open, F_attr, F_rc, F_dp, ⟨di, F_di⟩, F_er, F_es, F_ea, ⟨ko, V_o⟩, ⟨kt, V_t⟩⟩ := B0
  show OwnEnd p e below s _ _ _ (s₁.setTop (mkF m 0 #[.val (.ref a1)] []))
  refine OwnEnd.go (fun _ k => XS.aloadN X0.here hx rfl (hb hby d8d0_0) rfl rfl k) ?_
  show OwnEnd p e below s _ _ _ (s₁.setTop (mkF m 1 #[.val (.ref a1)] [(.ref a1)]))
  obtain ⟨T101, X101, e101, st101⟩ := getF X0 hx hZ hown (host := "") (Or.inl ww43) Via.refl e0 F_dp (g := (mkF m 1 #[.val (.ref a1)] [(.ref a1)])) rfl rfl (hb hby d8d0_1)
  refine OwnEnd.go (fun _ k => st101 _ k) ?_
  show OwnEnd p e below s _ _ _ (T101.setTop (mkF m 4 #[.val (.ref a1)] [(.int (0 : Int32))]))
  refine OwnEnd.go (fun _ k => XS.ifYes X101.here hx rfl (pc0 := 4) (pc' := 43) rfl (hb hby d8d0_4) rfl ((if0 _ _).trans (flt (by decide : ¬ (0 : Int32) < (0 : Int32))).2.2.2) (by decide) (by decide) k) ?_
  show OwnEnd p e below s _ _ _ (T101.setTop (mkF m 43 #[.val (.ref a1)] []))
  refine OwnEnd.go (fun _ k => XS.iconst X101.here hx rfl (hb hby d8d0_43) k) ?_
  show OwnEnd p e below s _ _ _ (T101.setTop (mkF m 44 #[.val (.ref a1)] [(.int (0 : Int32))]))
  refine ownRetZ X101 hx hlk hret (hb hby d8d0_44) (by decide) (by decide) (0 : Int32) (by decide) ?_
  show Q8d0 Z a1 bo bt rc o0 o1 t0 t1 er es ea h0 n0 _ T101.heap _
  rw [e101]
  exact ⟨rfl, N0, rfl⟩
theorem d5d0attr_0 : decode prog_249_method_2_code 0 = .ok (.aload_n 0, 1) := by decide +kernel
theorem d5d0attr_1 : decode prog_249_method_2_code 1 = .ok (.iconst 1, 1) := by decide +kernel
theorem d5d0attr_2 : decode prog_249_method_2_code 2 = .ok (.invokevirtual 16, 3) := by decide +kernel
theorem d5d0attr_5 : decode prog_249_method_2_code 5 = .ok (.istore_n 2, 1) := by decide +kernel
theorem d5d0attr_6 : decode prog_249_method_2_code 6 = .ok (.aload_n 1, 1) := by decide +kernel
theorem d5d0attr_7 : decode prog_249_method_2_code 7 = .ok (.getstatic 20, 3) := by decide +kernel
theorem d5d0attr_10 : decode prog_249_method_2_code 10 = .ok (.if_acmp .ne 25, 3) := by decide +kernel
theorem d5d0attr_13 : decode prog_249_method_2_code 13 = .ok (.aload_n 0, 1) := by decide +kernel
theorem d5d0attr_14 : decode prog_249_method_2_code 14 = .ok (.getfield 26, 3) := by decide +kernel
theorem d5d0attr_17 : decode prog_249_method_2_code 17 = .ok (.ifCond .le 18, 3) := by decide +kernel
theorem d5d0attr_35 : decode prog_249_method_2_code 35 = .ok (.aload_n 1, 1) := by decide +kernel
theorem d5d0attr_36 : decode prog_249_method_2_code 36 = .ok (.getstatic 30, 3) := by decide +kernel
theorem d5d0attr_39 : decode prog_249_method_2_code 39 = .ok (.if_acmp .eq 10, 3) := by decide +kernel
theorem d5d0attr_42 : decode prog_249_method_2_code 42 = .ok (.aload_n 1, 1) := by decide +kernel
theorem d5d0attr_43 : decode prog_249_method_2_code 43 = .ok (.getstatic 33, 3) := by decide +kernel
theorem d5d0attr_46 : decode prog_249_method_2_code 46 = .ok (.if_acmp .ne 79, 3) := by decide +kernel
theorem d5d0attr_125 : decode prog_249_method_2_code 125 = .ok (.iload_n 2, 1) := by decide +kernel
theorem d5d0attr_126 : decode prog_249_method_2_code 126 = .ok (.ireturn, 1) := by decide +kernel
theorem pn_5d0attr : plainName "com/example/rewoven_tree/rewoventree/storage/TableShape" = true := by first | (simp [plainName, overriddenIn]; done) | decide +kernel
theorem pd5d0attr_0 : parseMethodDescriptor "(I)I" = some ⟨[.int], some .int⟩ := by decide +kernel
theorem ef_5d0attr (m : MethodId) (x0 : Addr) (x1 : Addr) : entryFrame m #[(.ref x0), (.ref x1)] 3 = mkF m 0 #[.val (.ref x0), .val (.ref x1), .unset] [] := by first | (simp [entryFrame, mkF, argsToLocals, Value.category]; done) | rfl
def Q5d0attr (Z : State) (a1 : Addr) (a2 : Addr) (bo : Addr) (bt : Addr) (rc : Int32) (o0 : Int32) (o1 : Int32) (t0 : Int32) (t1 : Int32) (er : Int32) (es : Int32) (ea : Int32) (xA : Addr) (xE : Addr) (xD : Addr) (h0 : Heap) (n0 : Nat) (v : Option Value) (h : Heap) (L : List Loc) : Prop := v = some (.int rc) ∧ Fr n0 L ∧ Keep h0 h [a1, bo, bt] ∧ ownTS Z h n0 a1 bo bt (rc + (1 : Int32)) (0 : Int32) o0 o1 t0 t1 er es ea
set_option maxRecDepth 65536 in
set_option maxHeartbeats 40000000 in
theorem rm5d0attr (l : Launch) (Z : State) (a0 : Array Value) (hw : ∀ d ∈ tables_1, d.before a0 Z = true) (ws : List Jvm.Cond) (a1 : Addr) (a2 : Addr) (bo : Addr) (bt : Addr) (rc : Int32) (o0 : Int32) (o1 : Int32) (t0 : Int32) (t1 : Int32) (er : Int32) (es : Int32) (ea : Int32) (xA : Addr) (xE : Addr) (xD : Addr) (h0 : Heap) (n0 : Nat) (Z0 : n0 ≤ h0.size) (O0 : Old Z n0 h0) (SA : Sta Z Z.heap "com/example/rewoven_tree/rewoventree/storage/NodeKind" "ATTRIBUTE" "Lcom/example/rewoven_tree/rewoventree/storage/NodeKind;" (.ref xA)) (SE : Sta Z Z.heap "com/example/rewoven_tree/rewoventree/storage/NodeKind" "ELEMENT" "Lcom/example/rewoven_tree/rewoventree/storage/NodeKind;" (.ref xE)) (SD : Sta Z Z.heap "com/example/rewoven_tree/rewoventree/storage/NodeKind" "DOCUMENT" "Lcom/example/rewoven_tree/rewoventree/storage/NodeKind;" (.ref xD)) (hk : a2 = xA) (nE : a2 ≠ xE) (nD : a2 ≠ xD) (B0 : ownTS Z h0 n0 a1 bo bt rc (0 : Int32) o0 o1 t0 t1 er es ea) :
    MetFree l (⟨"com/example/rewoven_tree/rewoventree/storage/TableShape", "place", "(Lcom/example/rewoven_tree/rewoventree/storage/NodeKind;)I"⟩ : MethodName) (head1 (Jvm.Cond.code (⟨"com/example/rewoven_tree/rewoventree/storage/TableShape", "place", "(Lcom/example/rewoven_tree/rewoventree/storage/NodeKind;)I"⟩ : MethodName) prog_249_method_2_code 3 (some .int) :: ws) ({ frames := 1, cells := 0, slots := 0, locals := 14 } : Room)) (fun a U => a = #[(.ref a1), (.ref a2)] ∧ Z.Warmed39 U.vm ∧ U.heap = h0) (fun _ _ _ _ _ => True) (fun _ U o U' => ∃ v L, o = .returned v ∧ Q5d0attr Z a1 a2 bo bt rc o0 o1 t0 t1 er es ea xA xE xD h0 n0 v U'.heap L ∧ FrameEnd U o U' L ({ frames := 1, cells := 0, slots := 0, locals := 14 } : Room).cells ({ frames := 1, cells := 0, slots := 0, locals := 14 } : Room).slots) := by
  have ww14 := hw _ (List.mem_of_getElem? (i := 14) rfl)
  have ww38 := hw _ (List.mem_of_getElem? (i := 38) rfl)
  have ww39 := hw _ (List.mem_of_getElem? (i := 39) rfl)
  have ww40 := hw _ (List.mem_of_getElem? (i := 40) rfl)
  have ww41 := hw _ (List.mem_of_getElem? (i := 41) rfl)
  have ww42 := hw _ (List.mem_of_getElem? (i := 42) rfl)
  have ww43 := hw _ (List.mem_of_getElem? (i := 43) rfl)
  have ww47 := hw _ (List.mem_of_getElem? (i := 47) rfl)
  have ww48 := hw _ (List.mem_of_getElem? (i := 48) rfl)
  have ww49 := hw _ (List.mem_of_getElem? (i := 49) rfl)
  refine MetFree.of_bodySF (plainFor_of_name pn_5d0attr) hisR ?_
  intro p e s m args below meth c s₁ Bd hml0 hP hK
  obtain ⟨rfl, hZ, hh⟩ := hP
  have hx := Bd.exec
  have hby := Bd.bytes
  have hlk : meth.locks = false := Bd.notSynchronized
  have hret := Bd.returns
  have hml : c.maxLocals = 3 := hml0
  have hown : s.vm.findClass "com/example/rewoven_tree/rewoventree/storage/TableShape" = some m.cls := findClass_of_methodNamed Bd.named
  have hnm := (name_of_methodNamed Bd.named Bd.method).1
  have X0 : Stand p l e ({ frames := 1, cells := 0, slots := 0, locals := 14 } : Room) s m #[(.ref a1), (.ref a2)] below meth c s₁ [] 0 0 := Stand.of_body Bd
  have e0 : s₁.heap = h0 := by rw [← hh, Bd.state]; rfl
  have N0 := Fr.nil n0
  have K0 := Keep.refl h0 [a1, bo, bt]
  show OwnEnd p e below s (Q5d0attr Z a1 a2 bo bt rc o0 o1 t0 t1 er es ea xA xE xD h0 n0) ({ frames := 1, cells := 0, slots := 0, locals := 14 } : Room).cells ({ frames := 1, cells := 0, slots := 0, locals := 14 } : Room).slots _
  refine OwnEnd.go (fun _ k => castTop (ef_5d0attr m a1 a2) k) ?_
  have E1 := B0.2.2.2.2.2.2.1
  have ga := B0.1
  have go := B0.2.1
  have gt := B0.2.2.1
  show OwnEnd p e below s _ _ _ (s₁.setTop (mkF m 0 #[.val (.ref a1), .val (.ref a2), .unset] []))
  refine OwnEnd.go (fun _ k => XS.aloadN X0.here hx rfl (hb hby d5d0attr_0) rfl rfl k) ?_
  show OwnEnd p e below s _ _ _ (s₁.setTop (mkF m 1 #[.val (.ref a1), .val (.ref a2), .unset] [(.ref a1)]))
  refine OwnEnd.go (fun _ k => XS.iconst X0.here hx rfl (hb hby d5d0attr_1) k) ?_
  show OwnEnd p e below s _ _ _ (s₁.setTop (mkF m 2 #[.val (.ref a1), .val (.ref a2), .unset] [(.int (1 : Int32)), (.ref a1)]))
  obtain ⟨_, T101, L101, X101, hQ101, st101⟩ := ownCallV X0 hx hZ hown ww38 ww39 ww41 ww40 ww14 ww42 (by decide) (rm6d0 l Z a0 hw [] a1 (1 : Int32) bo bt rc o0 o1 t0 t1 er es ea h0 n0 Z0  B0) e0 E1 0 (by decide) (by decide) (by decide) (by decide) (g := (mkF m 2 #[.val (.ref a1), .val (.ref a2), .unset] [(.int (1 : Int32)), (.ref a1)])) rfl (by rw [hml]; rfl) (argsL := [(.int (1 : Int32))]) (rest := []) (lenOf pd5d0attr_0 rfl) rfl rfl (by show 2 * 0 + _ ≤ _; exact Nat.le_of_eq rfl) (hb hby d5d0attr_2)
  obtain ⟨rfl, N101q, K101q, P102⟩ := hQ101
  have N101 := Fr.app N0 N101q
  have F104 := E1.keep K101q
  have K101 := K0.trans K101q (allS (Or.inl (List.mem_of_getElem? (i := 0) rfl)) (allS (Or.inl (List.mem_of_getElem? (i := 1) rfl)) (allS (Or.inl (List.mem_of_getElem? (i := 2) rfl)) all0)))
  have Y101 := Nat.le_trans Z0 K101q.1
  have O101 := O0.keep K101q (allS ga (allS go (allS gt all0)))
  refine OwnEnd.go (fun _ k => st101 _ k) ?_
  obtain ⟨-, -, -, n1, n2, n3, E2, F_open, F_attr, F_rc, F_dp, ⟨di, F_di⟩, F_er, F_es, F_ea, ⟨ko, V_o⟩, ⟨kt, V_t⟩⟩ := P102
  show OwnEnd p e below s _ _ _ (T101.setTop (mkF m 5 #[.val (.ref a1), .val (.ref a2), .unset] [(.int rc)]))
  refine OwnEnd.go (fun _ k => XS.istoreN X101.here hx rfl (hb hby d5d0attr_5) rfl  (l' := #[.val (.ref a1), .val (.ref a2), .val (.int rc)]) rfl k) ?_
  show OwnEnd p e below s _ _ _ (T101.setTop (mkF m 6 #[.val (.ref a1), .val (.ref a2), .val (.int rc)] []))
  refine OwnEnd.go (fun _ k => XS.aloadN X101.here hx rfl (hb hby d5d0attr_6) rfl rfl k) ?_
  show OwnEnd p e below s _ _ _ (T101.setTop (mkF m 7 #[.val (.ref a1), .val (.ref a2), .val (.int rc)] [(.ref a2)]))
  obtain ⟨T105, X105, e105, st105⟩ := getS2 X101 hx hZ hown (host := "") (Or.inl ww47) Via.refl (rfl : T101.heap = T101.heap) (SA.ext O101.2) (g := (mkF m 7 #[.val (.ref a1), .val (.ref a2), .val (.int rc)] [(.ref a2)])) rfl (hb hby d5d0attr_7)
  refine OwnEnd.go (fun _ k => st105 _ k) ?_
  show OwnEnd p e below s _ _ _ (T105.setTop (mkF m 10 #[.val (.ref a1), .val (.ref a2), .val (.int rc)] [(.ref xA), (.ref a2)]))
  refine OwnEnd.go (fun _ k => Jvm.RoadKit.acmp (g := (mkF m 10 #[.val (.ref a1), .val (.ref a2), .val (.int rc)] [(.ref xA), (.ref a2)])) X105 hx rfl rfl rfl (pc0 := 10) (pc' := 13) (same := true) rfl (hb hby d5d0attr_10) rfl (decide_eq_true (congrArg Value.ref hk)) (by decide) (by decide) k) ?_
  show OwnEnd p e below s _ _ _ (T105.setTop (mkF m 13 #[.val (.ref a1), .val (.ref a2), .val (.int rc)] []))
  refine OwnEnd.go (fun _ k => XS.aloadN X105.here hx rfl (hb hby d5d0attr_13) rfl rfl k) ?_
  show OwnEnd p e below s _ _ _ (T105.setTop (mkF m 14 #[.val (.ref a1), .val (.ref a2), .val (.int rc)] [(.ref a1)]))
  obtain ⟨T106, X106, e106, st106⟩ := getF X105 hx hZ hown (host := "") (Or.inl ww43) Via.refl e105 F_dp (g := (mkF m 14 #[.val (.ref a1), .val (.ref a2), .val (.int rc)] [(.ref a1)])) rfl rfl (hb hby d5d0attr_14)
  refine OwnEnd.go (fun _ k => st106 _ k) ?_
  show OwnEnd p e below s _ _ _ (T106.setTop (mkF m 17 #[.val (.ref a1), .val (.ref a2), .val (.int rc)] [(.int (0 : Int32))]))
  refine OwnEnd.go (fun _ k => XS.ifYes X106.here hx rfl (pc0 := 17) (pc' := 35) rfl (hb hby d5d0attr_17) rfl ((if0 _ _).trans (flt (by decide : ¬ (0 : Int32) < (0 : Int32))).2.2.2) (by decide) (by decide) k) ?_
  show OwnEnd p e below s _ _ _ (T106.setTop (mkF m 35 #[.val (.ref a1), .val (.ref a2), .val (.int rc)] []))
  refine OwnEnd.go (fun _ k => XS.aloadN X106.here hx rfl (hb hby d5d0attr_35) rfl rfl k) ?_
  show OwnEnd p e below s _ _ _ (T106.setTop (mkF m 36 #[.val (.ref a1), .val (.ref a2), .val (.int rc)] [(.ref a2)]))
  obtain ⟨T107, X107, e107, st107⟩ := getS2 X106 hx hZ hown (host := "") (Or.inl ww48) Via.refl e106 (SE.ext O101.2) (g := (mkF m 36 #[.val (.ref a1), .val (.ref a2), .val (.int rc)] [(.ref a2)])) rfl (hb hby d5d0attr_36)
  refine OwnEnd.go (fun _ k => st107 _ k) ?_
  show OwnEnd p e below s _ _ _ (T107.setTop (mkF m 39 #[.val (.ref a1), .val (.ref a2), .val (.int rc)] [(.ref xE), (.ref a2)]))
  refine OwnEnd.go (fun _ k => Jvm.RoadKit.acmp (g := (mkF m 39 #[.val (.ref a1), .val (.ref a2), .val (.int rc)] [(.ref xE), (.ref a2)])) X107 hx rfl rfl rfl (pc0 := 39) (pc' := 42) (same := false) rfl (hb hby d5d0attr_39) rfl (decide_eq_false fun q => nE (Value.ref.inj q)) (by decide) (by decide) k) ?_
  show OwnEnd p e below s _ _ _ (T107.setTop (mkF m 42 #[.val (.ref a1), .val (.ref a2), .val (.int rc)] []))
  refine OwnEnd.go (fun _ k => XS.aloadN X107.here hx rfl (hb hby d5d0attr_42) rfl rfl k) ?_
  show OwnEnd p e below s _ _ _ (T107.setTop (mkF m 43 #[.val (.ref a1), .val (.ref a2), .val (.int rc)] [(.ref a2)]))
  obtain ⟨T108, X108, e108, st108⟩ := getS2 X107 hx hZ hown (host := "") (Or.inl ww49) Via.refl e107 (SD.ext O101.2) (g := (mkF m 43 #[.val (.ref a1), .val (.ref a2), .val (.int rc)] [(.ref a2)])) rfl (hb hby d5d0attr_43)
  refine OwnEnd.go (fun _ k => st108 _ k) ?_
  show OwnEnd p e below s _ _ _ (T108.setTop (mkF m 46 #[.val (.ref a1), .val (.ref a2), .val (.int rc)] [(.ref xD), (.ref a2)]))
  refine OwnEnd.go (fun _ k => Jvm.RoadKit.acmp (g := (mkF m 46 #[.val (.ref a1), .val (.ref a2), .val (.int rc)] [(.ref xD), (.ref a2)])) X108 hx rfl rfl rfl (pc0 := 46) (pc' := 125) (same := false) rfl (hb hby d5d0attr_46) rfl (decide_eq_false fun q => nD (Value.ref.inj q)) (by decide) (by decide) k) ?_
  show OwnEnd p e below s _ _ _ (T108.setTop (mkF m 125 #[.val (.ref a1), .val (.ref a2), .val (.int rc)] []))
  refine OwnEnd.go (fun _ k => XS.iloadN X108.here hx rfl (hb hby d5d0attr_125) rfl  k) ?_
  show OwnEnd p e below s _ _ _ (T108.setTop (mkF m 126 #[.val (.ref a1), .val (.ref a2), .val (.int rc)] [(.int rc)]))
  refine ownRetI X108 hx hlk hret (hb hby d5d0attr_126) (by decide) (by decide) ?_
  show Q5d0attr Z a1 a2 bo bt rc o0 o1 t0 t1 er es ea xA xE xD h0 n0 _ T108.heap _
  rw [e108]
  exact ⟨rfl, N101, K101, ⟨ga, go, gt, n1, n2, n3, E2, F_open, F_attr, F_rc, F_dp, ⟨_, F_di⟩, F_er, F_es, F_ea, ⟨_, V_o⟩, ⟨_, V_t⟩⟩⟩
theorem d7d1_0 : decode prog_249_method_5_code 0 = .ok (.aload_n 0, 1) := by decide +kernel
theorem d7d1_1 : decode prog_249_method_5_code 1 = .ok (.getfield 13, 3) := by decide +kernel
theorem d7d1_4 : decode prog_249_method_5_code 4 = .ok (.aload_n 0, 1) := by decide +kernel
theorem d7d1_5 : decode prog_249_method_5_code 5 = .ok (.getfield 26, 3) := by decide +kernel
theorem d7d1_8 : decode prog_249_method_5_code 8 = .ok (.iconst 1, 1) := by decide +kernel
theorem d7d1_9 : decode prog_249_method_5_code 9 = .ok (.isub, 1) := by decide +kernel
theorem d7d1_10 : decode prog_249_method_5_code 10 = .ok (.dup2, 1) := by decide +kernel
theorem d7d1_11 : decode prog_249_method_5_code 11 = .ok (.iaload, 1) := by decide +kernel
theorem d7d1_12 : decode prog_249_method_5_code 12 = .ok (.iload_n 1, 1) := by decide +kernel
theorem d7d1_13 : decode prog_249_method_5_code 13 = .ok (.iadd, 1) := by decide +kernel
theorem d7d1_14 : decode prog_249_method_5_code 14 = .ok (.iastore, 1) := by decide +kernel
theorem d7d1_15 : decode prog_249_method_5_code 15 = .ok (.return_, 1) := by decide +kernel
theorem pn_7d1 : plainName "com/example/rewoven_tree/rewoventree/storage/TableShape" = true := by first | (simp [plainName, overriddenIn]; done) | decide +kernel
theorem ef_7d1 (m : MethodId) (x0 : Addr) (x1 : Int32) : entryFrame m #[(.ref x0), (.int x1)] 2 = mkF m 0 #[.val (.ref x0), .val (.int x1)] [] := by first | (simp [entryFrame, mkF, argsToLocals, Value.category]; done) | rfl
def Q7d1 (Z : State) (a1 : Addr) (p2 : Int32) (bo : Addr) (bt : Addr) (rc : Int32) (o0 : Int32) (o1 : Int32) (t0 : Int32) (t1 : Int32) (er : Int32) (es : Int32) (ea : Int32) (h0 : Heap) (n0 : Nat) (v : Option Value) (h : Heap) (L : List Loc) : Prop := v = none ∧ Fr n0 L ∧ Keep h0 h [a1, bo, bt] ∧ ownTS Z h n0 a1 bo bt rc (1 : Int32) o0 o1 (t0 + p2) t1 er es ea
set_option maxRecDepth 65536 in
set_option maxHeartbeats 40000000 in
theorem rm7d1 (l : Launch) (Z : State) (a0 : Array Value) (hw : ∀ d ∈ tables_1, d.before a0 Z = true) (ws : List Jvm.Cond) (a1 : Addr) (p2 : Int32) (bo : Addr) (bt : Addr) (rc : Int32) (o0 : Int32) (o1 : Int32) (t0 : Int32) (t1 : Int32) (er : Int32) (es : Int32) (ea : Int32) (h0 : Heap) (n0 : Nat) (Z0 : n0 ≤ h0.size) (B0 : ownTS Z h0 n0 a1 bo bt rc (1 : Int32) o0 o1 t0 t1 er es ea) :
    MetFree l (⟨"com/example/rewoven_tree/rewoventree/storage/TableShape", "addAttributes", "(I)V"⟩ : MethodName) (head1 (Jvm.Cond.code (⟨"com/example/rewoven_tree/rewoventree/storage/TableShape", "addAttributes", "(I)V"⟩ : MethodName) prog_249_method_5_code 2 none :: ws) ({ frames := 0, cells := 0, slots := 0, locals := 0 } : Room)) (fun a U => a = #[(.ref a1), (.int p2)] ∧ Z.Warmed39 U.vm ∧ U.heap = h0) (fun _ _ _ _ _ => True) (fun _ U o U' => ∃ v L, o = .returned v ∧ Q7d1 Z a1 p2 bo bt rc o0 o1 t0 t1 er es ea h0 n0 v U'.heap L ∧ FrameEnd U o U' L ({ frames := 0, cells := 0, slots := 0, locals := 0 } : Room).cells ({ frames := 0, cells := 0, slots := 0, locals := 0 } : Room).slots) := by
  have ww24 := hw _ (List.mem_of_getElem? (i := 24) rfl)
  have ww43 := hw _ (List.mem_of_getElem? (i := 43) rfl)
  refine MetFree.of_bodySF (plainFor_of_name pn_7d1) hisR ?_
  intro p e s m args below meth c s₁ Bd hml0 hP hK
  obtain ⟨rfl, hZ, hh⟩ := hP
  have hx := Bd.exec
  have hby := Bd.bytes
  have hlk : meth.locks = false := Bd.notSynchronized
  have hret := Bd.returns
  have hml : c.maxLocals = 2 := hml0
  have hown : s.vm.findClass "com/example/rewoven_tree/rewoventree/storage/TableShape" = some m.cls := findClass_of_methodNamed Bd.named
  have hnm := (name_of_methodNamed Bd.named Bd.method).1
  have X0 : Stand p l e ({ frames := 0, cells := 0, slots := 0, locals := 0 } : Room) s m #[(.ref a1), (.int p2)] below meth c s₁ [] 0 0 := Stand.of_body Bd
  have e0 : s₁.heap = h0 := by rw [← hh, Bd.state]; rfl
  have N0 := Fr.nil n0
  have K0 := Keep.refl h0 [a1, bo, bt]
  show OwnEnd p e below s (Q7d1 Z a1 p2 bo bt rc o0 o1 t0 t1 er es ea h0 n0) ({ frames := 0, cells := 0, slots := 0, locals := 0 } : Room).cells ({ frames := 0, cells := 0, slots := 0, locals := 0 } : Room).slots _
  refine OwnEnd.go (fun _ k => castTop (ef_7d1 m a1 p2) k) ?_
  obtain ⟨ga, go, gt, n1, n2, n3, E1, F_open, F_attr, F_rc, F_dp, ⟨di, F_di⟩, F_er, F_es, F_ea, ⟨ko, V_o⟩, ⟨kt, V_t⟩⟩ := B0
  show OwnEnd p e below s _ _ _ (s₁.setTop (mkF m 0 #[.val (.ref a1), .val (.int p2)] []))
  refine OwnEnd.go (fun _ k => XS.aloadN X0.here hx rfl (hb hby d7d1_0) rfl rfl k) ?_
  show OwnEnd p e below s _ _ _ (s₁.setTop (mkF m 1 #[.val (.ref a1), .val (.int p2)] [(.ref a1)]))
  obtain ⟨T101, X101, e101, st101⟩ := getF X0 hx hZ hown (host := "") (Or.inl ww24) Via.refl e0 F_attr (g := (mkF m 1 #[.val (.ref a1), .val (.int p2)] [(.ref a1)])) rfl rfl (hb hby d7d1_1)
  refine OwnEnd.go (fun _ k => st101 _ k) ?_
  show OwnEnd p e below s _ _ _ (T101.setTop (mkF m 4 #[.val (.ref a1), .val (.int p2)] [(.ref bt)]))
  refine OwnEnd.go (fun _ k => XS.aloadN X101.here hx rfl (hb hby d7d1_4) rfl rfl k) ?_
  show OwnEnd p e below s _ _ _ (T101.setTop (mkF m 5 #[.val (.ref a1), .val (.int p2)] [(.ref a1), (.ref bt)]))
  obtain ⟨T102, X102, e102, st102⟩ := getF X101 hx hZ hown (host := "") (Or.inl ww43) Via.refl e101 F_dp (g := (mkF m 5 #[.val (.ref a1), .val (.int p2)] [(.ref a1), (.ref bt)])) rfl rfl (hb hby d7d1_5)
  refine OwnEnd.go (fun _ k => st102 _ k) ?_
  show OwnEnd p e below s _ _ _ (T102.setTop (mkF m 8 #[.val (.ref a1), .val (.int p2)] [(.int (1 : Int32)), (.ref bt)]))
  refine OwnEnd.go (fun _ k => XS.iconst X102.here hx rfl (hb hby d7d1_8) k) ?_
  show OwnEnd p e below s _ _ _ (T102.setTop (mkF m 9 #[.val (.ref a1), .val (.int p2)] [(.int (1 : Int32)), (.int (1 : Int32)), (.ref bt)]))
  refine OwnEnd.go (fun _ k => XS.isub X102.here hx rfl (hb hby d7d1_9) rfl k) ?_
  show OwnEnd p e below s _ _ _ (T102.setTop (mkF m 10 #[.val (.ref a1), .val (.int p2)] [(.int (0 : Int32)), (.ref bt)]))
  refine OwnEnd.go (fun _ k => XT.dup2 X102.here hx rfl (hb hby d7d1_10) rfl rfl rfl k) ?_
  show OwnEnd p e below s _ _ _ (T102.setTop (mkF m 11 #[.val (.ref a1), .val (.int p2)] [(.int (0 : Int32)), (.ref bt), (.int (0 : Int32)), (.ref bt)]))
  obtain ⟨c103, Ar103, q103, S103, G103, H103, J103⟩ := id V_t
  have i103 := inb_of (j := (0 : Int32)) S103 ⟨by decide, by decide⟩
  refine OwnEnd.go (fun _ k => X102.iaload hx (j := (0 : Int32)) (v := (.int t0)) (by rw [e102]; exact Ar103.1) (State.isArrayOf_alike hZ.alike Ar103.2.1) Ar103.2.2 i103 (Has.at H103 i103 rfl) (g := (mkF m 11 #[.val (.ref a1), .val (.int p2)] [(.int (0 : Int32)), (.ref bt), (.int (0 : Int32)), (.ref bt)])) rfl rfl (hb hby d7d1_11) _ k) ?_
  show OwnEnd p e below s _ _ _ (T102.setTop (mkF m 12 #[.val (.ref a1), .val (.int p2)] [(.int t0), (.int (0 : Int32)), (.ref bt)]))
  refine OwnEnd.go (fun _ k => XS.iloadN X102.here hx rfl (hb hby d7d1_12) rfl  k) ?_
  show OwnEnd p e below s _ _ _ (T102.setTop (mkF m 13 #[.val (.ref a1), .val (.int p2)] [(.int p2), (.int t0), (.int (0 : Int32)), (.ref bt)]))
  refine OwnEnd.go (fun _ k => XS.iadd X102.here hx rfl (hb hby d7d1_13) rfl k) ?_
  show OwnEnd p e below s _ _ _ (T102.setTop (mkF m 14 #[.val (.ref a1), .val (.int p2)] [(.int (t0 + p2)), (.int (0 : Int32)), (.ref bt)]))
  obtain ⟨c104, Ar104, q104, S104, G104, H104, J104⟩ := id V_t
  obtain ⟨T104, h104, X104, e104, W104, st104⟩ := stI X102 hx hZ e102 Ar104 (j := (0 : Int32)) (inb_of S104 ⟨by decide, by decide⟩) (g := (mkF m 14 #[.val (.ref a1), .val (.int p2)] [(.int (t0 + p2)), (.int (0 : Int32)), (.ref bt)])) rfl rfl (hb hby d7d1_14)
  have V104 : Arv Z h104 bt kt .int (8 : Int32) [(.int (t0 + p2)), (.int t1), (.int (0 : Int32)), (.int (0 : Int32)), (.int (0 : Int32)), (.int (0 : Int32)), (.int (0 : Int32)), (.int (0 : Int32))] (.int (0 : Int32)) := Arv.set Ar104 q104 S104 G104 H104 J104 rfl W104 0 rfl (Nat.le_of_ble_eq_true rfl)
  have F106 := E1.wr W104
  have F107 := F_open.other W104 (Or.inl n2)
  have F108 := F_attr.other W104 (Or.inl n2)
  have F109 := F_rc.other W104 (Or.inl n2)
  have F110 := F_dp.other W104 (Or.inl n2)
  have F111 := F_di.other W104 (Or.inl n2)
  have F112 := F_er.other W104 (Or.inl n2)
  have F113 := F_es.other W104 (Or.inl n2)
  have F114 := F_ea.other W104 (Or.inl n2)
  have F115 := V_o.other W104 n3
  have N104 := Fr.snoc X104 N0 gt
  have K104 := K0.wr W104 (Or.inl (List.mem_of_getElem? (i := 2) rfl))
  have Y104 := Nat.le_trans Z0 (Nat.le_of_eq W104.size.symm)
  refine OwnEnd.go (fun _ k => st104 _ k) ?_
  show OwnEnd p e below s _ _ _ (T104.setTop (mkF m 15 #[.val (.ref a1), .val (.int p2)] []))
  refine ownRetV X104 hx hlk hret (hb hby d7d1_15) (by decide) (by decide) ?_
  show Q7d1 Z a1 p2 bo bt rc o0 o1 t0 t1 er es ea h0 n0 _ T104.heap _
  rw [e104]
  exact ⟨rfl, N104, K104, ⟨ga, go, gt, n1, n2, n3, F106, F107, F108, F109, F110, ⟨_, F111⟩, F112, F113, F114, ⟨_, F115⟩, ⟨_, V104⟩⟩⟩
theorem d5d1open_0 : decode prog_249_method_2_code 0 = .ok (.aload_n 0, 1) := by decide +kernel
theorem d5d1open_1 : decode prog_249_method_2_code 1 = .ok (.iconst 1, 1) := by decide +kernel
theorem d5d1open_2 : decode prog_249_method_2_code 2 = .ok (.invokevirtual 16, 3) := by decide +kernel
theorem d5d1open_5 : decode prog_249_method_2_code 5 = .ok (.istore_n 2, 1) := by decide +kernel
theorem d5d1open_6 : decode prog_249_method_2_code 6 = .ok (.aload_n 1, 1) := by decide +kernel
theorem d5d1open_7 : decode prog_249_method_2_code 7 = .ok (.getstatic 20, 3) := by decide +kernel
theorem d5d1open_10 : decode prog_249_method_2_code 10 = .ok (.if_acmp .ne 25, 3) := by decide +kernel
theorem d5d1open_35 : decode prog_249_method_2_code 35 = .ok (.aload_n 1, 1) := by decide +kernel
theorem d5d1open_36 : decode prog_249_method_2_code 36 = .ok (.getstatic 30, 3) := by decide +kernel
theorem d5d1open_39 : decode prog_249_method_2_code 39 = .ok (.if_acmp .eq 10, 3) := by decide +kernel
theorem d5d1open_42 : decode prog_249_method_2_code 42 = .ok (.aload_n 1, 1) := by decide +kernel
theorem d5d1open_43 : decode prog_249_method_2_code 43 = .ok (.getstatic 33, 3) := by decide +kernel
theorem d5d1open_46 : decode prog_249_method_2_code 46 = .ok (.if_acmp .ne 79, 3) := by decide +kernel
theorem d5d1open_49 : decode prog_249_method_2_code 49 = .ok (.aload_n 0, 1) := by decide +kernel
theorem d5d1open_50 : decode prog_249_method_2_code 50 = .ok (.getfield 26, 3) := by decide +kernel
theorem d5d1open_53 : decode prog_249_method_2_code 53 = .ok (.aload_n 0, 1) := by decide +kernel
theorem d5d1open_54 : decode prog_249_method_2_code 54 = .ok (.getfield 7, 3) := by decide +kernel
theorem d5d1open_57 : decode prog_249_method_2_code 57 = .ok (.arraylength, 1) := by decide +kernel
theorem d5d1open_58 : decode prog_249_method_2_code 58 = .ok (.if_icmp .ne 37, 3) := by decide +kernel
theorem d5d1open_95 : decode prog_249_method_2_code 95 = .ok (.aload_n 0, 1) := by decide +kernel
theorem d5d1open_96 : decode prog_249_method_2_code 96 = .ok (.getfield 7, 3) := by decide +kernel
theorem d5d1open_99 : decode prog_249_method_2_code 99 = .ok (.aload_n 0, 1) := by decide +kernel
theorem d5d1open_100 : decode prog_249_method_2_code 100 = .ok (.getfield 26, 3) := by decide +kernel
theorem d5d1open_103 : decode prog_249_method_2_code 103 = .ok (.iload_n 2, 1) := by decide +kernel
theorem d5d1open_104 : decode prog_249_method_2_code 104 = .ok (.iastore, 1) := by decide +kernel
theorem d5d1open_105 : decode prog_249_method_2_code 105 = .ok (.aload_n 0, 1) := by decide +kernel
theorem d5d1open_106 : decode prog_249_method_2_code 106 = .ok (.getfield 13, 3) := by decide +kernel
theorem d5d1open_109 : decode prog_249_method_2_code 109 = .ok (.aload_n 0, 1) := by decide +kernel
theorem d5d1open_110 : decode prog_249_method_2_code 110 = .ok (.getfield 26, 3) := by decide +kernel
theorem d5d1open_113 : decode prog_249_method_2_code 113 = .ok (.iconst 0, 1) := by decide +kernel
theorem d5d1open_114 : decode prog_249_method_2_code 114 = .ok (.iastore, 1) := by decide +kernel
theorem d5d1open_115 : decode prog_249_method_2_code 115 = .ok (.aload_n 0, 1) := by decide +kernel
theorem d5d1open_116 : decode prog_249_method_2_code 116 = .ok (.dup, 1) := by decide +kernel
theorem d5d1open_117 : decode prog_249_method_2_code 117 = .ok (.getfield 26, 3) := by decide +kernel
theorem d5d1open_120 : decode prog_249_method_2_code 120 = .ok (.iconst 1, 1) := by decide +kernel
theorem d5d1open_121 : decode prog_249_method_2_code 121 = .ok (.iadd, 1) := by decide +kernel
theorem d5d1open_122 : decode prog_249_method_2_code 122 = .ok (.putfield 26, 3) := by decide +kernel
theorem d5d1open_125 : decode prog_249_method_2_code 125 = .ok (.iload_n 2, 1) := by decide +kernel
theorem d5d1open_126 : decode prog_249_method_2_code 126 = .ok (.ireturn, 1) := by decide +kernel
theorem pn_5d1open : plainName "com/example/rewoven_tree/rewoventree/storage/TableShape" = true := by first | (simp [plainName, overriddenIn]; done) | decide +kernel
theorem pd5d1open_0 : parseMethodDescriptor "(I)I" = some ⟨[.int], some .int⟩ := by decide +kernel
theorem ef_5d1open (m : MethodId) (x0 : Addr) (x1 : Addr) : entryFrame m #[(.ref x0), (.ref x1)] 3 = mkF m 0 #[.val (.ref x0), .val (.ref x1), .unset] [] := by first | (simp [entryFrame, mkF, argsToLocals, Value.category]; done) | rfl
def Q5d1open (Z : State) (a1 : Addr) (a2 : Addr) (bo : Addr) (bt : Addr) (rc : Int32) (o0 : Int32) (o1 : Int32) (t0 : Int32) (t1 : Int32) (er : Int32) (es : Int32) (ea : Int32) (xA : Addr) (xE : Addr) (xD : Addr) (h0 : Heap) (n0 : Nat) (v : Option Value) (h : Heap) (L : List Loc) : Prop := v = some (.int rc) ∧ Fr n0 L ∧ Keep h0 h [a1, bo, bt] ∧ ownTS Z h n0 a1 bo bt (rc + (1 : Int32)) (2 : Int32) o0 rc t0 (0 : Int32) er es ea
set_option maxRecDepth 65536 in
set_option maxHeartbeats 40000000 in
theorem rm5d1open (l : Launch) (Z : State) (a0 : Array Value) (hw : ∀ d ∈ tables_1, d.before a0 Z = true) (ws : List Jvm.Cond) (a1 : Addr) (a2 : Addr) (bo : Addr) (bt : Addr) (rc : Int32) (o0 : Int32) (o1 : Int32) (t0 : Int32) (t1 : Int32) (er : Int32) (es : Int32) (ea : Int32) (xA : Addr) (xE : Addr) (xD : Addr) (h0 : Heap) (n0 : Nat) (Z0 : n0 ≤ h0.size) (O0 : Old Z n0 h0) (SA : Sta Z Z.heap "com/example/rewoven_tree/rewoventree/storage/NodeKind" "ATTRIBUTE" "Lcom/example/rewoven_tree/rewoventree/storage/NodeKind;" (.ref xA)) (SE : Sta Z Z.heap "com/example/rewoven_tree/rewoventree/storage/NodeKind" "ELEMENT" "Lcom/example/rewoven_tree/rewoventree/storage/NodeKind;" (.ref xE)) (SD : Sta Z Z.heap "com/example/rewoven_tree/rewoventree/storage/NodeKind" "DOCUMENT" "Lcom/example/rewoven_tree/rewoventree/storage/NodeKind;" (.ref xD)) (nA : a2 ≠ xA) (hk : a2 = xE ∨ a2 = xD) (B0 : ownTS Z h0 n0 a1 bo bt rc (1 : Int32) o0 o1 t0 t1 er es ea) :
    MetFree l (⟨"com/example/rewoven_tree/rewoventree/storage/TableShape", "place", "(Lcom/example/rewoven_tree/rewoventree/storage/NodeKind;)I"⟩ : MethodName) (head1 (Jvm.Cond.code (⟨"com/example/rewoven_tree/rewoventree/storage/TableShape", "place", "(Lcom/example/rewoven_tree/rewoventree/storage/NodeKind;)I"⟩ : MethodName) prog_249_method_2_code 3 (some .int) :: ws) ({ frames := 1, cells := 0, slots := 0, locals := 14 } : Room)) (fun a U => a = #[(.ref a1), (.ref a2)] ∧ Z.Warmed39 U.vm ∧ U.heap = h0) (fun _ _ _ _ _ => True) (fun _ U o U' => ∃ v L, o = .returned v ∧ Q5d1open Z a1 a2 bo bt rc o0 o1 t0 t1 er es ea xA xE xD h0 n0 v U'.heap L ∧ FrameEnd U o U' L ({ frames := 1, cells := 0, slots := 0, locals := 14 } : Room).cells ({ frames := 1, cells := 0, slots := 0, locals := 14 } : Room).slots) := by
  have ww13 := hw _ (List.mem_of_getElem? (i := 13) rfl)
  have ww14 := hw _ (List.mem_of_getElem? (i := 14) rfl)
  have ww22 := hw _ (List.mem_of_getElem? (i := 22) rfl)
  have ww23 := hw _ (List.mem_of_getElem? (i := 23) rfl)
  have ww24 := hw _ (List.mem_of_getElem? (i := 24) rfl)
  have ww25 := hw _ (List.mem_of_getElem? (i := 25) rfl)
  have ww32 := hw _ (List.mem_of_getElem? (i := 32) rfl)
  have ww38 := hw _ (List.mem_of_getElem? (i := 38) rfl)
  have ww39 := hw _ (List.mem_of_getElem? (i := 39) rfl)
  have ww40 := hw _ (List.mem_of_getElem? (i := 40) rfl)
  have ww41 := hw _ (List.mem_of_getElem? (i := 41) rfl)
  have ww42 := hw _ (List.mem_of_getElem? (i := 42) rfl)
  have ww43 := hw _ (List.mem_of_getElem? (i := 43) rfl)
  have ww44 := hw _ (List.mem_of_getElem? (i := 44) rfl)
  have ww46 := hw _ (List.mem_of_getElem? (i := 46) rfl)
  have ww47 := hw _ (List.mem_of_getElem? (i := 47) rfl)
  have ww48 := hw _ (List.mem_of_getElem? (i := 48) rfl)
  have ww49 := hw _ (List.mem_of_getElem? (i := 49) rfl)
  have ww66 := hw _ (List.mem_of_getElem? (i := 66) rfl)
  have ww68 := hw _ (List.mem_of_getElem? (i := 68) rfl)
  have ww70 := hw _ (List.mem_of_getElem? (i := 70) rfl)
  refine MetFree.of_bodySF (plainFor_of_name pn_5d1open) hisR ?_
  intro p e s m args below meth c s₁ Bd hml0 hP hK
  obtain ⟨rfl, hZ, hh⟩ := hP
  have hx := Bd.exec
  have hby := Bd.bytes
  have hlk : meth.locks = false := Bd.notSynchronized
  have hret := Bd.returns
  have hml : c.maxLocals = 3 := hml0
  have hown : s.vm.findClass "com/example/rewoven_tree/rewoventree/storage/TableShape" = some m.cls := findClass_of_methodNamed Bd.named
  have hnm := (name_of_methodNamed Bd.named Bd.method).1
  have X0 : Stand p l e ({ frames := 1, cells := 0, slots := 0, locals := 14 } : Room) s m #[(.ref a1), (.ref a2)] below meth c s₁ [] 0 0 := Stand.of_body Bd
  have e0 : s₁.heap = h0 := by rw [← hh, Bd.state]; rfl
  have N0 := Fr.nil n0
  have K0 := Keep.refl h0 [a1, bo, bt]
  show OwnEnd p e below s (Q5d1open Z a1 a2 bo bt rc o0 o1 t0 t1 er es ea xA xE xD h0 n0) ({ frames := 1, cells := 0, slots := 0, locals := 14 } : Room).cells ({ frames := 1, cells := 0, slots := 0, locals := 14 } : Room).slots _
  refine OwnEnd.go (fun _ k => castTop (ef_5d1open m a1 a2) k) ?_
  have E1 := B0.2.2.2.2.2.2.1
  have ga := B0.1
  have go := B0.2.1
  have gt := B0.2.2.1
  show OwnEnd p e below s _ _ _ (s₁.setTop (mkF m 0 #[.val (.ref a1), .val (.ref a2), .unset] []))
  refine OwnEnd.go (fun _ k => XS.aloadN X0.here hx rfl (hb hby d5d1open_0) rfl rfl k) ?_
  show OwnEnd p e below s _ _ _ (s₁.setTop (mkF m 1 #[.val (.ref a1), .val (.ref a2), .unset] [(.ref a1)]))
  refine OwnEnd.go (fun _ k => XS.iconst X0.here hx rfl (hb hby d5d1open_1) k) ?_
  show OwnEnd p e below s _ _ _ (s₁.setTop (mkF m 2 #[.val (.ref a1), .val (.ref a2), .unset] [(.int (1 : Int32)), (.ref a1)]))
  obtain ⟨_, T101, L101, X101, hQ101, st101⟩ := ownCallV X0 hx hZ hown ww38 ww39 ww41 ww40 ww14 ww42 (by decide) (rm6d1 l Z a0 hw [] a1 (1 : Int32) bo bt rc o0 o1 t0 t1 er es ea h0 n0 Z0  B0) e0 E1 0 (by decide) (by decide) (by decide) (by decide) (g := (mkF m 2 #[.val (.ref a1), .val (.ref a2), .unset] [(.int (1 : Int32)), (.ref a1)])) rfl (by rw [hml]; rfl) (argsL := [(.int (1 : Int32))]) (rest := []) (lenOf pd5d1open_0 rfl) rfl rfl (by show 2 * 0 + _ ≤ _; exact Nat.le_of_eq rfl) (hb hby d5d1open_2)
  obtain ⟨rfl, N101q, K101q, P102⟩ := hQ101
  have N101 := Fr.app N0 N101q
  have F104 := E1.keep K101q
  have K101 := K0.trans K101q (allS (Or.inl (List.mem_of_getElem? (i := 0) rfl)) (allS (Or.inl (List.mem_of_getElem? (i := 1) rfl)) (allS (Or.inl (List.mem_of_getElem? (i := 2) rfl)) all0)))
  have Y101 := Nat.le_trans Z0 K101q.1
  have O101 := O0.keep K101q (allS ga (allS go (allS gt all0)))
  refine OwnEnd.go (fun _ k => st101 _ k) ?_
  obtain ⟨-, -, -, n1, n2, n3, E2, F_open, F_attr, F_rc, F_dp, ⟨di, F_di⟩, F_er, F_es, F_ea, ⟨ko, V_o⟩, ⟨kt, V_t⟩⟩ := P102
  show OwnEnd p e below s _ _ _ (T101.setTop (mkF m 5 #[.val (.ref a1), .val (.ref a2), .unset] [(.int rc)]))
  refine OwnEnd.go (fun _ k => XS.istoreN X101.here hx rfl (hb hby d5d1open_5) rfl  (l' := #[.val (.ref a1), .val (.ref a2), .val (.int rc)]) rfl k) ?_
  show OwnEnd p e below s _ _ _ (T101.setTop (mkF m 6 #[.val (.ref a1), .val (.ref a2), .val (.int rc)] []))
  refine OwnEnd.go (fun _ k => XS.aloadN X101.here hx rfl (hb hby d5d1open_6) rfl rfl k) ?_
  show OwnEnd p e below s _ _ _ (T101.setTop (mkF m 7 #[.val (.ref a1), .val (.ref a2), .val (.int rc)] [(.ref a2)]))
  obtain ⟨T105, X105, e105, st105⟩ := getS2 X101 hx hZ hown (host := "") (Or.inl ww47) Via.refl (rfl : T101.heap = T101.heap) (SA.ext O101.2) (g := (mkF m 7 #[.val (.ref a1), .val (.ref a2), .val (.int rc)] [(.ref a2)])) rfl (hb hby d5d1open_7)
  refine OwnEnd.go (fun _ k => st105 _ k) ?_
  show OwnEnd p e below s _ _ _ (T105.setTop (mkF m 10 #[.val (.ref a1), .val (.ref a2), .val (.int rc)] [(.ref xA), (.ref a2)]))
  refine OwnEnd.go (fun _ k => Jvm.RoadKit.acmp (g := (mkF m 10 #[.val (.ref a1), .val (.ref a2), .val (.int rc)] [(.ref xA), (.ref a2)])) X105 hx rfl rfl rfl (pc0 := 10) (pc' := 35) (same := false) rfl (hb hby d5d1open_10) rfl (decide_eq_false fun q => nA (Value.ref.inj q)) (by decide) (by decide) k) ?_
  show OwnEnd p e below s _ _ _ (T105.setTop (mkF m 35 #[.val (.ref a1), .val (.ref a2), .val (.int rc)] []))
  refine OwnEnd.go (fun _ k => XS.aloadN X105.here hx rfl (hb hby d5d1open_35) rfl rfl k) ?_
  show OwnEnd p e below s _ _ _ (T105.setTop (mkF m 36 #[.val (.ref a1), .val (.ref a2), .val (.int rc)] [(.ref a2)]))
  obtain ⟨T106, X106, e106, st106⟩ := getS2 X105 hx hZ hown (host := "") (Or.inl ww48) Via.refl e105 (SE.ext O101.2) (g := (mkF m 36 #[.val (.ref a1), .val (.ref a2), .val (.int rc)] [(.ref a2)])) rfl (hb hby d5d1open_36)
  refine OwnEnd.go (fun _ k => st106 _ k) ?_
  show OwnEnd p e below s _ _ _ (T106.setTop (mkF m 39 #[.val (.ref a1), .val (.ref a2), .val (.int rc)] [(.ref xE), (.ref a2)]))
  by_cases ha107 : a2 = xE
  · refine OwnEnd.go (fun _ k => Jvm.RoadKit.acmp (g := (mkF m 39 #[.val (.ref a1), .val (.ref a2), .val (.int rc)] [(.ref xE), (.ref a2)])) X106 hx rfl rfl rfl (pc0 := 39) (pc' := 49) (same := true) rfl (hb hby d5d1open_39) rfl (decide_eq_true (congrArg Value.ref ha107)) (by decide) (by decide) k) ?_
    show OwnEnd p e below s _ _ _ (T106.setTop (mkF m 49 #[.val (.ref a1), .val (.ref a2), .val (.int rc)] []))
    refine OwnEnd.go (fun _ k => XS.aloadN X106.here hx rfl (hb hby d5d1open_49) rfl rfl k) ?_
    show OwnEnd p e below s _ _ _ (T106.setTop (mkF m 50 #[.val (.ref a1), .val (.ref a2), .val (.int rc)] [(.ref a1)]))
    obtain ⟨T108, X108, e108, st108⟩ := getF X106 hx hZ hown (host := "") (Or.inl ww43) Via.refl e106 F_dp (g := (mkF m 50 #[.val (.ref a1), .val (.ref a2), .val (.int rc)] [(.ref a1)])) rfl rfl (hb hby d5d1open_50)
    refine OwnEnd.go (fun _ k => st108 _ k) ?_
    show OwnEnd p e below s _ _ _ (T108.setTop (mkF m 53 #[.val (.ref a1), .val (.ref a2), .val (.int rc)] [(.int (1 : Int32))]))
    refine OwnEnd.go (fun _ k => XS.aloadN X108.here hx rfl (hb hby d5d1open_53) rfl rfl k) ?_
    show OwnEnd p e below s _ _ _ (T108.setTop (mkF m 54 #[.val (.ref a1), .val (.ref a2), .val (.int rc)] [(.ref a1), (.int (1 : Int32))]))
    obtain ⟨T109, X109, e109, st109⟩ := getF X108 hx hZ hown (host := "") (Or.inl ww22) Via.refl e108 F_open (g := (mkF m 54 #[.val (.ref a1), .val (.ref a2), .val (.int rc)] [(.ref a1), (.int (1 : Int32))])) rfl rfl (hb hby d5d1open_54)
    refine OwnEnd.go (fun _ k => st109 _ k) ?_
    show OwnEnd p e below s _ _ _ (T109.setTop (mkF m 57 #[.val (.ref a1), .val (.ref a2), .val (.int rc)] [(.ref bo), (.int (1 : Int32))]))
    obtain ⟨c110, Ar110, q110, S110, G110, H110, J110⟩ := id V_o
    refine OwnEnd.go (fun _ k => ownLen X109 hx hZ e109 Ar110 S110 G110 (g := (mkF m 57 #[.val (.ref a1), .val (.ref a2), .val (.int rc)] [(.ref bo), (.int (1 : Int32))])) rfl rfl (hb hby d5d1open_57) _ k) ?_
    show OwnEnd p e below s _ _ _ (T109.setTop (mkF m 58 #[.val (.ref a1), .val (.ref a2), .val (.int rc)] [(.int (8 : Int32)), (.int (1 : Int32))]))
    refine OwnEnd.go (fun _ k => XS.icmpYes X109.here hx rfl (pc0 := 58) (pc' := 95) rfl (hb hby d5d1open_58) rfl (feq (by decide : ¬ (1 : Int32) = (8 : Int32))).2 (by decide) (by decide) k) ?_
    show OwnEnd p e below s _ _ _ (T109.setTop (mkF m 95 #[.val (.ref a1), .val (.ref a2), .val (.int rc)] []))
    refine OwnEnd.go (fun _ k => XS.aloadN X109.here hx rfl (hb hby d5d1open_95) rfl rfl k) ?_
    show OwnEnd p e below s _ _ _ (T109.setTop (mkF m 96 #[.val (.ref a1), .val (.ref a2), .val (.int rc)] [(.ref a1)]))
    obtain ⟨T111, X111, e111, st111⟩ := getF X109 hx hZ hown (host := "") (Or.inl ww22) Via.refl e109 F_open (g := (mkF m 96 #[.val (.ref a1), .val (.ref a2), .val (.int rc)] [(.ref a1)])) rfl rfl (hb hby d5d1open_96)
    refine OwnEnd.go (fun _ k => st111 _ k) ?_
    show OwnEnd p e below s _ _ _ (T111.setTop (mkF m 99 #[.val (.ref a1), .val (.ref a2), .val (.int rc)] [(.ref bo)]))
    refine OwnEnd.go (fun _ k => XS.aloadN X111.here hx rfl (hb hby d5d1open_99) rfl rfl k) ?_
    show OwnEnd p e below s _ _ _ (T111.setTop (mkF m 100 #[.val (.ref a1), .val (.ref a2), .val (.int rc)] [(.ref a1), (.ref bo)]))
    obtain ⟨T112, X112, e112, st112⟩ := getF X111 hx hZ hown (host := "") (Or.inl ww43) Via.refl e111 F_dp (g := (mkF m 100 #[.val (.ref a1), .val (.ref a2), .val (.int rc)] [(.ref a1), (.ref bo)])) rfl rfl (hb hby d5d1open_100)
    refine OwnEnd.go (fun _ k => st112 _ k) ?_
    show OwnEnd p e below s _ _ _ (T112.setTop (mkF m 103 #[.val (.ref a1), .val (.ref a2), .val (.int rc)] [(.int (1 : Int32)), (.ref bo)]))
    refine OwnEnd.go (fun _ k => XS.iloadN X112.here hx rfl (hb hby d5d1open_103) rfl  k) ?_
    show OwnEnd p e below s _ _ _ (T112.setTop (mkF m 104 #[.val (.ref a1), .val (.ref a2), .val (.int rc)] [(.int rc), (.int (1 : Int32)), (.ref bo)]))
    obtain ⟨c113, Ar113, q113, S113, G113, H113, J113⟩ := id V_o
    obtain ⟨T113, h113, X113, e113, W113, st113⟩ := stI X112 hx hZ e112 Ar113 (j := (1 : Int32)) (inb_of S113 ⟨by decide, by decide⟩) (g := (mkF m 104 #[.val (.ref a1), .val (.ref a2), .val (.int rc)] [(.int rc), (.int (1 : Int32)), (.ref bo)])) rfl rfl (hb hby d5d1open_104)
    have V113 : Arv Z h113 bo ko .int (8 : Int32) [(.int o0), (.int rc), (.int (0 : Int32)), (.int (0 : Int32)), (.int (0 : Int32)), (.int (0 : Int32)), (.int (0 : Int32)), (.int (0 : Int32))] (.int (0 : Int32)) := Arv.set Ar113 q113 S113 G113 H113 J113 rfl W113 1 rfl (Nat.le_of_ble_eq_true rfl)
    have F114 := E2.wr W113
    have F115 := F_open.other W113 (Or.inl n1)
    have F116 := F_attr.other W113 (Or.inl n1)
    have F117 := F_rc.other W113 (Or.inl n1)
    have F118 := F_dp.other W113 (Or.inl n1)
    have F119 := F_di.other W113 (Or.inl n1)
    have F120 := F_er.other W113 (Or.inl n1)
    have F121 := F_es.other W113 (Or.inl n1)
    have F122 := F_ea.other W113 (Or.inl n1)
    have F124 := V_t.other W113 (Ne.symm n3)
    have N113 := Fr.snoc X113 N101 go
    have K113 := K101.wr W113 (Or.inl (List.mem_of_getElem? (i := 1) rfl))
    have Y113 := Nat.le_trans Y101 (Nat.le_of_eq W113.size.symm)
    have O113 := O101.wr W113 go
    refine OwnEnd.go (fun _ k => st113 _ k) ?_
    show OwnEnd p e below s _ _ _ (T113.setTop (mkF m 105 #[.val (.ref a1), .val (.ref a2), .val (.int rc)] []))
    refine OwnEnd.go (fun _ k => XS.aloadN X113.here hx rfl (hb hby d5d1open_105) rfl rfl k) ?_
    show OwnEnd p e below s _ _ _ (T113.setTop (mkF m 106 #[.val (.ref a1), .val (.ref a2), .val (.int rc)] [(.ref a1)]))
    obtain ⟨T125, X125, e125, st125⟩ := getF X113 hx hZ hown (host := "") (Or.inl ww24) Via.refl e113 F116 (g := (mkF m 106 #[.val (.ref a1), .val (.ref a2), .val (.int rc)] [(.ref a1)])) rfl rfl (hb hby d5d1open_106)
    refine OwnEnd.go (fun _ k => st125 _ k) ?_
    show OwnEnd p e below s _ _ _ (T125.setTop (mkF m 109 #[.val (.ref a1), .val (.ref a2), .val (.int rc)] [(.ref bt)]))
    refine OwnEnd.go (fun _ k => XS.aloadN X125.here hx rfl (hb hby d5d1open_109) rfl rfl k) ?_
    show OwnEnd p e below s _ _ _ (T125.setTop (mkF m 110 #[.val (.ref a1), .val (.ref a2), .val (.int rc)] [(.ref a1), (.ref bt)]))
    obtain ⟨T126, X126, e126, st126⟩ := getF X125 hx hZ hown (host := "") (Or.inl ww43) Via.refl e125 F118 (g := (mkF m 110 #[.val (.ref a1), .val (.ref a2), .val (.int rc)] [(.ref a1), (.ref bt)])) rfl rfl (hb hby d5d1open_110)
    refine OwnEnd.go (fun _ k => st126 _ k) ?_
    show OwnEnd p e below s _ _ _ (T126.setTop (mkF m 113 #[.val (.ref a1), .val (.ref a2), .val (.int rc)] [(.int (1 : Int32)), (.ref bt)]))
    refine OwnEnd.go (fun _ k => XS.iconst X126.here hx rfl (hb hby d5d1open_113) k) ?_
    show OwnEnd p e below s _ _ _ (T126.setTop (mkF m 114 #[.val (.ref a1), .val (.ref a2), .val (.int rc)] [(.int (0 : Int32)), (.int (1 : Int32)), (.ref bt)]))
    obtain ⟨c127, Ar127, q127, S127, G127, H127, J127⟩ := id F124
    obtain ⟨T127, h127, X127, e127, W127, st127⟩ := stI X126 hx hZ e126 Ar127 (j := (1 : Int32)) (inb_of S127 ⟨by decide, by decide⟩) (g := (mkF m 114 #[.val (.ref a1), .val (.ref a2), .val (.int rc)] [(.int (0 : Int32)), (.int (1 : Int32)), (.ref bt)])) rfl rfl (hb hby d5d1open_114)
    have V127 : Arv Z h127 bt kt .int (8 : Int32) [(.int t0), (.int (0 : Int32)), (.int (0 : Int32)), (.int (0 : Int32)), (.int (0 : Int32)), (.int (0 : Int32)), (.int (0 : Int32)), (.int (0 : Int32))] (.int (0 : Int32)) := Arv.set Ar127 q127 S127 G127 H127 J127 rfl W127 1 rfl (Nat.le_of_ble_eq_true rfl)
    have F128 := F114.wr W127
    have F129 := F115.other W127 (Or.inl n2)
    have F130 := F116.other W127 (Or.inl n2)
    have F131 := F117.other W127 (Or.inl n2)
    have F132 := F118.other W127 (Or.inl n2)
    have F133 := F119.other W127 (Or.inl n2)
    have F134 := F120.other W127 (Or.inl n2)
    have F135 := F121.other W127 (Or.inl n2)
    have F136 := F122.other W127 (Or.inl n2)
    have F138 := V113.other W127 n3
    have N127 := Fr.snoc X127 N113 gt
    have K127 := K113.wr W127 (Or.inl (List.mem_of_getElem? (i := 2) rfl))
    have Y127 := Nat.le_trans Y113 (Nat.le_of_eq W127.size.symm)
    have O127 := O113.wr W127 gt
    refine OwnEnd.go (fun _ k => st127 _ k) ?_
    show OwnEnd p e below s _ _ _ (T127.setTop (mkF m 115 #[.val (.ref a1), .val (.ref a2), .val (.int rc)] []))
    refine OwnEnd.go (fun _ k => XS.aloadN X127.here hx rfl (hb hby d5d1open_115) rfl rfl k) ?_
    show OwnEnd p e below s _ _ _ (T127.setTop (mkF m 116 #[.val (.ref a1), .val (.ref a2), .val (.int rc)] [(.ref a1)]))
    refine OwnEnd.go (fun _ k => XS.dup X127.here hx rfl (hb hby d5d1open_116) rfl rfl k) ?_
    show OwnEnd p e below s _ _ _ (T127.setTop (mkF m 117 #[.val (.ref a1), .val (.ref a2), .val (.int rc)] [(.ref a1), (.ref a1)]))
    obtain ⟨T139, X139, e139, st139⟩ := getF X127 hx hZ hown (host := "") (Or.inl ww43) Via.refl e127 F132 (g := (mkF m 117 #[.val (.ref a1), .val (.ref a2), .val (.int rc)] [(.ref a1), (.ref a1)])) rfl rfl (hb hby d5d1open_117)
    refine OwnEnd.go (fun _ k => st139 _ k) ?_
    show OwnEnd p e below s _ _ _ (T139.setTop (mkF m 120 #[.val (.ref a1), .val (.ref a2), .val (.int rc)] [(.int (1 : Int32)), (.ref a1)]))
    refine OwnEnd.go (fun _ k => XS.iconst X139.here hx rfl (hb hby d5d1open_120) k) ?_
    show OwnEnd p e below s _ _ _ (T139.setTop (mkF m 121 #[.val (.ref a1), .val (.ref a2), .val (.int rc)] [(.int (1 : Int32)), (.int (1 : Int32)), (.ref a1)]))
    refine OwnEnd.go (fun _ k => XS.iadd X139.here hx rfl (hb hby d5d1open_121) rfl k) ?_
    show OwnEnd p e below s _ _ _ (T139.setTop (mkF m 122 #[.val (.ref a1), .val (.ref a2), .val (.int rc)] [(.int (2 : Int32)), (.ref a1)]))
    obtain ⟨T140, h140, X140, e140, W140, st140⟩ := putF X139 hx hZ hown (host := "") (Or.inl ww43) Via.refl e139 F132 F128 (Or.inl ww44) ww13 (ty := .int) (by decide) rfl rfl (g := (mkF m 122 #[.val (.ref a1), .val (.ref a2), .val (.int rc)] [(.int (2 : Int32)), (.ref a1)])) rfl rfl (hb hby d5d1open_122)
    have F141 := F128.wr W140
    have F142 := F129.other W140 (Or.inr (slot_ne (Or.inl ww23) (Or.inl ww44) (by decide) (t := (.array .int)) (t' := .int) (by decide) (by decide)))
    have F143 := F130.other W140 (Or.inr (slot_ne (Or.inl ww25) (Or.inl ww44) (by decide) (t := (.array .int)) (t' := .int) (by decide) (by decide)))
    have F144 := F131.other W140 (Or.inr (slot_ne (Or.inl ww32) (Or.inl ww44) (by decide) (t := .int) (t' := .int) (by decide) (by decide)))
    have F145 := F132.same W140
    have F146 := F133.other W140 (Or.inr (slot_ne (Or.inl ww46) (Or.inl ww44) (by decide) (t := .int) (t' := .int) (by decide) (by decide)))
    have F147 := F134.other W140 (Or.inr (slot_ne (Or.inl ww66) (Or.inl ww44) (by decide) (t := .int) (t' := .int) (by decide) (by decide)))
    have F148 := F135.other W140 (Or.inr (slot_ne (Or.inl ww68) (Or.inl ww44) (by decide) (t := .int) (t' := .int) (by decide) (by decide)))
    have F149 := F136.other W140 (Or.inr (slot_ne (Or.inl ww70) (Or.inl ww44) (by decide) (t := .int) (t' := .int) (by decide) (by decide)))
    have F150 := F138.other W140 (Ne.symm n1)
    have F151 := V127.other W140 (Ne.symm n2)
    have N140 := Fr.snoc X140 N127 ga
    have K140 := K127.wr W140 (Or.inl (List.mem_of_getElem? (i := 0) rfl))
    have Y140 := Nat.le_trans Y127 (Nat.le_of_eq W140.size.symm)
    have O140 := O127.wr W140 ga
    refine OwnEnd.go (fun _ k => st140 _ k) ?_
    show OwnEnd p e below s _ _ _ (T140.setTop (mkF m 125 #[.val (.ref a1), .val (.ref a2), .val (.int rc)] []))
    refine OwnEnd.go (fun _ k => XS.iloadN X140.here hx rfl (hb hby d5d1open_125) rfl  k) ?_
    show OwnEnd p e below s _ _ _ (T140.setTop (mkF m 126 #[.val (.ref a1), .val (.ref a2), .val (.int rc)] [(.int rc)]))
    refine ownRetI X140 hx hlk hret (hb hby d5d1open_126) (by decide) (by decide) ?_
    show Q5d1open Z a1 a2 bo bt rc o0 o1 t0 t1 er es ea xA xE xD h0 n0 _ T140.heap _
    rw [e140]
    exact ⟨rfl, N140, K140, ⟨ga, go, gt, n1, n2, n3, F141, F142, F143, F144, F145, ⟨_, F146⟩, F147, F148, F149, ⟨_, F150⟩, ⟨_, F151⟩⟩⟩
  · refine OwnEnd.go (fun _ k => Jvm.RoadKit.acmp (g := (mkF m 39 #[.val (.ref a1), .val (.ref a2), .val (.int rc)] [(.ref xE), (.ref a2)])) X106 hx rfl rfl rfl (pc0 := 39) (pc' := 42) (same := false) rfl (hb hby d5d1open_39) rfl (decide_eq_false fun q => ha107 (Value.ref.inj q)) (by decide) (by decide) k) ?_
    show OwnEnd p e below s _ _ _ (T106.setTop (mkF m 42 #[.val (.ref a1), .val (.ref a2), .val (.int rc)] []))
    refine OwnEnd.go (fun _ k => XS.aloadN X106.here hx rfl (hb hby d5d1open_42) rfl rfl k) ?_
    show OwnEnd p e below s _ _ _ (T106.setTop (mkF m 43 #[.val (.ref a1), .val (.ref a2), .val (.int rc)] [(.ref a2)]))
    obtain ⟨T152, X152, e152, st152⟩ := getS2 X106 hx hZ hown (host := "") (Or.inl ww49) Via.refl e106 (SD.ext O101.2) (g := (mkF m 43 #[.val (.ref a1), .val (.ref a2), .val (.int rc)] [(.ref a2)])) rfl (hb hby d5d1open_43)
    refine OwnEnd.go (fun _ k => st152 _ k) ?_
    show OwnEnd p e below s _ _ _ (T152.setTop (mkF m 46 #[.val (.ref a1), .val (.ref a2), .val (.int rc)] [(.ref xD), (.ref a2)]))
    refine OwnEnd.go (fun _ k => Jvm.RoadKit.acmp (g := (mkF m 46 #[.val (.ref a1), .val (.ref a2), .val (.int rc)] [(.ref xD), (.ref a2)])) X152 hx rfl rfl rfl (pc0 := 46) (pc' := 49) (same := true) rfl (hb hby d5d1open_46) rfl (decide_eq_true (congrArg Value.ref (hk.resolve_left ha107))) (by decide) (by decide) k) ?_
    show OwnEnd p e below s _ _ _ (T152.setTop (mkF m 49 #[.val (.ref a1), .val (.ref a2), .val (.int rc)] []))
    refine OwnEnd.go (fun _ k => XS.aloadN X152.here hx rfl (hb hby d5d1open_49) rfl rfl k) ?_
    show OwnEnd p e below s _ _ _ (T152.setTop (mkF m 50 #[.val (.ref a1), .val (.ref a2), .val (.int rc)] [(.ref a1)]))
    obtain ⟨T153, X153, e153, st153⟩ := getF X152 hx hZ hown (host := "") (Or.inl ww43) Via.refl e152 F_dp (g := (mkF m 50 #[.val (.ref a1), .val (.ref a2), .val (.int rc)] [(.ref a1)])) rfl rfl (hb hby d5d1open_50)
    refine OwnEnd.go (fun _ k => st153 _ k) ?_
    show OwnEnd p e below s _ _ _ (T153.setTop (mkF m 53 #[.val (.ref a1), .val (.ref a2), .val (.int rc)] [(.int (1 : Int32))]))
    refine OwnEnd.go (fun _ k => XS.aloadN X153.here hx rfl (hb hby d5d1open_53) rfl rfl k) ?_
    show OwnEnd p e below s _ _ _ (T153.setTop (mkF m 54 #[.val (.ref a1), .val (.ref a2), .val (.int rc)] [(.ref a1), (.int (1 : Int32))]))
    obtain ⟨T154, X154, e154, st154⟩ := getF X153 hx hZ hown (host := "") (Or.inl ww22) Via.refl e153 F_open (g := (mkF m 54 #[.val (.ref a1), .val (.ref a2), .val (.int rc)] [(.ref a1), (.int (1 : Int32))])) rfl rfl (hb hby d5d1open_54)
    refine OwnEnd.go (fun _ k => st154 _ k) ?_
    show OwnEnd p e below s _ _ _ (T154.setTop (mkF m 57 #[.val (.ref a1), .val (.ref a2), .val (.int rc)] [(.ref bo), (.int (1 : Int32))]))
    obtain ⟨c155, Ar155, q155, S155, G155, H155, J155⟩ := id V_o
    refine OwnEnd.go (fun _ k => ownLen X154 hx hZ e154 Ar155 S155 G155 (g := (mkF m 57 #[.val (.ref a1), .val (.ref a2), .val (.int rc)] [(.ref bo), (.int (1 : Int32))])) rfl rfl (hb hby d5d1open_57) _ k) ?_
    show OwnEnd p e below s _ _ _ (T154.setTop (mkF m 58 #[.val (.ref a1), .val (.ref a2), .val (.int rc)] [(.int (8 : Int32)), (.int (1 : Int32))]))
    refine OwnEnd.go (fun _ k => XS.icmpYes X154.here hx rfl (pc0 := 58) (pc' := 95) rfl (hb hby d5d1open_58) rfl (feq (by decide : ¬ (1 : Int32) = (8 : Int32))).2 (by decide) (by decide) k) ?_
    show OwnEnd p e below s _ _ _ (T154.setTop (mkF m 95 #[.val (.ref a1), .val (.ref a2), .val (.int rc)] []))
    refine OwnEnd.go (fun _ k => XS.aloadN X154.here hx rfl (hb hby d5d1open_95) rfl rfl k) ?_
    show OwnEnd p e below s _ _ _ (T154.setTop (mkF m 96 #[.val (.ref a1), .val (.ref a2), .val (.int rc)] [(.ref a1)]))
    obtain ⟨T156, X156, e156, st156⟩ := getF X154 hx hZ hown (host := "") (Or.inl ww22) Via.refl e154 F_open (g := (mkF m 96 #[.val (.ref a1), .val (.ref a2), .val (.int rc)] [(.ref a1)])) rfl rfl (hb hby d5d1open_96)
    refine OwnEnd.go (fun _ k => st156 _ k) ?_
    show OwnEnd p e below s _ _ _ (T156.setTop (mkF m 99 #[.val (.ref a1), .val (.ref a2), .val (.int rc)] [(.ref bo)]))
    refine OwnEnd.go (fun _ k => XS.aloadN X156.here hx rfl (hb hby d5d1open_99) rfl rfl k) ?_
    show OwnEnd p e below s _ _ _ (T156.setTop (mkF m 100 #[.val (.ref a1), .val (.ref a2), .val (.int rc)] [(.ref a1), (.ref bo)]))
    obtain ⟨T157, X157, e157, st157⟩ := getF X156 hx hZ hown (host := "") (Or.inl ww43) Via.refl e156 F_dp (g := (mkF m 100 #[.val (.ref a1), .val (.ref a2), .val (.int rc)] [(.ref a1), (.ref bo)])) rfl rfl (hb hby d5d1open_100)
    refine OwnEnd.go (fun _ k => st157 _ k) ?_
    show OwnEnd p e below s _ _ _ (T157.setTop (mkF m 103 #[.val (.ref a1), .val (.ref a2), .val (.int rc)] [(.int (1 : Int32)), (.ref bo)]))
    refine OwnEnd.go (fun _ k => XS.iloadN X157.here hx rfl (hb hby d5d1open_103) rfl  k) ?_
    show OwnEnd p e below s _ _ _ (T157.setTop (mkF m 104 #[.val (.ref a1), .val (.ref a2), .val (.int rc)] [(.int rc), (.int (1 : Int32)), (.ref bo)]))
    obtain ⟨c158, Ar158, q158, S158, G158, H158, J158⟩ := id V_o
    obtain ⟨T158, h158, X158, e158, W158, st158⟩ := stI X157 hx hZ e157 Ar158 (j := (1 : Int32)) (inb_of S158 ⟨by decide, by decide⟩) (g := (mkF m 104 #[.val (.ref a1), .val (.ref a2), .val (.int rc)] [(.int rc), (.int (1 : Int32)), (.ref bo)])) rfl rfl (hb hby d5d1open_104)
    have V158 : Arv Z h158 bo ko .int (8 : Int32) [(.int o0), (.int rc), (.int (0 : Int32)), (.int (0 : Int32)), (.int (0 : Int32)), (.int (0 : Int32)), (.int (0 : Int32)), (.int (0 : Int32))] (.int (0 : Int32)) := Arv.set Ar158 q158 S158 G158 H158 J158 rfl W158 1 rfl (Nat.le_of_ble_eq_true rfl)
    have F159 := E2.wr W158
    have F160 := F_open.other W158 (Or.inl n1)
    have F161 := F_attr.other W158 (Or.inl n1)
    have F162 := F_rc.other W158 (Or.inl n1)
    have F163 := F_dp.other W158 (Or.inl n1)
    have F164 := F_di.other W158 (Or.inl n1)
    have F165 := F_er.other W158 (Or.inl n1)
    have F166 := F_es.other W158 (Or.inl n1)
    have F167 := F_ea.other W158 (Or.inl n1)
    have F169 := V_t.other W158 (Ne.symm n3)
    have N158 := Fr.snoc X158 N101 go
    have K158 := K101.wr W158 (Or.inl (List.mem_of_getElem? (i := 1) rfl))
    have Y158 := Nat.le_trans Y101 (Nat.le_of_eq W158.size.symm)
    have O158 := O101.wr W158 go
    refine OwnEnd.go (fun _ k => st158 _ k) ?_
    show OwnEnd p e below s _ _ _ (T158.setTop (mkF m 105 #[.val (.ref a1), .val (.ref a2), .val (.int rc)] []))
    refine OwnEnd.go (fun _ k => XS.aloadN X158.here hx rfl (hb hby d5d1open_105) rfl rfl k) ?_
    show OwnEnd p e below s _ _ _ (T158.setTop (mkF m 106 #[.val (.ref a1), .val (.ref a2), .val (.int rc)] [(.ref a1)]))
    obtain ⟨T170, X170, e170, st170⟩ := getF X158 hx hZ hown (host := "") (Or.inl ww24) Via.refl e158 F161 (g := (mkF m 106 #[.val (.ref a1), .val (.ref a2), .val (.int rc)] [(.ref a1)])) rfl rfl (hb hby d5d1open_106)
    refine OwnEnd.go (fun _ k => st170 _ k) ?_
    show OwnEnd p e below s _ _ _ (T170.setTop (mkF m 109 #[.val (.ref a1), .val (.ref a2), .val (.int rc)] [(.ref bt)]))
    refine OwnEnd.go (fun _ k => XS.aloadN X170.here hx rfl (hb hby d5d1open_109) rfl rfl k) ?_
    show OwnEnd p e below s _ _ _ (T170.setTop (mkF m 110 #[.val (.ref a1), .val (.ref a2), .val (.int rc)] [(.ref a1), (.ref bt)]))
    obtain ⟨T171, X171, e171, st171⟩ := getF X170 hx hZ hown (host := "") (Or.inl ww43) Via.refl e170 F163 (g := (mkF m 110 #[.val (.ref a1), .val (.ref a2), .val (.int rc)] [(.ref a1), (.ref bt)])) rfl rfl (hb hby d5d1open_110)
    refine OwnEnd.go (fun _ k => st171 _ k) ?_
    show OwnEnd p e below s _ _ _ (T171.setTop (mkF m 113 #[.val (.ref a1), .val (.ref a2), .val (.int rc)] [(.int (1 : Int32)), (.ref bt)]))
    refine OwnEnd.go (fun _ k => XS.iconst X171.here hx rfl (hb hby d5d1open_113) k) ?_
    show OwnEnd p e below s _ _ _ (T171.setTop (mkF m 114 #[.val (.ref a1), .val (.ref a2), .val (.int rc)] [(.int (0 : Int32)), (.int (1 : Int32)), (.ref bt)]))
    obtain ⟨c172, Ar172, q172, S172, G172, H172, J172⟩ := id F169
    obtain ⟨T172, h172, X172, e172, W172, st172⟩ := stI X171 hx hZ e171 Ar172 (j := (1 : Int32)) (inb_of S172 ⟨by decide, by decide⟩) (g := (mkF m 114 #[.val (.ref a1), .val (.ref a2), .val (.int rc)] [(.int (0 : Int32)), (.int (1 : Int32)), (.ref bt)])) rfl rfl (hb hby d5d1open_114)
    have V172 : Arv Z h172 bt kt .int (8 : Int32) [(.int t0), (.int (0 : Int32)), (.int (0 : Int32)), (.int (0 : Int32)), (.int (0 : Int32)), (.int (0 : Int32)), (.int (0 : Int32)), (.int (0 : Int32))] (.int (0 : Int32)) := Arv.set Ar172 q172 S172 G172 H172 J172 rfl W172 1 rfl (Nat.le_of_ble_eq_true rfl)
    have F173 := F159.wr W172
    have F174 := F160.other W172 (Or.inl n2)
    have F175 := F161.other W172 (Or.inl n2)
    have F176 := F162.other W172 (Or.inl n2)
    have F177 := F163.other W172 (Or.inl n2)
    have F178 := F164.other W172 (Or.inl n2)
    have F179 := F165.other W172 (Or.inl n2)
    have F180 := F166.other W172 (Or.inl n2)
    have F181 := F167.other W172 (Or.inl n2)
    have F183 := V158.other W172 n3
    have N172 := Fr.snoc X172 N158 gt
    have K172 := K158.wr W172 (Or.inl (List.mem_of_getElem? (i := 2) rfl))
    have Y172 := Nat.le_trans Y158 (Nat.le_of_eq W172.size.symm)
    have O172 := O158.wr W172 gt
    refine OwnEnd.go (fun _ k => st172 _ k) ?_
    show OwnEnd p e below s _ _ _ (T172.setTop (mkF m 115 #[.val (.ref a1), .val (.ref a2), .val (.int rc)] []))
    refine OwnEnd.go (fun _ k => XS.aloadN X172.here hx rfl (hb hby d5d1open_115) rfl rfl k) ?_
    show OwnEnd p e below s _ _ _ (T172.setTop (mkF m 116 #[.val (.ref a1), .val (.ref a2), .val (.int rc)] [(.ref a1)]))
    refine OwnEnd.go (fun _ k => XS.dup X172.here hx rfl (hb hby d5d1open_116) rfl rfl k) ?_
    show OwnEnd p e below s _ _ _ (T172.setTop (mkF m 117 #[.val (.ref a1), .val (.ref a2), .val (.int rc)] [(.ref a1), (.ref a1)]))
    obtain ⟨T184, X184, e184, st184⟩ := getF X172 hx hZ hown (host := "") (Or.inl ww43) Via.refl e172 F177 (g := (mkF m 117 #[.val (.ref a1), .val (.ref a2), .val (.int rc)] [(.ref a1), (.ref a1)])) rfl rfl (hb hby d5d1open_117)
    refine OwnEnd.go (fun _ k => st184 _ k) ?_
    show OwnEnd p e below s _ _ _ (T184.setTop (mkF m 120 #[.val (.ref a1), .val (.ref a2), .val (.int rc)] [(.int (1 : Int32)), (.ref a1)]))
    refine OwnEnd.go (fun _ k => XS.iconst X184.here hx rfl (hb hby d5d1open_120) k) ?_
    show OwnEnd p e below s _ _ _ (T184.setTop (mkF m 121 #[.val (.ref a1), .val (.ref a2), .val (.int rc)] [(.int (1 : Int32)), (.int (1 : Int32)), (.ref a1)]))
    refine OwnEnd.go (fun _ k => XS.iadd X184.here hx rfl (hb hby d5d1open_121) rfl k) ?_
    show OwnEnd p e below s _ _ _ (T184.setTop (mkF m 122 #[.val (.ref a1), .val (.ref a2), .val (.int rc)] [(.int (2 : Int32)), (.ref a1)]))
    obtain ⟨T185, h185, X185, e185, W185, st185⟩ := putF X184 hx hZ hown (host := "") (Or.inl ww43) Via.refl e184 F177 F173 (Or.inl ww44) ww13 (ty := .int) (by decide) rfl rfl (g := (mkF m 122 #[.val (.ref a1), .val (.ref a2), .val (.int rc)] [(.int (2 : Int32)), (.ref a1)])) rfl rfl (hb hby d5d1open_122)
    have F186 := F173.wr W185
    have F187 := F174.other W185 (Or.inr (slot_ne (Or.inl ww23) (Or.inl ww44) (by decide) (t := (.array .int)) (t' := .int) (by decide) (by decide)))
    have F188 := F175.other W185 (Or.inr (slot_ne (Or.inl ww25) (Or.inl ww44) (by decide) (t := (.array .int)) (t' := .int) (by decide) (by decide)))
    have F189 := F176.other W185 (Or.inr (slot_ne (Or.inl ww32) (Or.inl ww44) (by decide) (t := .int) (t' := .int) (by decide) (by decide)))
    have F190 := F177.same W185
    have F191 := F178.other W185 (Or.inr (slot_ne (Or.inl ww46) (Or.inl ww44) (by decide) (t := .int) (t' := .int) (by decide) (by decide)))
    have F192 := F179.other W185 (Or.inr (slot_ne (Or.inl ww66) (Or.inl ww44) (by decide) (t := .int) (t' := .int) (by decide) (by decide)))
    have F193 := F180.other W185 (Or.inr (slot_ne (Or.inl ww68) (Or.inl ww44) (by decide) (t := .int) (t' := .int) (by decide) (by decide)))
    have F194 := F181.other W185 (Or.inr (slot_ne (Or.inl ww70) (Or.inl ww44) (by decide) (t := .int) (t' := .int) (by decide) (by decide)))
    have F195 := F183.other W185 (Ne.symm n1)
    have F196 := V172.other W185 (Ne.symm n2)
    have N185 := Fr.snoc X185 N172 ga
    have K185 := K172.wr W185 (Or.inl (List.mem_of_getElem? (i := 0) rfl))
    have Y185 := Nat.le_trans Y172 (Nat.le_of_eq W185.size.symm)
    have O185 := O172.wr W185 ga
    refine OwnEnd.go (fun _ k => st185 _ k) ?_
    show OwnEnd p e below s _ _ _ (T185.setTop (mkF m 125 #[.val (.ref a1), .val (.ref a2), .val (.int rc)] []))
    refine OwnEnd.go (fun _ k => XS.iloadN X185.here hx rfl (hb hby d5d1open_125) rfl  k) ?_
    show OwnEnd p e below s _ _ _ (T185.setTop (mkF m 126 #[.val (.ref a1), .val (.ref a2), .val (.int rc)] [(.int rc)]))
    refine ownRetI X185 hx hlk hret (hb hby d5d1open_126) (by decide) (by decide) ?_
    show Q5d1open Z a1 a2 bo bt rc o0 o1 t0 t1 er es ea xA xE xD h0 n0 _ T185.heap _
    rw [e185]
    exact ⟨rfl, N185, K185, ⟨ga, go, gt, n1, n2, n3, F186, F187, F188, F189, F190, ⟨_, F191⟩, F192, F193, F194, ⟨_, F195⟩, ⟨_, F196⟩⟩⟩
theorem d8d2_0 : decode prog_249_method_13_code 0 = .ok (.aload_n 0, 1) := by decide +kernel
theorem d8d2_1 : decode prog_249_method_13_code 1 = .ok (.getfield 26, 3) := by decide +kernel
theorem d8d2_4 : decode prog_249_method_13_code 4 = .ok (.ifCond .le 39, 3) := by decide +kernel
theorem d8d2_7 : decode prog_249_method_13_code 7 = .ok (.aload_n 0, 1) := by decide +kernel
theorem d8d2_8 : decode prog_249_method_13_code 8 = .ok (.getfield 42, 3) := by decide +kernel
theorem d8d2_11 : decode prog_249_method_13_code 11 = .ok (.aload_n 0, 1) := by decide +kernel
theorem d8d2_12 : decode prog_249_method_13_code 12 = .ok (.getfield 7, 3) := by decide +kernel
theorem d8d2_15 : decode prog_249_method_13_code 15 = .ok (.aload_n 0, 1) := by decide +kernel
theorem d8d2_16 : decode prog_249_method_13_code 16 = .ok (.getfield 26, 3) := by decide +kernel
theorem d8d2_19 : decode prog_249_method_13_code 19 = .ok (.iconst 1, 1) := by decide +kernel
theorem d8d2_20 : decode prog_249_method_13_code 20 = .ok (.isub, 1) := by decide +kernel
theorem d8d2_21 : decode prog_249_method_13_code 21 = .ok (.iaload, 1) := by decide +kernel
theorem d8d2_22 : decode prog_249_method_13_code 22 = .ok (.iconst 1, 1) := by decide +kernel
theorem d8d2_23 : decode prog_249_method_13_code 23 = .ok (.iadd, 1) := by decide +kernel
theorem d8d2_24 : decode prog_249_method_13_code 24 = .ok (.aload_n 0, 1) := by decide +kernel
theorem d8d2_25 : decode prog_249_method_13_code 25 = .ok (.getfield 13, 3) := by decide +kernel
theorem d8d2_28 : decode prog_249_method_13_code 28 = .ok (.aload_n 0, 1) := by decide +kernel
theorem d8d2_29 : decode prog_249_method_13_code 29 = .ok (.getfield 26, 3) := by decide +kernel
theorem d8d2_32 : decode prog_249_method_13_code 32 = .ok (.iconst 1, 1) := by decide +kernel
theorem d8d2_33 : decode prog_249_method_13_code 33 = .ok (.isub, 1) := by decide +kernel
theorem d8d2_34 : decode prog_249_method_13_code 34 = .ok (.iaload, 1) := by decide +kernel
theorem d8d2_35 : decode prog_249_method_13_code 35 = .ok (.iadd, 1) := by decide +kernel
theorem d8d2_36 : decode prog_249_method_13_code 36 = .ok (.if_icmp .ne 7, 3) := by decide +kernel
theorem d8d2_39 : decode prog_249_method_13_code 39 = .ok (.iconst 1, 1) := by decide +kernel
theorem d8d2_40 : decode prog_249_method_13_code 40 = .ok (.goto 4, 3) := by decide +kernel
theorem d8d2_43 : decode prog_249_method_13_code 43 = .ok (.iconst 0, 1) := by decide +kernel
theorem d8d2_44 : decode prog_249_method_13_code 44 = .ok (.ireturn, 1) := by decide +kernel
theorem pn_8d2 : plainName "com/example/rewoven_tree/rewoventree/storage/TableShape" = true := by first | (simp [plainName, overriddenIn]; done) | decide +kernel
theorem ef_8d2 (m : MethodId) (x0 : Addr) : entryFrame m #[(.ref x0)] 1 = mkF m 0 #[.val (.ref x0)] [] := by first | (simp [entryFrame, mkF, argsToLocals, Value.category]; done) | rfl
def Q8d2 (Z : State) (a1 : Addr) (bo : Addr) (bt : Addr) (rc : Int32) (o0 : Int32) (o1 : Int32) (t0 : Int32) (t1 : Int32) (er : Int32) (es : Int32) (ea : Int32) (h0 : Heap) (n0 : Nat) (v : Option Value) (h : Heap) (L : List Loc) : Prop := v = some (.int (own_isat rc o1 t1)) ∧ Fr n0 L ∧ h = h0
set_option maxRecDepth 65536 in
set_option maxHeartbeats 40000000 in
theorem rm8d2 (l : Launch) (Z : State) (a0 : Array Value) (hw : ∀ d ∈ tables_1, d.before a0 Z = true) (ws : List Jvm.Cond) (a1 : Addr) (bo : Addr) (bt : Addr) (rc : Int32) (o0 : Int32) (o1 : Int32) (t0 : Int32) (t1 : Int32) (er : Int32) (es : Int32) (ea : Int32) (h0 : Heap) (n0 : Nat) (Z0 : n0 ≤ h0.size) (B0 : ownTS Z h0 n0 a1 bo bt rc (2 : Int32) o0 o1 t0 t1 er es ea) :
    MetFree l (⟨"com/example/rewoven_tree/rewoventree/storage/TableShape", "isAtAttributes", "()Z"⟩ : MethodName) (head1 (Jvm.Cond.code (⟨"com/example/rewoven_tree/rewoventree/storage/TableShape", "isAtAttributes", "()Z"⟩ : MethodName) prog_249_method_13_code 1 (some .boolean) :: ws) ({ frames := 0, cells := 0, slots := 0, locals := 0 } : Room)) (fun a U => a = #[(.ref a1)] ∧ Z.Warmed39 U.vm ∧ U.heap = h0) (fun _ _ _ _ _ => True) (fun _ U o U' => ∃ v L, o = .returned v ∧ Q8d2 Z a1 bo bt rc o0 o1 t0 t1 er es ea h0 n0 v U'.heap L ∧ FrameEnd U o U' L ({ frames := 0, cells := 0, slots := 0, locals := 0 } : Room).cells ({ frames := 0, cells := 0, slots := 0, locals := 0 } : Room).slots) := by
  have ww22 := hw _ (List.mem_of_getElem? (i := 22) rfl)
  have ww24 := hw _ (List.mem_of_getElem? (i := 24) rfl)
  have ww31 := hw _ (List.mem_of_getElem? (i := 31) rfl)
  have ww43 := hw _ (List.mem_of_getElem? (i := 43) rfl)
  refine MetFree.of_bodySF (plainFor_of_name pn_8d2) hisR ?_
  intro p e s m args below meth c s₁ Bd hml0 hP hK
  obtain ⟨rfl, hZ, hh⟩ := hP
  have hx := Bd.exec
  have hby := Bd.bytes
  have hlk : meth.locks = false := Bd.notSynchronized
  have hret := Bd.returns
  have hml : c.maxLocals = 1 := hml0
  have hown : s.vm.findClass "com/example/rewoven_tree/rewoventree/storage/TableShape" = some m.cls := findClass_of_methodNamed Bd.named
  have hnm := (name_of_methodNamed Bd.named Bd.method).1
  have X0 : Stand p l e ({ frames := 0, cells := 0, slots := 0, locals := 0 } : Room) s m #[(.ref a1)] below meth c s₁ [] 0 0 := Stand.of_body Bd
  have e0 : s₁.heap = h0 := by rw [← hh, Bd.state]; rfl
  have N0 := Fr.nil n0
  have K0 := Keep.refl h0 []
  show OwnEnd p e below s (Q8d2 Z a1 bo bt rc o0 o1 t0 t1 er es ea h0 n0) ({ frames := 0, cells := 0, slots := 0, locals := 0 } : Room).cells ({ frames := 0, cells := 0, slots := 0, locals := 0 } : Room).slots _
  refine OwnEnd.go (fun _ k => castTop (ef_8d2 m a1) k) ?_
  obtain ⟨ga, go, gt, n1, n2, n3, E1, F_open, F_attr, F_rc, F_dp, ⟨di, F_di⟩, F_er, F_es, F_ea, ⟨ko, V_o⟩, ⟨kt, V_t⟩⟩ := B0
  show OwnEnd p e below s _ _ _ (s₁.setTop (mkF m 0 #[.val (.ref a1)] []))
  refine OwnEnd.go (fun _ k => XS.aloadN X0.here hx rfl (hb hby d8d2_0) rfl rfl k) ?_
  show OwnEnd p e below s _ _ _ (s₁.setTop (mkF m 1 #[.val (.ref a1)] [(.ref a1)]))
  obtain ⟨T101, X101, e101, st101⟩ := getF X0 hx hZ hown (host := "") (Or.inl ww43) Via.refl e0 F_dp (g := (mkF m 1 #[.val (.ref a1)] [(.ref a1)])) rfl rfl (hb hby d8d2_1)
  refine OwnEnd.go (fun _ k => st101 _ k) ?_
  show OwnEnd p e below s _ _ _ (T101.setTop (mkF m 4 #[.val (.ref a1)] [(.int (2 : Int32))]))
  refine OwnEnd.go (fun _ k => XS.ifNo X101.here hx rfl (hb hby d8d2_4) rfl ((if0 _ _).trans (tlt (by decide : (0 : Int32) < (2 : Int32))).2.2.2) k) ?_
  show OwnEnd p e below s _ _ _ (T101.setTop (mkF m 7 #[.val (.ref a1)] []))
  refine OwnEnd.go (fun _ k => XS.aloadN X101.here hx rfl (hb hby d8d2_7) rfl rfl k) ?_
  show OwnEnd p e below s _ _ _ (T101.setTop (mkF m 8 #[.val (.ref a1)] [(.ref a1)]))
  obtain ⟨T102, X102, e102, st102⟩ := getF X101 hx hZ hown (host := "") (Or.inl ww31) Via.refl e101 F_rc (g := (mkF m 8 #[.val (.ref a1)] [(.ref a1)])) rfl rfl (hb hby d8d2_8)
  refine OwnEnd.go (fun _ k => st102 _ k) ?_
  show OwnEnd p e below s _ _ _ (T102.setTop (mkF m 11 #[.val (.ref a1)] [(.int rc)]))
  refine OwnEnd.go (fun _ k => XS.aloadN X102.here hx rfl (hb hby d8d2_11) rfl rfl k) ?_
  show OwnEnd p e below s _ _ _ (T102.setTop (mkF m 12 #[.val (.ref a1)] [(.ref a1), (.int rc)]))
  obtain ⟨T103, X103, e103, st103⟩ := getF X102 hx hZ hown (host := "") (Or.inl ww22) Via.refl e102 F_open (g := (mkF m 12 #[.val (.ref a1)] [(.ref a1), (.int rc)])) rfl rfl (hb hby d8d2_12)
  refine OwnEnd.go (fun _ k => st103 _ k) ?_
  show OwnEnd p e below s _ _ _ (T103.setTop (mkF m 15 #[.val (.ref a1)] [(.ref bo), (.int rc)]))
  refine OwnEnd.go (fun _ k => XS.aloadN X103.here hx rfl (hb hby d8d2_15) rfl rfl k) ?_
  show OwnEnd p e below s _ _ _ (T103.setTop (mkF m 16 #[.val (.ref a1)] [(.ref a1), (.ref bo), (.int rc)]))
  obtain ⟨T104, X104, e104, st104⟩ := getF X103 hx hZ hown (host := "") (Or.inl ww43) Via.refl e103 F_dp (g := (mkF m 16 #[.val (.ref a1)] [(.ref a1), (.ref bo), (.int rc)])) rfl rfl (hb hby d8d2_16)
  refine OwnEnd.go (fun _ k => st104 _ k) ?_
  show OwnEnd p e below s _ _ _ (T104.setTop (mkF m 19 #[.val (.ref a1)] [(.int (2 : Int32)), (.ref bo), (.int rc)]))
  refine OwnEnd.go (fun _ k => XS.iconst X104.here hx rfl (hb hby d8d2_19) k) ?_
  show OwnEnd p e below s _ _ _ (T104.setTop (mkF m 20 #[.val (.ref a1)] [(.int (1 : Int32)), (.int (2 : Int32)), (.ref bo), (.int rc)]))
  refine OwnEnd.go (fun _ k => XS.isub X104.here hx rfl (hb hby d8d2_20) rfl k) ?_
  show OwnEnd p e below s _ _ _ (T104.setTop (mkF m 21 #[.val (.ref a1)] [(.int (1 : Int32)), (.ref bo), (.int rc)]))
  obtain ⟨c105, Ar105, q105, S105, G105, H105, J105⟩ := id V_o
  have i105 := inb_of (j := (1 : Int32)) S105 ⟨by decide, by decide⟩
  refine OwnEnd.go (fun _ k => X104.iaload hx (j := (1 : Int32)) (v := (.int o1)) (by rw [e104]; exact Ar105.1) (State.isArrayOf_alike hZ.alike Ar105.2.1) Ar105.2.2 i105 (Has.at H105 i105 rfl) (g := (mkF m 21 #[.val (.ref a1)] [(.int (1 : Int32)), (.ref bo), (.int rc)])) rfl rfl (hb hby d8d2_21) _ k) ?_
  show OwnEnd p e below s _ _ _ (T104.setTop (mkF m 22 #[.val (.ref a1)] [(.int o1), (.int rc)]))
  refine OwnEnd.go (fun _ k => XS.iconst X104.here hx rfl (hb hby d8d2_22) k) ?_
  show OwnEnd p e below s _ _ _ (T104.setTop (mkF m 23 #[.val (.ref a1)] [(.int (1 : Int32)), (.int o1), (.int rc)]))
  refine OwnEnd.go (fun _ k => XS.iadd X104.here hx rfl (hb hby d8d2_23) rfl k) ?_
  show OwnEnd p e below s _ _ _ (T104.setTop (mkF m 24 #[.val (.ref a1)] [(.int (o1 + (1 : Int32))), (.int rc)]))
  refine OwnEnd.go (fun _ k => XS.aloadN X104.here hx rfl (hb hby d8d2_24) rfl rfl k) ?_
  show OwnEnd p e below s _ _ _ (T104.setTop (mkF m 25 #[.val (.ref a1)] [(.ref a1), (.int (o1 + (1 : Int32))), (.int rc)]))
  obtain ⟨T106, X106, e106, st106⟩ := getF X104 hx hZ hown (host := "") (Or.inl ww24) Via.refl e104 F_attr (g := (mkF m 25 #[.val (.ref a1)] [(.ref a1), (.int (o1 + (1 : Int32))), (.int rc)])) rfl rfl (hb hby d8d2_25)
  refine OwnEnd.go (fun _ k => st106 _ k) ?_
  show OwnEnd p e below s _ _ _ (T106.setTop (mkF m 28 #[.val (.ref a1)] [(.ref bt), (.int (o1 + (1 : Int32))), (.int rc)]))
  refine OwnEnd.go (fun _ k => XS.aloadN X106.here hx rfl (hb hby d8d2_28) rfl rfl k) ?_
  show OwnEnd p e below s _ _ _ (T106.setTop (mkF m 29 #[.val (.ref a1)] [(.ref a1), (.ref bt), (.int (o1 + (1 : Int32))), (.int rc)]))
  obtain ⟨T107, X107, e107, st107⟩ := getF X106 hx hZ hown (host := "") (Or.inl ww43) Via.refl e106 F_dp (g := (mkF m 29 #[.val (.ref a1)] [(.ref a1), (.ref bt), (.int (o1 + (1 : Int32))), (.int rc)])) rfl rfl (hb hby d8d2_29)
  refine OwnEnd.go (fun _ k => st107 _ k) ?_
  show OwnEnd p e below s _ _ _ (T107.setTop (mkF m 32 #[.val (.ref a1)] [(.int (2 : Int32)), (.ref bt), (.int (o1 + (1 : Int32))), (.int rc)]))
  refine OwnEnd.go (fun _ k => XS.iconst X107.here hx rfl (hb hby d8d2_32) k) ?_
  show OwnEnd p e below s _ _ _ (T107.setTop (mkF m 33 #[.val (.ref a1)] [(.int (1 : Int32)), (.int (2 : Int32)), (.ref bt), (.int (o1 + (1 : Int32))), (.int rc)]))
  refine OwnEnd.go (fun _ k => XS.isub X107.here hx rfl (hb hby d8d2_33) rfl k) ?_
  show OwnEnd p e below s _ _ _ (T107.setTop (mkF m 34 #[.val (.ref a1)] [(.int (1 : Int32)), (.ref bt), (.int (o1 + (1 : Int32))), (.int rc)]))
  obtain ⟨c108, Ar108, q108, S108, G108, H108, J108⟩ := id V_t
  have i108 := inb_of (j := (1 : Int32)) S108 ⟨by decide, by decide⟩
  refine OwnEnd.go (fun _ k => X107.iaload hx (j := (1 : Int32)) (v := (.int t1)) (by rw [e107]; exact Ar108.1) (State.isArrayOf_alike hZ.alike Ar108.2.1) Ar108.2.2 i108 (Has.at H108 i108 rfl) (g := (mkF m 34 #[.val (.ref a1)] [(.int (1 : Int32)), (.ref bt), (.int (o1 + (1 : Int32))), (.int rc)])) rfl rfl (hb hby d8d2_34) _ k) ?_
  show OwnEnd p e below s _ _ _ (T107.setTop (mkF m 35 #[.val (.ref a1)] [(.int t1), (.int (o1 + (1 : Int32))), (.int rc)]))
  refine OwnEnd.go (fun _ k => XS.iadd X107.here hx rfl (hb hby d8d2_35) rfl k) ?_
  show OwnEnd p e below s _ _ _ (T107.setTop (mkF m 36 #[.val (.ref a1)] [(.int ((o1 + (1 : Int32)) + t1)), (.int rc)]))
  by_cases hc109 : rc = ((o1 + (1 : Int32)) + t1)
  · refine OwnEnd.go (fun _ k => XS.icmpNo X107.here hx rfl (hb hby d8d2_36) rfl (teq hc109).2 k) ?_
    show OwnEnd p e below s _ _ _ (T107.setTop (mkF m 39 #[.val (.ref a1)] []))
    refine OwnEnd.go (fun _ k => XS.iconst X107.here hx rfl (hb hby d8d2_39) k) ?_
    show OwnEnd p e below s _ _ _ (T107.setTop (mkF m 40 #[.val (.ref a1)] [(.int (1 : Int32))]))
    refine OwnEnd.go (fun _ k => XS.goto X107.here hx rfl (pc0 := 40) (pc' := 44) rfl (hb hby d8d2_40) (by decide) (by decide) k) ?_
    show OwnEnd p e below s _ _ _ (T107.setTop (mkF m 44 #[.val (.ref a1)] [(.int (1 : Int32))]))
    refine ownRetZ X107 hx hlk hret (hb hby d8d2_44) (by decide) (by decide) (1 : Int32) (by decide) ?_
    show Q8d2 Z a1 bo bt rc o0 o1 t0 t1 er es ea h0 n0 _ T107.heap _
    rw [e107]
    refine ⟨?_, N0, rfl⟩
    rw [own_isat_t hc109]
  · refine OwnEnd.go (fun _ k => XS.icmpYes X107.here hx rfl (pc0 := 36) (pc' := 43) rfl (hb hby d8d2_36) rfl (feq hc109).2 (by decide) (by decide) k) ?_
    show OwnEnd p e below s _ _ _ (T107.setTop (mkF m 43 #[.val (.ref a1)] []))
    refine OwnEnd.go (fun _ k => XS.iconst X107.here hx rfl (hb hby d8d2_43) k) ?_
    show OwnEnd p e below s _ _ _ (T107.setTop (mkF m 44 #[.val (.ref a1)] [(.int (0 : Int32))]))
    refine ownRetZ X107 hx hlk hret (hb hby d8d2_44) (by decide) (by decide) (0 : Int32) (by decide) ?_
    show Q8d2 Z a1 bo bt rc o0 o1 t0 t1 er es ea h0 n0 _ T107.heap _
    rw [e107]
    refine ⟨?_, N0, rfl⟩
    rw [own_isat_f hc109]
theorem d6d2_0 : decode prog_249_method_3_code 0 = .ok (.aload_n 0, 1) := by decide +kernel
theorem d6d2_1 : decode prog_249_method_3_code 1 = .ok (.getfield 42, 3) := by decide +kernel
theorem d6d2_4 : decode prog_249_method_3_code 4 = .ok (.istore_n 2, 1) := by decide +kernel
theorem d6d2_5 : decode prog_249_method_3_code 5 = .ok (.aload_n 0, 1) := by decide +kernel
theorem d6d2_6 : decode prog_249_method_3_code 6 = .ok (.aload_n 0, 1) := by decide +kernel
theorem d6d2_7 : decode prog_249_method_3_code 7 = .ok (.getfield 26, 3) := by decide +kernel
theorem d6d2_10 : decode prog_249_method_3_code 10 = .ok (.ifCond .ne 7, 3) := by decide +kernel
theorem d6d2_17 : decode prog_249_method_3_code 17 = .ok (.iload_n 2, 1) := by decide +kernel
theorem d6d2_18 : decode prog_249_method_3_code 18 = .ok (.aload_n 0, 1) := by decide +kernel
theorem d6d2_19 : decode prog_249_method_3_code 19 = .ok (.getfield 7, 3) := by decide +kernel
theorem d6d2_22 : decode prog_249_method_3_code 22 = .ok (.aload_n 0, 1) := by decide +kernel
theorem d6d2_23 : decode prog_249_method_3_code 23 = .ok (.getfield 26, 3) := by decide +kernel
theorem d6d2_26 : decode prog_249_method_3_code 26 = .ok (.iconst 1, 1) := by decide +kernel
theorem d6d2_27 : decode prog_249_method_3_code 27 = .ok (.isub, 1) := by decide +kernel
theorem d6d2_28 : decode prog_249_method_3_code 28 = .ok (.iaload, 1) := by decide +kernel
theorem d6d2_29 : decode prog_249_method_3_code 29 = .ok (.isub, 1) := by decide +kernel
theorem d6d2_30 : decode prog_249_method_3_code 30 = .ok (.putfield 45, 3) := by decide +kernel
theorem d6d2_33 : decode prog_249_method_3_code 33 = .ok (.aload_n 0, 1) := by decide +kernel
theorem d6d2_34 : decode prog_249_method_3_code 34 = .ok (.dup, 1) := by decide +kernel
theorem d6d2_35 : decode prog_249_method_3_code 35 = .ok (.getfield 42, 3) := by decide +kernel
theorem d6d2_38 : decode prog_249_method_3_code 38 = .ok (.iload_n 1, 1) := by decide +kernel
theorem d6d2_39 : decode prog_249_method_3_code 39 = .ok (.iadd, 1) := by decide +kernel
theorem d6d2_40 : decode prog_249_method_3_code 40 = .ok (.putfield 42, 3) := by decide +kernel
theorem d6d2_43 : decode prog_249_method_3_code 43 = .ok (.iload_n 2, 1) := by decide +kernel
theorem d6d2_44 : decode prog_249_method_3_code 44 = .ok (.ireturn, 1) := by decide +kernel
theorem pn_6d2 : plainName "com/example/rewoven_tree/rewoventree/storage/TableShape" = true := by first | (simp [plainName, overriddenIn]; done) | decide +kernel
theorem ef_6d2 (m : MethodId) (x0 : Addr) (x1 : Int32) : entryFrame m #[(.ref x0), (.int x1)] 3 = mkF m 0 #[.val (.ref x0), .val (.int x1), .unset] [] := by first | (simp [entryFrame, mkF, argsToLocals, Value.category]; done) | rfl
def Q6d2 (Z : State) (a1 : Addr) (p2 : Int32) (bo : Addr) (bt : Addr) (rc : Int32) (o0 : Int32) (o1 : Int32) (t0 : Int32) (t1 : Int32) (er : Int32) (es : Int32) (ea : Int32) (h0 : Heap) (n0 : Nat) (v : Option Value) (h : Heap) (L : List Loc) : Prop := v = some (.int rc) ∧ Fr n0 L ∧ Keep h0 h [a1, bo, bt] ∧ ownTS Z h n0 a1 bo bt (rc + p2) (2 : Int32) o0 o1 t0 t1 er es ea
set_option maxRecDepth 65536 in
set_option maxHeartbeats 40000000 in
theorem rm6d2 (l : Launch) (Z : State) (a0 : Array Value) (hw : ∀ d ∈ tables_1, d.before a0 Z = true) (ws : List Jvm.Cond) (a1 : Addr) (p2 : Int32) (bo : Addr) (bt : Addr) (rc : Int32) (o0 : Int32) (o1 : Int32) (t0 : Int32) (t1 : Int32) (er : Int32) (es : Int32) (ea : Int32) (h0 : Heap) (n0 : Nat) (Z0 : n0 ≤ h0.size) (B0 : ownTS Z h0 n0 a1 bo bt rc (2 : Int32) o0 o1 t0 t1 er es ea) :
    MetFree l (⟨"com/example/rewoven_tree/rewoventree/storage/TableShape", "placeSubtree", "(I)I"⟩ : MethodName) (head1 (Jvm.Cond.code (⟨"com/example/rewoven_tree/rewoventree/storage/TableShape", "placeSubtree", "(I)I"⟩ : MethodName) prog_249_method_3_code 3 (some .int) :: ws) ({ frames := 0, cells := 0, slots := 0, locals := 0 } : Room)) (fun a U => a = #[(.ref a1), (.int p2)] ∧ Z.Warmed39 U.vm ∧ U.heap = h0) (fun _ _ _ _ _ => True) (fun _ U o U' => ∃ v L, o = .returned v ∧ Q6d2 Z a1 p2 bo bt rc o0 o1 t0 t1 er es ea h0 n0 v U'.heap L ∧ FrameEnd U o U' L ({ frames := 0, cells := 0, slots := 0, locals := 0 } : Room).cells ({ frames := 0, cells := 0, slots := 0, locals := 0 } : Room).slots) := by
  have ww13 := hw _ (List.mem_of_getElem? (i := 13) rfl)
  have ww22 := hw _ (List.mem_of_getElem? (i := 22) rfl)
  have ww23 := hw _ (List.mem_of_getElem? (i := 23) rfl)
  have ww25 := hw _ (List.mem_of_getElem? (i := 25) rfl)
  have ww31 := hw _ (List.mem_of_getElem? (i := 31) rfl)
  have ww32 := hw _ (List.mem_of_getElem? (i := 32) rfl)
  have ww43 := hw _ (List.mem_of_getElem? (i := 43) rfl)
  have ww44 := hw _ (List.mem_of_getElem? (i := 44) rfl)
  have ww45 := hw _ (List.mem_of_getElem? (i := 45) rfl)
  have ww46 := hw _ (List.mem_of_getElem? (i := 46) rfl)
  have ww66 := hw _ (List.mem_of_getElem? (i := 66) rfl)
  have ww68 := hw _ (List.mem_of_getElem? (i := 68) rfl)
  have ww70 := hw _ (List.mem_of_getElem? (i := 70) rfl)
  refine MetFree.of_bodySF (plainFor_of_name pn_6d2) hisR ?_
  intro p e s m args below meth c s₁ Bd hml0 hP hK
  obtain ⟨rfl, hZ, hh⟩ := hP
  have hx := Bd.exec
  have hby := Bd.bytes
  have hlk : meth.locks = false := Bd.notSynchronized
  have hret := Bd.returns
  have hml : c.maxLocals = 3 := hml0
  have hown : s.vm.findClass "com/example/rewoven_tree/rewoventree/storage/TableShape" = some m.cls := findClass_of_methodNamed Bd.named
  have hnm := (name_of_methodNamed Bd.named Bd.method).1
  have X0 : Stand p l e ({ frames := 0, cells := 0, slots := 0, locals := 0 } : Room) s m #[(.ref a1), (.int p2)] below meth c s₁ [] 0 0 := Stand.of_body Bd
  have e0 : s₁.heap = h0 := by rw [← hh, Bd.state]; rfl
  have N0 := Fr.nil n0
  have K0 := Keep.refl h0 [a1, bo, bt]
  show OwnEnd p e below s (Q6d2 Z a1 p2 bo bt rc o0 o1 t0 t1 er es ea h0 n0) ({ frames := 0, cells := 0, slots := 0, locals := 0 } : Room).cells ({ frames := 0, cells := 0, slots := 0, locals := 0 } : Room).slots _
  refine OwnEnd.go (fun _ k => castTop (ef_6d2 m a1 p2) k) ?_
  obtain ⟨ga, go, gt, n1, n2, n3, E1, F_open, F_attr, F_rc, F_dp, ⟨di, F_di⟩, F_er, F_es, F_ea, ⟨ko, V_o⟩, ⟨kt, V_t⟩⟩ := B0
  show OwnEnd p e below s _ _ _ (s₁.setTop (mkF m 0 #[.val (.ref a1), .val (.int p2), .unset] []))
  refine OwnEnd.go (fun _ k => XS.aloadN X0.here hx rfl (hb hby d6d2_0) rfl rfl k) ?_
  show OwnEnd p e below s _ _ _ (s₁.setTop (mkF m 1 #[.val (.ref a1), .val (.int p2), .unset] [(.ref a1)]))
  obtain ⟨T101, X101, e101, st101⟩ := getF X0 hx hZ hown (host := "") (Or.inl ww31) Via.refl e0 F_rc (g := (mkF m 1 #[.val (.ref a1), .val (.int p2), .unset] [(.ref a1)])) rfl rfl (hb hby d6d2_1)
  refine OwnEnd.go (fun _ k => st101 _ k) ?_
  show OwnEnd p e below s _ _ _ (T101.setTop (mkF m 4 #[.val (.ref a1), .val (.int p2), .unset] [(.int rc)]))
  refine OwnEnd.go (fun _ k => XS.istoreN X101.here hx rfl (hb hby d6d2_4) rfl  (l' := #[.val (.ref a1), .val (.int p2), .val (.int rc)]) rfl k) ?_
  show OwnEnd p e below s _ _ _ (T101.setTop (mkF m 5 #[.val (.ref a1), .val (.int p2), .val (.int rc)] []))
  refine OwnEnd.go (fun _ k => XS.aloadN X101.here hx rfl (hb hby d6d2_5) rfl rfl k) ?_
  show OwnEnd p e below s _ _ _ (T101.setTop (mkF m 6 #[.val (.ref a1), .val (.int p2), .val (.int rc)] [(.ref a1)]))
  refine OwnEnd.go (fun _ k => XS.aloadN X101.here hx rfl (hb hby d6d2_6) rfl rfl k) ?_
  show OwnEnd p e below s _ _ _ (T101.setTop (mkF m 7 #[.val (.ref a1), .val (.int p2), .val (.int rc)] [(.ref a1), (.ref a1)]))
  obtain ⟨T102, X102, e102, st102⟩ := getF X101 hx hZ hown (host := "") (Or.inl ww43) Via.refl e101 F_dp (g := (mkF m 7 #[.val (.ref a1), .val (.int p2), .val (.int rc)] [(.ref a1), (.ref a1)])) rfl rfl (hb hby d6d2_7)
  refine OwnEnd.go (fun _ k => st102 _ k) ?_
  show OwnEnd p e below s _ _ _ (T102.setTop (mkF m 10 #[.val (.ref a1), .val (.int p2), .val (.int rc)] [(.int (2 : Int32)), (.ref a1)]))
  refine OwnEnd.go (fun _ k => XS.ifYes X102.here hx rfl (pc0 := 10) (pc' := 17) rfl (hb hby d6d2_10) rfl ((if0 _ _).trans (feq (by decide : ¬ (2 : Int32) = (0 : Int32))).2) (by decide) (by decide) k) ?_
  show OwnEnd p e below s _ _ _ (T102.setTop (mkF m 17 #[.val (.ref a1), .val (.int p2), .val (.int rc)] [(.ref a1)]))
  refine OwnEnd.go (fun _ k => XS.iloadN X102.here hx rfl (hb hby d6d2_17) rfl  k) ?_
  show OwnEnd p e below s _ _ _ (T102.setTop (mkF m 18 #[.val (.ref a1), .val (.int p2), .val (.int rc)] [(.int rc), (.ref a1)]))
  refine OwnEnd.go (fun _ k => XS.aloadN X102.here hx rfl (hb hby d6d2_18) rfl rfl k) ?_
  show OwnEnd p e below s _ _ _ (T102.setTop (mkF m 19 #[.val (.ref a1), .val (.int p2), .val (.int rc)] [(.ref a1), (.int rc), (.ref a1)]))
  obtain ⟨T103, X103, e103, st103⟩ := getF X102 hx hZ hown (host := "") (Or.inl ww22) Via.refl e102 F_open (g := (mkF m 19 #[.val (.ref a1), .val (.int p2), .val (.int rc)] [(.ref a1), (.int rc), (.ref a1)])) rfl rfl (hb hby d6d2_19)
  refine OwnEnd.go (fun _ k => st103 _ k) ?_
  show OwnEnd p e below s _ _ _ (T103.setTop (mkF m 22 #[.val (.ref a1), .val (.int p2), .val (.int rc)] [(.ref bo), (.int rc), (.ref a1)]))
  refine OwnEnd.go (fun _ k => XS.aloadN X103.here hx rfl (hb hby d6d2_22) rfl rfl k) ?_
  show OwnEnd p e below s _ _ _ (T103.setTop (mkF m 23 #[.val (.ref a1), .val (.int p2), .val (.int rc)] [(.ref a1), (.ref bo), (.int rc), (.ref a1)]))
  obtain ⟨T104, X104, e104, st104⟩ := getF X103 hx hZ hown (host := "") (Or.inl ww43) Via.refl e103 F_dp (g := (mkF m 23 #[.val (.ref a1), .val (.int p2), .val (.int rc)] [(.ref a1), (.ref bo), (.int rc), (.ref a1)])) rfl rfl (hb hby d6d2_23)
  refine OwnEnd.go (fun _ k => st104 _ k) ?_
  show OwnEnd p e below s _ _ _ (T104.setTop (mkF m 26 #[.val (.ref a1), .val (.int p2), .val (.int rc)] [(.int (2 : Int32)), (.ref bo), (.int rc), (.ref a1)]))
  refine OwnEnd.go (fun _ k => XS.iconst X104.here hx rfl (hb hby d6d2_26) k) ?_
  show OwnEnd p e below s _ _ _ (T104.setTop (mkF m 27 #[.val (.ref a1), .val (.int p2), .val (.int rc)] [(.int (1 : Int32)), (.int (2 : Int32)), (.ref bo), (.int rc), (.ref a1)]))
  refine OwnEnd.go (fun _ k => XS.isub X104.here hx rfl (hb hby d6d2_27) rfl k) ?_
  show OwnEnd p e below s _ _ _ (T104.setTop (mkF m 28 #[.val (.ref a1), .val (.int p2), .val (.int rc)] [(.int (1 : Int32)), (.ref bo), (.int rc), (.ref a1)]))
  obtain ⟨c105, Ar105, q105, S105, G105, H105, J105⟩ := id V_o
  have i105 := inb_of (j := (1 : Int32)) S105 ⟨by decide, by decide⟩
  refine OwnEnd.go (fun _ k => X104.iaload hx (j := (1 : Int32)) (v := (.int o1)) (by rw [e104]; exact Ar105.1) (State.isArrayOf_alike hZ.alike Ar105.2.1) Ar105.2.2 i105 (Has.at H105 i105 rfl) (g := (mkF m 28 #[.val (.ref a1), .val (.int p2), .val (.int rc)] [(.int (1 : Int32)), (.ref bo), (.int rc), (.ref a1)])) rfl rfl (hb hby d6d2_28) _ k) ?_
  show OwnEnd p e below s _ _ _ (T104.setTop (mkF m 29 #[.val (.ref a1), .val (.int p2), .val (.int rc)] [(.int o1), (.int rc), (.ref a1)]))
  refine OwnEnd.go (fun _ k => XS.isub X104.here hx rfl (hb hby d6d2_29) rfl k) ?_
  show OwnEnd p e below s _ _ _ (T104.setTop (mkF m 30 #[.val (.ref a1), .val (.int p2), .val (.int rc)] [(.int (rc - o1)), (.ref a1)]))
  obtain ⟨T106, h106, X106, e106, W106, st106⟩ := putF X104 hx hZ hown (host := "") (Or.inl ww45) Via.refl e104 F_di E1 (Or.inl ww46) ww13 (ty := .int) (by decide) rfl rfl (g := (mkF m 30 #[.val (.ref a1), .val (.int p2), .val (.int rc)] [(.int (rc - o1)), (.ref a1)])) rfl rfl (hb hby d6d2_30)
  have F108 := E1.wr W106
  have F109 := F_open.other W106 (Or.inr (slot_ne (Or.inl ww23) (Or.inl ww46) (by decide) (t := (.array .int)) (t' := .int) (by decide) (by decide)))
  have F110 := F_attr.other W106 (Or.inr (slot_ne (Or.inl ww25) (Or.inl ww46) (by decide) (t := (.array .int)) (t' := .int) (by decide) (by decide)))
  have F111 := F_rc.other W106 (Or.inr (slot_ne (Or.inl ww32) (Or.inl ww46) (by decide) (t := .int) (t' := .int) (by decide) (by decide)))
  have F112 := F_dp.other W106 (Or.inr (slot_ne (Or.inl ww44) (Or.inl ww46) (by decide) (t := .int) (t' := .int) (by decide) (by decide)))
  have F113 := F_di.same W106
  have F114 := F_er.other W106 (Or.inr (slot_ne (Or.inl ww66) (Or.inl ww46) (by decide) (t := .int) (t' := .int) (by decide) (by decide)))
  have F115 := F_es.other W106 (Or.inr (slot_ne (Or.inl ww68) (Or.inl ww46) (by decide) (t := .int) (t' := .int) (by decide) (by decide)))
  have F116 := F_ea.other W106 (Or.inr (slot_ne (Or.inl ww70) (Or.inl ww46) (by decide) (t := .int) (t' := .int) (by decide) (by decide)))
  have F117 := V_o.other W106 (Ne.symm n1)
  have F118 := V_t.other W106 (Ne.symm n2)
  have N106 := Fr.snoc X106 N0 ga
  have K106 := K0.wr W106 (Or.inl (List.mem_of_getElem? (i := 0) rfl))
  have Y106 := Nat.le_trans Z0 (Nat.le_of_eq W106.size.symm)
  refine OwnEnd.go (fun _ k => st106 _ k) ?_
  show OwnEnd p e below s _ _ _ (T106.setTop (mkF m 33 #[.val (.ref a1), .val (.int p2), .val (.int rc)] []))
  refine OwnEnd.go (fun _ k => XS.aloadN X106.here hx rfl (hb hby d6d2_33) rfl rfl k) ?_
  show OwnEnd p e below s _ _ _ (T106.setTop (mkF m 34 #[.val (.ref a1), .val (.int p2), .val (.int rc)] [(.ref a1)]))
  refine OwnEnd.go (fun _ k => XS.dup X106.here hx rfl (hb hby d6d2_34) rfl rfl k) ?_
  show OwnEnd p e below s _ _ _ (T106.setTop (mkF m 35 #[.val (.ref a1), .val (.int p2), .val (.int rc)] [(.ref a1), (.ref a1)]))
  obtain ⟨T119, X119, e119, st119⟩ := getF X106 hx hZ hown (host := "") (Or.inl ww31) Via.refl e106 F111 (g := (mkF m 35 #[.val (.ref a1), .val (.int p2), .val (.int rc)] [(.ref a1), (.ref a1)])) rfl rfl (hb hby d6d2_35)
  refine OwnEnd.go (fun _ k => st119 _ k) ?_
  show OwnEnd p e below s _ _ _ (T119.setTop (mkF m 38 #[.val (.ref a1), .val (.int p2), .val (.int rc)] [(.int rc), (.ref a1)]))
  refine OwnEnd.go (fun _ k => XS.iloadN X119.here hx rfl (hb hby d6d2_38) rfl  k) ?_
  show OwnEnd p e below s _ _ _ (T119.setTop (mkF m 39 #[.val (.ref a1), .val (.int p2), .val (.int rc)] [(.int p2), (.int rc), (.ref a1)]))
  refine OwnEnd.go (fun _ k => XS.iadd X119.here hx rfl (hb hby d6d2_39) rfl k) ?_
  show OwnEnd p e below s _ _ _ (T119.setTop (mkF m 40 #[.val (.ref a1), .val (.int p2), .val (.int rc)] [(.int (rc + p2)), (.ref a1)]))
  obtain ⟨T120, h120, X120, e120, W120, st120⟩ := putF X119 hx hZ hown (host := "") (Or.inl ww31) Via.refl e119 F111 F108 (Or.inl ww32) ww13 (ty := .int) (by decide) rfl rfl (g := (mkF m 40 #[.val (.ref a1), .val (.int p2), .val (.int rc)] [(.int (rc + p2)), (.ref a1)])) rfl rfl (hb hby d6d2_40)
  have F121 := F108.wr W120
  have F122 := F109.other W120 (Or.inr (slot_ne (Or.inl ww23) (Or.inl ww32) (by decide) (t := (.array .int)) (t' := .int) (by decide) (by decide)))
  have F123 := F110.other W120 (Or.inr (slot_ne (Or.inl ww25) (Or.inl ww32) (by decide) (t := (.array .int)) (t' := .int) (by decide) (by decide)))
  have F124 := F111.same W120
  have F125 := F112.other W120 (Or.inr (slot_ne (Or.inl ww44) (Or.inl ww32) (by decide) (t := .int) (t' := .int) (by decide) (by decide)))
  have F126 := F113.other W120 (Or.inr (slot_ne (Or.inl ww46) (Or.inl ww32) (by decide) (t := .int) (t' := .int) (by decide) (by decide)))
  have F127 := F114.other W120 (Or.inr (slot_ne (Or.inl ww66) (Or.inl ww32) (by decide) (t := .int) (t' := .int) (by decide) (by decide)))
  have F128 := F115.other W120 (Or.inr (slot_ne (Or.inl ww68) (Or.inl ww32) (by decide) (t := .int) (t' := .int) (by decide) (by decide)))
  have F129 := F116.other W120 (Or.inr (slot_ne (Or.inl ww70) (Or.inl ww32) (by decide) (t := .int) (t' := .int) (by decide) (by decide)))
  have F130 := F117.other W120 (Ne.symm n1)
  have F131 := F118.other W120 (Ne.symm n2)
  have N120 := Fr.snoc X120 N106 ga
  have K120 := K106.wr W120 (Or.inl (List.mem_of_getElem? (i := 0) rfl))
  have Y120 := Nat.le_trans Y106 (Nat.le_of_eq W120.size.symm)
  refine OwnEnd.go (fun _ k => st120 _ k) ?_
  show OwnEnd p e below s _ _ _ (T120.setTop (mkF m 43 #[.val (.ref a1), .val (.int p2), .val (.int rc)] []))
  refine OwnEnd.go (fun _ k => XS.iloadN X120.here hx rfl (hb hby d6d2_43) rfl  k) ?_
  show OwnEnd p e below s _ _ _ (T120.setTop (mkF m 44 #[.val (.ref a1), .val (.int p2), .val (.int rc)] [(.int rc)]))
  refine ownRetI X120 hx hlk hret (hb hby d6d2_44) (by decide) (by decide) ?_
  show Q6d2 Z a1 p2 bo bt rc o0 o1 t0 t1 er es ea h0 n0 _ T120.heap _
  rw [e120]
  exact ⟨rfl, N120, K120, ⟨ga, go, gt, n1, n2, n3, F121, F122, F123, F124, F125, ⟨_, F126⟩, F127, F128, F129, ⟨_, F130⟩, ⟨_, F131⟩⟩⟩
theorem d5d2attr_0 : decode prog_249_method_2_code 0 = .ok (.aload_n 0, 1) := by decide +kernel
theorem d5d2attr_1 : decode prog_249_method_2_code 1 = .ok (.iconst 1, 1) := by decide +kernel
theorem d5d2attr_2 : decode prog_249_method_2_code 2 = .ok (.invokevirtual 16, 3) := by decide +kernel
theorem d5d2attr_5 : decode prog_249_method_2_code 5 = .ok (.istore_n 2, 1) := by decide +kernel
theorem d5d2attr_6 : decode prog_249_method_2_code 6 = .ok (.aload_n 1, 1) := by decide +kernel
theorem d5d2attr_7 : decode prog_249_method_2_code 7 = .ok (.getstatic 20, 3) := by decide +kernel
theorem d5d2attr_10 : decode prog_249_method_2_code 10 = .ok (.if_acmp .ne 25, 3) := by decide +kernel
theorem d5d2attr_13 : decode prog_249_method_2_code 13 = .ok (.aload_n 0, 1) := by decide +kernel
theorem d5d2attr_14 : decode prog_249_method_2_code 14 = .ok (.getfield 26, 3) := by decide +kernel
theorem d5d2attr_17 : decode prog_249_method_2_code 17 = .ok (.ifCond .le 18, 3) := by decide +kernel
theorem d5d2attr_20 : decode prog_249_method_2_code 20 = .ok (.aload_n 0, 1) := by decide +kernel
theorem d5d2attr_21 : decode prog_249_method_2_code 21 = .ok (.getfield 13, 3) := by decide +kernel
theorem d5d2attr_24 : decode prog_249_method_2_code 24 = .ok (.aload_n 0, 1) := by decide +kernel
theorem d5d2attr_25 : decode prog_249_method_2_code 25 = .ok (.getfield 26, 3) := by decide +kernel
theorem d5d2attr_28 : decode prog_249_method_2_code 28 = .ok (.iconst 1, 1) := by decide +kernel
theorem d5d2attr_29 : decode prog_249_method_2_code 29 = .ok (.isub, 1) := by decide +kernel
theorem d5d2attr_30 : decode prog_249_method_2_code 30 = .ok (.dup2, 1) := by decide +kernel
theorem d5d2attr_31 : decode prog_249_method_2_code 31 = .ok (.iaload, 1) := by decide +kernel
theorem d5d2attr_32 : decode prog_249_method_2_code 32 = .ok (.iconst 1, 1) := by decide +kernel
theorem d5d2attr_33 : decode prog_249_method_2_code 33 = .ok (.iadd, 1) := by decide +kernel
theorem d5d2attr_34 : decode prog_249_method_2_code 34 = .ok (.iastore, 1) := by decide +kernel
theorem d5d2attr_35 : decode prog_249_method_2_code 35 = .ok (.aload_n 1, 1) := by decide +kernel
theorem d5d2attr_36 : decode prog_249_method_2_code 36 = .ok (.getstatic 30, 3) := by decide +kernel
theorem d5d2attr_39 : decode prog_249_method_2_code 39 = .ok (.if_acmp .eq 10, 3) := by decide +kernel
theorem d5d2attr_42 : decode prog_249_method_2_code 42 = .ok (.aload_n 1, 1) := by decide +kernel
theorem d5d2attr_43 : decode prog_249_method_2_code 43 = .ok (.getstatic 33, 3) := by decide +kernel
theorem d5d2attr_46 : decode prog_249_method_2_code 46 = .ok (.if_acmp .ne 79, 3) := by decide +kernel
theorem d5d2attr_125 : decode prog_249_method_2_code 125 = .ok (.iload_n 2, 1) := by decide +kernel
theorem d5d2attr_126 : decode prog_249_method_2_code 126 = .ok (.ireturn, 1) := by decide +kernel
theorem pn_5d2attr : plainName "com/example/rewoven_tree/rewoventree/storage/TableShape" = true := by first | (simp [plainName, overriddenIn]; done) | decide +kernel
theorem pd5d2attr_0 : parseMethodDescriptor "(I)I" = some ⟨[.int], some .int⟩ := by decide +kernel
theorem ef_5d2attr (m : MethodId) (x0 : Addr) (x1 : Addr) : entryFrame m #[(.ref x0), (.ref x1)] 3 = mkF m 0 #[.val (.ref x0), .val (.ref x1), .unset] [] := by first | (simp [entryFrame, mkF, argsToLocals, Value.category]; done) | rfl
def Q5d2attr (Z : State) (a1 : Addr) (a2 : Addr) (bo : Addr) (bt : Addr) (rc : Int32) (o0 : Int32) (o1 : Int32) (t0 : Int32) (t1 : Int32) (er : Int32) (es : Int32) (ea : Int32) (xA : Addr) (xE : Addr) (xD : Addr) (h0 : Heap) (n0 : Nat) (v : Option Value) (h : Heap) (L : List Loc) : Prop := v = some (.int rc) ∧ Fr n0 L ∧ Keep h0 h [a1, bo, bt] ∧ ownTS Z h n0 a1 bo bt (rc + (1 : Int32)) (2 : Int32) o0 o1 t0 (t1 + (1 : Int32)) er es ea
set_option maxRecDepth 65536 in
set_option maxHeartbeats 40000000 in
theorem rm5d2attr (l : Launch) (Z : State) (a0 : Array Value) (hw : ∀ d ∈ tables_1, d.before a0 Z = true) (ws : List Jvm.Cond) (a1 : Addr) (a2 : Addr) (bo : Addr) (bt : Addr) (rc : Int32) (o0 : Int32) (o1 : Int32) (t0 : Int32) (t1 : Int32) (er : Int32) (es : Int32) (ea : Int32) (xA : Addr) (xE : Addr) (xD : Addr) (h0 : Heap) (n0 : Nat) (Z0 : n0 ≤ h0.size) (O0 : Old Z n0 h0) (SA : Sta Z Z.heap "com/example/rewoven_tree/rewoventree/storage/NodeKind" "ATTRIBUTE" "Lcom/example/rewoven_tree/rewoventree/storage/NodeKind;" (.ref xA)) (SE : Sta Z Z.heap "com/example/rewoven_tree/rewoventree/storage/NodeKind" "ELEMENT" "Lcom/example/rewoven_tree/rewoventree/storage/NodeKind;" (.ref xE)) (SD : Sta Z Z.heap "com/example/rewoven_tree/rewoventree/storage/NodeKind" "DOCUMENT" "Lcom/example/rewoven_tree/rewoventree/storage/NodeKind;" (.ref xD)) (hk : a2 = xA) (nE : a2 ≠ xE) (nD : a2 ≠ xD) (B0 : ownTS Z h0 n0 a1 bo bt rc (2 : Int32) o0 o1 t0 t1 er es ea) :
    MetFree l (⟨"com/example/rewoven_tree/rewoventree/storage/TableShape", "place", "(Lcom/example/rewoven_tree/rewoventree/storage/NodeKind;)I"⟩ : MethodName) (head1 (Jvm.Cond.code (⟨"com/example/rewoven_tree/rewoventree/storage/TableShape", "place", "(Lcom/example/rewoven_tree/rewoventree/storage/NodeKind;)I"⟩ : MethodName) prog_249_method_2_code 3 (some .int) :: ws) ({ frames := 1, cells := 0, slots := 0, locals := 14 } : Room)) (fun a U => a = #[(.ref a1), (.ref a2)] ∧ Z.Warmed39 U.vm ∧ U.heap = h0) (fun _ _ _ _ _ => True) (fun _ U o U' => ∃ v L, o = .returned v ∧ Q5d2attr Z a1 a2 bo bt rc o0 o1 t0 t1 er es ea xA xE xD h0 n0 v U'.heap L ∧ FrameEnd U o U' L ({ frames := 1, cells := 0, slots := 0, locals := 14 } : Room).cells ({ frames := 1, cells := 0, slots := 0, locals := 14 } : Room).slots) := by
  have ww14 := hw _ (List.mem_of_getElem? (i := 14) rfl)
  have ww24 := hw _ (List.mem_of_getElem? (i := 24) rfl)
  have ww38 := hw _ (List.mem_of_getElem? (i := 38) rfl)
  have ww39 := hw _ (List.mem_of_getElem? (i := 39) rfl)
  have ww40 := hw _ (List.mem_of_getElem? (i := 40) rfl)
  have ww41 := hw _ (List.mem_of_getElem? (i := 41) rfl)
  have ww42 := hw _ (List.mem_of_getElem? (i := 42) rfl)
  have ww43 := hw _ (List.mem_of_getElem? (i := 43) rfl)
  have ww47 := hw _ (List.mem_of_getElem? (i := 47) rfl)
  have ww48 := hw _ (List.mem_of_getElem? (i := 48) rfl)
  have ww49 := hw _ (List.mem_of_getElem? (i := 49) rfl)
  refine MetFree.of_bodySF (plainFor_of_name pn_5d2attr) hisR ?_
  intro p e s m args below meth c s₁ Bd hml0 hP hK
  obtain ⟨rfl, hZ, hh⟩ := hP
  have hx := Bd.exec
  have hby := Bd.bytes
  have hlk : meth.locks = false := Bd.notSynchronized
  have hret := Bd.returns
  have hml : c.maxLocals = 3 := hml0
  have hown : s.vm.findClass "com/example/rewoven_tree/rewoventree/storage/TableShape" = some m.cls := findClass_of_methodNamed Bd.named
  have hnm := (name_of_methodNamed Bd.named Bd.method).1
  have X0 : Stand p l e ({ frames := 1, cells := 0, slots := 0, locals := 14 } : Room) s m #[(.ref a1), (.ref a2)] below meth c s₁ [] 0 0 := Stand.of_body Bd
  have e0 : s₁.heap = h0 := by rw [← hh, Bd.state]; rfl
  have N0 := Fr.nil n0
  have K0 := Keep.refl h0 [a1, bo, bt]
  show OwnEnd p e below s (Q5d2attr Z a1 a2 bo bt rc o0 o1 t0 t1 er es ea xA xE xD h0 n0) ({ frames := 1, cells := 0, slots := 0, locals := 14 } : Room).cells ({ frames := 1, cells := 0, slots := 0, locals := 14 } : Room).slots _
  refine OwnEnd.go (fun _ k => castTop (ef_5d2attr m a1 a2) k) ?_
  have E1 := B0.2.2.2.2.2.2.1
  have ga := B0.1
  have go := B0.2.1
  have gt := B0.2.2.1
  show OwnEnd p e below s _ _ _ (s₁.setTop (mkF m 0 #[.val (.ref a1), .val (.ref a2), .unset] []))
  refine OwnEnd.go (fun _ k => XS.aloadN X0.here hx rfl (hb hby d5d2attr_0) rfl rfl k) ?_
  show OwnEnd p e below s _ _ _ (s₁.setTop (mkF m 1 #[.val (.ref a1), .val (.ref a2), .unset] [(.ref a1)]))
  refine OwnEnd.go (fun _ k => XS.iconst X0.here hx rfl (hb hby d5d2attr_1) k) ?_
  show OwnEnd p e below s _ _ _ (s₁.setTop (mkF m 2 #[.val (.ref a1), .val (.ref a2), .unset] [(.int (1 : Int32)), (.ref a1)]))
  obtain ⟨_, T101, L101, X101, hQ101, st101⟩ := ownCallV X0 hx hZ hown ww38 ww39 ww41 ww40 ww14 ww42 (by decide) (rm6d2 l Z a0 hw [] a1 (1 : Int32) bo bt rc o0 o1 t0 t1 er es ea h0 n0 Z0  B0) e0 E1 0 (by decide) (by decide) (by decide) (by decide) (g := (mkF m 2 #[.val (.ref a1), .val (.ref a2), .unset] [(.int (1 : Int32)), (.ref a1)])) rfl (by rw [hml]; rfl) (argsL := [(.int (1 : Int32))]) (rest := []) (lenOf pd5d2attr_0 rfl) rfl rfl (by show 2 * 0 + _ ≤ _; exact Nat.le_of_eq rfl) (hb hby d5d2attr_2)
  obtain ⟨rfl, N101q, K101q, P102⟩ := hQ101
  have N101 := Fr.app N0 N101q
  have F104 := E1.keep K101q
  have K101 := K0.trans K101q (allS (Or.inl (List.mem_of_getElem? (i := 0) rfl)) (allS (Or.inl (List.mem_of_getElem? (i := 1) rfl)) (allS (Or.inl (List.mem_of_getElem? (i := 2) rfl)) all0)))
  have Y101 := Nat.le_trans Z0 K101q.1
  have O101 := O0.keep K101q (allS ga (allS go (allS gt all0)))
  refine OwnEnd.go (fun _ k => st101 _ k) ?_
  obtain ⟨-, -, -, n1, n2, n3, E2, F_open, F_attr, F_rc, F_dp, ⟨di, F_di⟩, F_er, F_es, F_ea, ⟨ko, V_o⟩, ⟨kt, V_t⟩⟩ := P102
  show OwnEnd p e below s _ _ _ (T101.setTop (mkF m 5 #[.val (.ref a1), .val (.ref a2), .unset] [(.int rc)]))
  refine OwnEnd.go (fun _ k => XS.istoreN X101.here hx rfl (hb hby d5d2attr_5) rfl  (l' := #[.val (.ref a1), .val (.ref a2), .val (.int rc)]) rfl k) ?_
  show OwnEnd p e below s _ _ _ (T101.setTop (mkF m 6 #[.val (.ref a1), .val (.ref a2), .val (.int rc)] []))
  refine OwnEnd.go (fun _ k => XS.aloadN X101.here hx rfl (hb hby d5d2attr_6) rfl rfl k) ?_
  show OwnEnd p e below s _ _ _ (T101.setTop (mkF m 7 #[.val (.ref a1), .val (.ref a2), .val (.int rc)] [(.ref a2)]))
  obtain ⟨T105, X105, e105, st105⟩ := getS2 X101 hx hZ hown (host := "") (Or.inl ww47) Via.refl (rfl : T101.heap = T101.heap) (SA.ext O101.2) (g := (mkF m 7 #[.val (.ref a1), .val (.ref a2), .val (.int rc)] [(.ref a2)])) rfl (hb hby d5d2attr_7)
  refine OwnEnd.go (fun _ k => st105 _ k) ?_
  show OwnEnd p e below s _ _ _ (T105.setTop (mkF m 10 #[.val (.ref a1), .val (.ref a2), .val (.int rc)] [(.ref xA), (.ref a2)]))
  refine OwnEnd.go (fun _ k => Jvm.RoadKit.acmp (g := (mkF m 10 #[.val (.ref a1), .val (.ref a2), .val (.int rc)] [(.ref xA), (.ref a2)])) X105 hx rfl rfl rfl (pc0 := 10) (pc' := 13) (same := true) rfl (hb hby d5d2attr_10) rfl (decide_eq_true (congrArg Value.ref hk)) (by decide) (by decide) k) ?_
  show OwnEnd p e below s _ _ _ (T105.setTop (mkF m 13 #[.val (.ref a1), .val (.ref a2), .val (.int rc)] []))
  refine OwnEnd.go (fun _ k => XS.aloadN X105.here hx rfl (hb hby d5d2attr_13) rfl rfl k) ?_
  show OwnEnd p e below s _ _ _ (T105.setTop (mkF m 14 #[.val (.ref a1), .val (.ref a2), .val (.int rc)] [(.ref a1)]))
  obtain ⟨T106, X106, e106, st106⟩ := getF X105 hx hZ hown (host := "") (Or.inl ww43) Via.refl e105 F_dp (g := (mkF m 14 #[.val (.ref a1), .val (.ref a2), .val (.int rc)] [(.ref a1)])) rfl rfl (hb hby d5d2attr_14)
  refine OwnEnd.go (fun _ k => st106 _ k) ?_
  show OwnEnd p e below s _ _ _ (T106.setTop (mkF m 17 #[.val (.ref a1), .val (.ref a2), .val (.int rc)] [(.int (2 : Int32))]))
  refine OwnEnd.go (fun _ k => XS.ifNo X106.here hx rfl (hb hby d5d2attr_17) rfl ((if0 _ _).trans (tlt (by decide : (0 : Int32) < (2 : Int32))).2.2.2) k) ?_
  show OwnEnd p e below s _ _ _ (T106.setTop (mkF m 20 #[.val (.ref a1), .val (.ref a2), .val (.int rc)] []))
  refine OwnEnd.go (fun _ k => XS.aloadN X106.here hx rfl (hb hby d5d2attr_20) rfl rfl k) ?_
  show OwnEnd p e below s _ _ _ (T106.setTop (mkF m 21 #[.val (.ref a1), .val (.ref a2), .val (.int rc)] [(.ref a1)]))
  obtain ⟨T107, X107, e107, st107⟩ := getF X106 hx hZ hown (host := "") (Or.inl ww24) Via.refl e106 F_attr (g := (mkF m 21 #[.val (.ref a1), .val (.ref a2), .val (.int rc)] [(.ref a1)])) rfl rfl (hb hby d5d2attr_21)
  refine OwnEnd.go (fun _ k => st107 _ k) ?_
  show OwnEnd p e below s _ _ _ (T107.setTop (mkF m 24 #[.val (.ref a1), .val (.ref a2), .val (.int rc)] [(.ref bt)]))
  refine OwnEnd.go (fun _ k => XS.aloadN X107.here hx rfl (hb hby d5d2attr_24) rfl rfl k) ?_
  show OwnEnd p e below s _ _ _ (T107.setTop (mkF m 25 #[.val (.ref a1), .val (.ref a2), .val (.int rc)] [(.ref a1), (.ref bt)]))
  obtain ⟨T108, X108, e108, st108⟩ := getF X107 hx hZ hown (host := "") (Or.inl ww43) Via.refl e107 F_dp (g := (mkF m 25 #[.val (.ref a1), .val (.ref a2), .val (.int rc)] [(.ref a1), (.ref bt)])) rfl rfl (hb hby d5d2attr_25)
  refine OwnEnd.go (fun _ k => st108 _ k) ?_
  show OwnEnd p e below s _ _ _ (T108.setTop (mkF m 28 #[.val (.ref a1), .val (.ref a2), .val (.int rc)] [(.int (2 : Int32)), (.ref bt)]))
  refine OwnEnd.go (fun _ k => XS.iconst X108.here hx rfl (hb hby d5d2attr_28) k) ?_
  show OwnEnd p e below s _ _ _ (T108.setTop (mkF m 29 #[.val (.ref a1), .val (.ref a2), .val (.int rc)] [(.int (1 : Int32)), (.int (2 : Int32)), (.ref bt)]))
  refine OwnEnd.go (fun _ k => XS.isub X108.here hx rfl (hb hby d5d2attr_29) rfl k) ?_
  show OwnEnd p e below s _ _ _ (T108.setTop (mkF m 30 #[.val (.ref a1), .val (.ref a2), .val (.int rc)] [(.int (1 : Int32)), (.ref bt)]))
  refine OwnEnd.go (fun _ k => XT.dup2 X108.here hx rfl (hb hby d5d2attr_30) rfl rfl rfl k) ?_
  show OwnEnd p e below s _ _ _ (T108.setTop (mkF m 31 #[.val (.ref a1), .val (.ref a2), .val (.int rc)] [(.int (1 : Int32)), (.ref bt), (.int (1 : Int32)), (.ref bt)]))
  obtain ⟨c109, Ar109, q109, S109, G109, H109, J109⟩ := id V_t
  have i109 := inb_of (j := (1 : Int32)) S109 ⟨by decide, by decide⟩
  refine OwnEnd.go (fun _ k => X108.iaload hx (j := (1 : Int32)) (v := (.int t1)) (by rw [e108]; exact Ar109.1) (State.isArrayOf_alike hZ.alike Ar109.2.1) Ar109.2.2 i109 (Has.at H109 i109 rfl) (g := (mkF m 31 #[.val (.ref a1), .val (.ref a2), .val (.int rc)] [(.int (1 : Int32)), (.ref bt), (.int (1 : Int32)), (.ref bt)])) rfl rfl (hb hby d5d2attr_31) _ k) ?_
  show OwnEnd p e below s _ _ _ (T108.setTop (mkF m 32 #[.val (.ref a1), .val (.ref a2), .val (.int rc)] [(.int t1), (.int (1 : Int32)), (.ref bt)]))
  refine OwnEnd.go (fun _ k => XS.iconst X108.here hx rfl (hb hby d5d2attr_32) k) ?_
  show OwnEnd p e below s _ _ _ (T108.setTop (mkF m 33 #[.val (.ref a1), .val (.ref a2), .val (.int rc)] [(.int (1 : Int32)), (.int t1), (.int (1 : Int32)), (.ref bt)]))
  refine OwnEnd.go (fun _ k => XS.iadd X108.here hx rfl (hb hby d5d2attr_33) rfl k) ?_
  show OwnEnd p e below s _ _ _ (T108.setTop (mkF m 34 #[.val (.ref a1), .val (.ref a2), .val (.int rc)] [(.int (t1 + (1 : Int32))), (.int (1 : Int32)), (.ref bt)]))
  obtain ⟨c110, Ar110, q110, S110, G110, H110, J110⟩ := id V_t
  obtain ⟨T110, h110, X110, e110, W110, st110⟩ := stI X108 hx hZ e108 Ar110 (j := (1 : Int32)) (inb_of S110 ⟨by decide, by decide⟩) (g := (mkF m 34 #[.val (.ref a1), .val (.ref a2), .val (.int rc)] [(.int (t1 + (1 : Int32))), (.int (1 : Int32)), (.ref bt)])) rfl rfl (hb hby d5d2attr_34)
  have V110 : Arv Z h110 bt kt .int (8 : Int32) [(.int t0), (.int (t1 + (1 : Int32))), (.int (0 : Int32)), (.int (0 : Int32)), (.int (0 : Int32)), (.int (0 : Int32)), (.int (0 : Int32)), (.int (0 : Int32))] (.int (0 : Int32)) := Arv.set Ar110 q110 S110 G110 H110 J110 rfl W110 1 rfl (Nat.le_of_ble_eq_true rfl)
  have F111 := E2.wr W110
  have F112 := F_open.other W110 (Or.inl n2)
  have F113 := F_attr.other W110 (Or.inl n2)
  have F114 := F_rc.other W110 (Or.inl n2)
  have F115 := F_dp.other W110 (Or.inl n2)
  have F116 := F_di.other W110 (Or.inl n2)
  have F117 := F_er.other W110 (Or.inl n2)
  have F118 := F_es.other W110 (Or.inl n2)
  have F119 := F_ea.other W110 (Or.inl n2)
  have F120 := V_o.other W110 n3
  have N110 := Fr.snoc X110 N101 gt
  have K110 := K101.wr W110 (Or.inl (List.mem_of_getElem? (i := 2) rfl))
  have Y110 := Nat.le_trans Y101 (Nat.le_of_eq W110.size.symm)
  have O110 := O101.wr W110 gt
  refine OwnEnd.go (fun _ k => st110 _ k) ?_
  show OwnEnd p e below s _ _ _ (T110.setTop (mkF m 35 #[.val (.ref a1), .val (.ref a2), .val (.int rc)] []))
  refine OwnEnd.go (fun _ k => XS.aloadN X110.here hx rfl (hb hby d5d2attr_35) rfl rfl k) ?_
  show OwnEnd p e below s _ _ _ (T110.setTop (mkF m 36 #[.val (.ref a1), .val (.ref a2), .val (.int rc)] [(.ref a2)]))
  obtain ⟨T122, X122, e122, st122⟩ := getS2 X110 hx hZ hown (host := "") (Or.inl ww48) Via.refl e110 (SE.ext O110.2) (g := (mkF m 36 #[.val (.ref a1), .val (.ref a2), .val (.int rc)] [(.ref a2)])) rfl (hb hby d5d2attr_36)
  refine OwnEnd.go (fun _ k => st122 _ k) ?_
  show OwnEnd p e below s _ _ _ (T122.setTop (mkF m 39 #[.val (.ref a1), .val (.ref a2), .val (.int rc)] [(.ref xE), (.ref a2)]))
  refine OwnEnd.go (fun _ k => Jvm.RoadKit.acmp (g := (mkF m 39 #[.val (.ref a1), .val (.ref a2), .val (.int rc)] [(.ref xE), (.ref a2)])) X122 hx rfl rfl rfl (pc0 := 39) (pc' := 42) (same := false) rfl (hb hby d5d2attr_39) rfl (decide_eq_false fun q => nE (Value.ref.inj q)) (by decide) (by decide) k) ?_
  show OwnEnd p e below s _ _ _ (T122.setTop (mkF m 42 #[.val (.ref a1), .val (.ref a2), .val (.int rc)] []))
  refine OwnEnd.go (fun _ k => XS.aloadN X122.here hx rfl (hb hby d5d2attr_42) rfl rfl k) ?_
  show OwnEnd p e below s _ _ _ (T122.setTop (mkF m 43 #[.val (.ref a1), .val (.ref a2), .val (.int rc)] [(.ref a2)]))
  obtain ⟨T123, X123, e123, st123⟩ := getS2 X122 hx hZ hown (host := "") (Or.inl ww49) Via.refl e122 (SD.ext O110.2) (g := (mkF m 43 #[.val (.ref a1), .val (.ref a2), .val (.int rc)] [(.ref a2)])) rfl (hb hby d5d2attr_43)
  refine OwnEnd.go (fun _ k => st123 _ k) ?_
  show OwnEnd p e below s _ _ _ (T123.setTop (mkF m 46 #[.val (.ref a1), .val (.ref a2), .val (.int rc)] [(.ref xD), (.ref a2)]))
  refine OwnEnd.go (fun _ k => Jvm.RoadKit.acmp (g := (mkF m 46 #[.val (.ref a1), .val (.ref a2), .val (.int rc)] [(.ref xD), (.ref a2)])) X123 hx rfl rfl rfl (pc0 := 46) (pc' := 125) (same := false) rfl (hb hby d5d2attr_46) rfl (decide_eq_false fun q => nD (Value.ref.inj q)) (by decide) (by decide) k) ?_
  show OwnEnd p e below s _ _ _ (T123.setTop (mkF m 125 #[.val (.ref a1), .val (.ref a2), .val (.int rc)] []))
  refine OwnEnd.go (fun _ k => XS.iloadN X123.here hx rfl (hb hby d5d2attr_125) rfl  k) ?_
  show OwnEnd p e below s _ _ _ (T123.setTop (mkF m 126 #[.val (.ref a1), .val (.ref a2), .val (.int rc)] [(.int rc)]))
  refine ownRetI X123 hx hlk hret (hb hby d5d2attr_126) (by decide) (by decide) ?_
  show Q5d2attr Z a1 a2 bo bt rc o0 o1 t0 t1 er es ea xA xE xD h0 n0 _ T123.heap _
  rw [e123]
  exact ⟨rfl, N110, K110, ⟨ga, go, gt, n1, n2, n3, F111, F112, F113, F114, F115, ⟨_, F116⟩, F117, F118, F119, ⟨_, F120⟩, ⟨_, V110⟩⟩⟩
theorem d9d2_0 : decode prog_249_method_6_code 0 = .ok (.aload_n 0, 1) := by decide +kernel
theorem d9d2_1 : decode prog_249_method_6_code 1 = .ok (.dup, 1) := by decide +kernel
theorem d9d2_2 : decode prog_249_method_6_code 2 = .ok (.getfield 26, 3) := by decide +kernel
theorem d9d2_5 : decode prog_249_method_6_code 5 = .ok (.iconst 1, 1) := by decide +kernel
theorem d9d2_6 : decode prog_249_method_6_code 6 = .ok (.isub, 1) := by decide +kernel
theorem d9d2_7 : decode prog_249_method_6_code 7 = .ok (.putfield 26, 3) := by decide +kernel
theorem d9d2_10 : decode prog_249_method_6_code 10 = .ok (.aload_n 0, 1) := by decide +kernel
theorem d9d2_11 : decode prog_249_method_6_code 11 = .ok (.aload_n 0, 1) := by decide +kernel
theorem d9d2_12 : decode prog_249_method_6_code 12 = .ok (.getfield 7, 3) := by decide +kernel
theorem d9d2_15 : decode prog_249_method_6_code 15 = .ok (.aload_n 0, 1) := by decide +kernel
theorem d9d2_16 : decode prog_249_method_6_code 16 = .ok (.getfield 26, 3) := by decide +kernel
theorem d9d2_19 : decode prog_249_method_6_code 19 = .ok (.iaload, 1) := by decide +kernel
theorem d9d2_20 : decode prog_249_method_6_code 20 = .ok (.putfield 48, 3) := by decide +kernel
theorem d9d2_23 : decode prog_249_method_6_code 23 = .ok (.aload_n 0, 1) := by decide +kernel
theorem d9d2_24 : decode prog_249_method_6_code 24 = .ok (.aload_n 0, 1) := by decide +kernel
theorem d9d2_25 : decode prog_249_method_6_code 25 = .ok (.getfield 42, 3) := by decide +kernel
theorem d9d2_28 : decode prog_249_method_6_code 28 = .ok (.aload_n 0, 1) := by decide +kernel
theorem d9d2_29 : decode prog_249_method_6_code 29 = .ok (.getfield 7, 3) := by decide +kernel
theorem d9d2_32 : decode prog_249_method_6_code 32 = .ok (.aload_n 0, 1) := by decide +kernel
theorem d9d2_33 : decode prog_249_method_6_code 33 = .ok (.getfield 26, 3) := by decide +kernel
theorem d9d2_36 : decode prog_249_method_6_code 36 = .ok (.iaload, 1) := by decide +kernel
theorem d9d2_37 : decode prog_249_method_6_code 37 = .ok (.isub, 1) := by decide +kernel
theorem d9d2_38 : decode prog_249_method_6_code 38 = .ok (.putfield 51, 3) := by decide +kernel
theorem d9d2_41 : decode prog_249_method_6_code 41 = .ok (.aload_n 0, 1) := by decide +kernel
theorem d9d2_42 : decode prog_249_method_6_code 42 = .ok (.aload_n 0, 1) := by decide +kernel
theorem d9d2_43 : decode prog_249_method_6_code 43 = .ok (.getfield 13, 3) := by decide +kernel
theorem d9d2_46 : decode prog_249_method_6_code 46 = .ok (.aload_n 0, 1) := by decide +kernel
theorem d9d2_47 : decode prog_249_method_6_code 47 = .ok (.getfield 26, 3) := by decide +kernel
theorem d9d2_50 : decode prog_249_method_6_code 50 = .ok (.iaload, 1) := by decide +kernel
theorem d9d2_51 : decode prog_249_method_6_code 51 = .ok (.putfield 54, 3) := by decide +kernel
theorem d9d2_54 : decode prog_249_method_6_code 54 = .ok (.return_, 1) := by decide +kernel
theorem pn_9d2 : plainName "com/example/rewoven_tree/rewoventree/storage/TableShape" = true := by first | (simp [plainName, overriddenIn]; done) | decide +kernel
theorem ef_9d2 (m : MethodId) (x0 : Addr) : entryFrame m #[(.ref x0)] 1 = mkF m 0 #[.val (.ref x0)] [] := by first | (simp [entryFrame, mkF, argsToLocals, Value.category]; done) | rfl
def Q9d2 (Z : State) (a1 : Addr) (bo : Addr) (bt : Addr) (rc : Int32) (o0 : Int32) (o1 : Int32) (t0 : Int32) (t1 : Int32) (er : Int32) (es : Int32) (ea : Int32) (h0 : Heap) (n0 : Nat) (v : Option Value) (h : Heap) (L : List Loc) : Prop := v = none ∧ Fr n0 L ∧ Keep h0 h [a1, bo, bt] ∧ ownTS Z h n0 a1 bo bt rc (1 : Int32) o0 o1 t0 t1 o1 (rc - o1) t1
set_option maxRecDepth 65536 in
set_option maxHeartbeats 40000000 in
theorem rm9d2 (l : Launch) (Z : State) (a0 : Array Value) (hw : ∀ d ∈ tables_1, d.before a0 Z = true) (ws : List Jvm.Cond) (a1 : Addr) (bo : Addr) (bt : Addr) (rc : Int32) (o0 : Int32) (o1 : Int32) (t0 : Int32) (t1 : Int32) (er : Int32) (es : Int32) (ea : Int32) (h0 : Heap) (n0 : Nat) (Z0 : n0 ≤ h0.size) (B0 : ownTS Z h0 n0 a1 bo bt rc (2 : Int32) o0 o1 t0 t1 er es ea) :
    MetFree l (⟨"com/example/rewoven_tree/rewoventree/storage/TableShape", "end", "()V"⟩ : MethodName) (head1 (Jvm.Cond.code (⟨"com/example/rewoven_tree/rewoventree/storage/TableShape", "end", "()V"⟩ : MethodName) prog_249_method_6_code 1 none :: ws) ({ frames := 0, cells := 0, slots := 0, locals := 0 } : Room)) (fun a U => a = #[(.ref a1)] ∧ Z.Warmed39 U.vm ∧ U.heap = h0) (fun _ _ _ _ _ => True) (fun _ U o U' => ∃ v L, o = .returned v ∧ Q9d2 Z a1 bo bt rc o0 o1 t0 t1 er es ea h0 n0 v U'.heap L ∧ FrameEnd U o U' L ({ frames := 0, cells := 0, slots := 0, locals := 0 } : Room).cells ({ frames := 0, cells := 0, slots := 0, locals := 0 } : Room).slots) := by
  have ww13 := hw _ (List.mem_of_getElem? (i := 13) rfl)
  have ww22 := hw _ (List.mem_of_getElem? (i := 22) rfl)
  have ww23 := hw _ (List.mem_of_getElem? (i := 23) rfl)
  have ww24 := hw _ (List.mem_of_getElem? (i := 24) rfl)
  have ww25 := hw _ (List.mem_of_getElem? (i := 25) rfl)
  have ww31 := hw _ (List.mem_of_getElem? (i := 31) rfl)
  have ww32 := hw _ (List.mem_of_getElem? (i := 32) rfl)
  have ww43 := hw _ (List.mem_of_getElem? (i := 43) rfl)
  have ww44 := hw _ (List.mem_of_getElem? (i := 44) rfl)
  have ww46 := hw _ (List.mem_of_getElem? (i := 46) rfl)
  have ww65 := hw _ (List.mem_of_getElem? (i := 65) rfl)
  have ww66 := hw _ (List.mem_of_getElem? (i := 66) rfl)
  have ww67 := hw _ (List.mem_of_getElem? (i := 67) rfl)
  have ww68 := hw _ (List.mem_of_getElem? (i := 68) rfl)
  have ww69 := hw _ (List.mem_of_getElem? (i := 69) rfl)
  have ww70 := hw _ (List.mem_of_getElem? (i := 70) rfl)
  refine MetFree.of_bodySF (plainFor_of_name pn_9d2) hisR ?_
  intro p e s m args below meth c s₁ Bd hml0 hP hK
  obtain ⟨rfl, hZ, hh⟩ := hP
  have hx := Bd.exec
  have hby := Bd.bytes
  have hlk : meth.locks = false := Bd.notSynchronized
  have hret := Bd.returns
  have hml : c.maxLocals = 1 := hml0
  have hown : s.vm.findClass "com/example/rewoven_tree/rewoventree/storage/TableShape" = some m.cls := findClass_of_methodNamed Bd.named
  have hnm := (name_of_methodNamed Bd.named Bd.method).1
  have X0 : Stand p l e ({ frames := 0, cells := 0, slots := 0, locals := 0 } : Room) s m #[(.ref a1)] below meth c s₁ [] 0 0 := Stand.of_body Bd
  have e0 : s₁.heap = h0 := by rw [← hh, Bd.state]; rfl
  have N0 := Fr.nil n0
  have K0 := Keep.refl h0 [a1, bo, bt]
  show OwnEnd p e below s (Q9d2 Z a1 bo bt rc o0 o1 t0 t1 er es ea h0 n0) ({ frames := 0, cells := 0, slots := 0, locals := 0 } : Room).cells ({ frames := 0, cells := 0, slots := 0, locals := 0 } : Room).slots _
  refine OwnEnd.go (fun _ k => castTop (ef_9d2 m a1) k) ?_
  obtain ⟨ga, go, gt, n1, n2, n3, E1, F_open, F_attr, F_rc, F_dp, ⟨di, F_di⟩, F_er, F_es, F_ea, ⟨ko, V_o⟩, ⟨kt, V_t⟩⟩ := B0
  show OwnEnd p e below s _ _ _ (s₁.setTop (mkF m 0 #[.val (.ref a1)] []))
  refine OwnEnd.go (fun _ k => XS.aloadN X0.here hx rfl (hb hby d9d2_0) rfl rfl k) ?_
  show OwnEnd p e below s _ _ _ (s₁.setTop (mkF m 1 #[.val (.ref a1)] [(.ref a1)]))
  refine OwnEnd.go (fun _ k => XS.dup X0.here hx rfl (hb hby d9d2_1) rfl rfl k) ?_
  show OwnEnd p e below s _ _ _ (s₁.setTop (mkF m 2 #[.val (.ref a1)] [(.ref a1), (.ref a1)]))
  obtain ⟨T101, X101, e101, st101⟩ := getF X0 hx hZ hown (host := "") (Or.inl ww43) Via.refl e0 F_dp (g := (mkF m 2 #[.val (.ref a1)] [(.ref a1), (.ref a1)])) rfl rfl (hb hby d9d2_2)
  refine OwnEnd.go (fun _ k => st101 _ k) ?_
  show OwnEnd p e below s _ _ _ (T101.setTop (mkF m 5 #[.val (.ref a1)] [(.int (2 : Int32)), (.ref a1)]))
  refine OwnEnd.go (fun _ k => XS.iconst X101.here hx rfl (hb hby d9d2_5) k) ?_
  show OwnEnd p e below s _ _ _ (T101.setTop (mkF m 6 #[.val (.ref a1)] [(.int (1 : Int32)), (.int (2 : Int32)), (.ref a1)]))
  refine OwnEnd.go (fun _ k => XS.isub X101.here hx rfl (hb hby d9d2_6) rfl k) ?_
  show OwnEnd p e below s _ _ _ (T101.setTop (mkF m 7 #[.val (.ref a1)] [(.int (1 : Int32)), (.ref a1)]))
  obtain ⟨T102, h102, X102, e102, W102, st102⟩ := putF X101 hx hZ hown (host := "") (Or.inl ww43) Via.refl e101 F_dp E1 (Or.inl ww44) ww13 (ty := .int) (by decide) rfl rfl (g := (mkF m 7 #[.val (.ref a1)] [(.int (1 : Int32)), (.ref a1)])) rfl rfl (hb hby d9d2_7)
  have F104 := E1.wr W102
  have F105 := F_open.other W102 (Or.inr (slot_ne (Or.inl ww23) (Or.inl ww44) (by decide) (t := (.array .int)) (t' := .int) (by decide) (by decide)))
  have F106 := F_attr.other W102 (Or.inr (slot_ne (Or.inl ww25) (Or.inl ww44) (by decide) (t := (.array .int)) (t' := .int) (by decide) (by decide)))
  have F107 := F_rc.other W102 (Or.inr (slot_ne (Or.inl ww32) (Or.inl ww44) (by decide) (t := .int) (t' := .int) (by decide) (by decide)))
  have F108 := F_dp.same W102
  have F109 := F_di.other W102 (Or.inr (slot_ne (Or.inl ww46) (Or.inl ww44) (by decide) (t := .int) (t' := .int) (by decide) (by decide)))
  have F110 := F_er.other W102 (Or.inr (slot_ne (Or.inl ww66) (Or.inl ww44) (by decide) (t := .int) (t' := .int) (by decide) (by decide)))
  have F111 := F_es.other W102 (Or.inr (slot_ne (Or.inl ww68) (Or.inl ww44) (by decide) (t := .int) (t' := .int) (by decide) (by decide)))
  have F112 := F_ea.other W102 (Or.inr (slot_ne (Or.inl ww70) (Or.inl ww44) (by decide) (t := .int) (t' := .int) (by decide) (by decide)))
  have F113 := V_o.other W102 (Ne.symm n1)
  have F114 := V_t.other W102 (Ne.symm n2)
  have N102 := Fr.snoc X102 N0 ga
  have K102 := K0.wr W102 (Or.inl (List.mem_of_getElem? (i := 0) rfl))
  have Y102 := Nat.le_trans Z0 (Nat.le_of_eq W102.size.symm)
  refine OwnEnd.go (fun _ k => st102 _ k) ?_
  show OwnEnd p e below s _ _ _ (T102.setTop (mkF m 10 #[.val (.ref a1)] []))
  refine OwnEnd.go (fun _ k => XS.aloadN X102.here hx rfl (hb hby d9d2_10) rfl rfl k) ?_
  show OwnEnd p e below s _ _ _ (T102.setTop (mkF m 11 #[.val (.ref a1)] [(.ref a1)]))
  refine OwnEnd.go (fun _ k => XS.aloadN X102.here hx rfl (hb hby d9d2_11) rfl rfl k) ?_
  show OwnEnd p e below s _ _ _ (T102.setTop (mkF m 12 #[.val (.ref a1)] [(.ref a1), (.ref a1)]))
  obtain ⟨T115, X115, e115, st115⟩ := getF X102 hx hZ hown (host := "") (Or.inl ww22) Via.refl e102 F105 (g := (mkF m 12 #[.val (.ref a1)] [(.ref a1), (.ref a1)])) rfl rfl (hb hby d9d2_12)
  refine OwnEnd.go (fun _ k => st115 _ k) ?_
  show OwnEnd p e below s _ _ _ (T115.setTop (mkF m 15 #[.val (.ref a1)] [(.ref bo), (.ref a1)]))
  refine OwnEnd.go (fun _ k => XS.aloadN X115.here hx rfl (hb hby d9d2_15) rfl rfl k) ?_
  show OwnEnd p e below s _ _ _ (T115.setTop (mkF m 16 #[.val (.ref a1)] [(.ref a1), (.ref bo), (.ref a1)]))
  obtain ⟨T116, X116, e116, st116⟩ := getF X115 hx hZ hown (host := "") (Or.inl ww43) Via.refl e115 F108 (g := (mkF m 16 #[.val (.ref a1)] [(.ref a1), (.ref bo), (.ref a1)])) rfl rfl (hb hby d9d2_16)
  refine OwnEnd.go (fun _ k => st116 _ k) ?_
  show OwnEnd p e below s _ _ _ (T116.setTop (mkF m 19 #[.val (.ref a1)] [(.int (1 : Int32)), (.ref bo), (.ref a1)]))
  obtain ⟨c117, Ar117, q117, S117, G117, H117, J117⟩ := id F113
  have i117 := inb_of (j := (1 : Int32)) S117 ⟨by decide, by decide⟩
  refine OwnEnd.go (fun _ k => X116.iaload hx (j := (1 : Int32)) (v := (.int o1)) (by rw [e116]; exact Ar117.1) (State.isArrayOf_alike hZ.alike Ar117.2.1) Ar117.2.2 i117 (Has.at H117 i117 rfl) (g := (mkF m 19 #[.val (.ref a1)] [(.int (1 : Int32)), (.ref bo), (.ref a1)])) rfl rfl (hb hby d9d2_19) _ k) ?_
  show OwnEnd p e below s _ _ _ (T116.setTop (mkF m 20 #[.val (.ref a1)] [(.int o1), (.ref a1)]))
  obtain ⟨T118, h118, X118, e118, W118, st118⟩ := putF X116 hx hZ hown (host := "") (Or.inl ww65) Via.refl e116 F110 F104 (Or.inl ww66) ww13 (ty := .int) (by decide) rfl rfl (g := (mkF m 20 #[.val (.ref a1)] [(.int o1), (.ref a1)])) rfl rfl (hb hby d9d2_20)
  have F119 := F104.wr W118
  have F120 := F105.other W118 (Or.inr (slot_ne (Or.inl ww23) (Or.inl ww66) (by decide) (t := (.array .int)) (t' := .int) (by decide) (by decide)))
  have F121 := F106.other W118 (Or.inr (slot_ne (Or.inl ww25) (Or.inl ww66) (by decide) (t := (.array .int)) (t' := .int) (by decide) (by decide)))
  have F122 := F107.other W118 (Or.inr (slot_ne (Or.inl ww32) (Or.inl ww66) (by decide) (t := .int) (t' := .int) (by decide) (by decide)))
  have F123 := F108.other W118 (Or.inr (slot_ne (Or.inl ww44) (Or.inl ww66) (by decide) (t := .int) (t' := .int) (by decide) (by decide)))
  have F124 := F109.other W118 (Or.inr (slot_ne (Or.inl ww46) (Or.inl ww66) (by decide) (t := .int) (t' := .int) (by decide) (by decide)))
  have F125 := F110.same W118
  have F126 := F111.other W118 (Or.inr (slot_ne (Or.inl ww68) (Or.inl ww66) (by decide) (t := .int) (t' := .int) (by decide) (by decide)))
  have F127 := F112.other W118 (Or.inr (slot_ne (Or.inl ww70) (Or.inl ww66) (by decide) (t := .int) (t' := .int) (by decide) (by decide)))
  have F128 := F113.other W118 (Ne.symm n1)
  have F129 := F114.other W118 (Ne.symm n2)
  have N118 := Fr.snoc X118 N102 ga
  have K118 := K102.wr W118 (Or.inl (List.mem_of_getElem? (i := 0) rfl))
  have Y118 := Nat.le_trans Y102 (Nat.le_of_eq W118.size.symm)
  refine OwnEnd.go (fun _ k => st118 _ k) ?_
  show OwnEnd p e below s _ _ _ (T118.setTop (mkF m 23 #[.val (.ref a1)] []))
  refine OwnEnd.go (fun _ k => XS.aloadN X118.here hx rfl (hb hby d9d2_23) rfl rfl k) ?_
  show OwnEnd p e below s _ _ _ (T118.setTop (mkF m 24 #[.val (.ref a1)] [(.ref a1)]))
  refine OwnEnd.go (fun _ k => XS.aloadN X118.here hx rfl (hb hby d9d2_24) rfl rfl k) ?_
  show OwnEnd p e below s _ _ _ (T118.setTop (mkF m 25 #[.val (.ref a1)] [(.ref a1), (.ref a1)]))
  obtain ⟨T130, X130, e130, st130⟩ := getF X118 hx hZ hown (host := "") (Or.inl ww31) Via.refl e118 F122 (g := (mkF m 25 #[.val (.ref a1)] [(.ref a1), (.ref a1)])) rfl rfl (hb hby d9d2_25)
  refine OwnEnd.go (fun _ k => st130 _ k) ?_
  show OwnEnd p e below s _ _ _ (T130.setTop (mkF m 28 #[.val (.ref a1)] [(.int rc), (.ref a1)]))
  refine OwnEnd.go (fun _ k => XS.aloadN X130.here hx rfl (hb hby d9d2_28) rfl rfl k) ?_
  show OwnEnd p e below s _ _ _ (T130.setTop (mkF m 29 #[.val (.ref a1)] [(.ref a1), (.int rc), (.ref a1)]))
  obtain ⟨T131, X131, e131, st131⟩ := getF X130 hx hZ hown (host := "") (Or.inl ww22) Via.refl e130 F120 (g := (mkF m 29 #[.val (.ref a1)] [(.ref a1), (.int rc), (.ref a1)])) rfl rfl (hb hby d9d2_29)
  refine OwnEnd.go (fun _ k => st131 _ k) ?_
  show OwnEnd p e below s _ _ _ (T131.setTop (mkF m 32 #[.val (.ref a1)] [(.ref bo), (.int rc), (.ref a1)]))
  refine OwnEnd.go (fun _ k => XS.aloadN X131.here hx rfl (hb hby d9d2_32) rfl rfl k) ?_
  show OwnEnd p e below s _ _ _ (T131.setTop (mkF m 33 #[.val (.ref a1)] [(.ref a1), (.ref bo), (.int rc), (.ref a1)]))
  obtain ⟨T132, X132, e132, st132⟩ := getF X131 hx hZ hown (host := "") (Or.inl ww43) Via.refl e131 F123 (g := (mkF m 33 #[.val (.ref a1)] [(.ref a1), (.ref bo), (.int rc), (.ref a1)])) rfl rfl (hb hby d9d2_33)
  refine OwnEnd.go (fun _ k => st132 _ k) ?_
  show OwnEnd p e below s _ _ _ (T132.setTop (mkF m 36 #[.val (.ref a1)] [(.int (1 : Int32)), (.ref bo), (.int rc), (.ref a1)]))
  obtain ⟨c133, Ar133, q133, S133, G133, H133, J133⟩ := id F128
  have i133 := inb_of (j := (1 : Int32)) S133 ⟨by decide, by decide⟩
  refine OwnEnd.go (fun _ k => X132.iaload hx (j := (1 : Int32)) (v := (.int o1)) (by rw [e132]; exact Ar133.1) (State.isArrayOf_alike hZ.alike Ar133.2.1) Ar133.2.2 i133 (Has.at H133 i133 rfl) (g := (mkF m 36 #[.val (.ref a1)] [(.int (1 : Int32)), (.ref bo), (.int rc), (.ref a1)])) rfl rfl (hb hby d9d2_36) _ k) ?_
  show OwnEnd p e below s _ _ _ (T132.setTop (mkF m 37 #[.val (.ref a1)] [(.int o1), (.int rc), (.ref a1)]))
  refine OwnEnd.go (fun _ k => XS.isub X132.here hx rfl (hb hby d9d2_37) rfl k) ?_
  show OwnEnd p e below s _ _ _ (T132.setTop (mkF m 38 #[.val (.ref a1)] [(.int (rc - o1)), (.ref a1)]))
  obtain ⟨T134, h134, X134, e134, W134, st134⟩ := putF X132 hx hZ hown (host := "") (Or.inl ww67) Via.refl e132 F126 F119 (Or.inl ww68) ww13 (ty := .int) (by decide) rfl rfl (g := (mkF m 38 #[.val (.ref a1)] [(.int (rc - o1)), (.ref a1)])) rfl rfl (hb hby d9d2_38)
  have F135 := F119.wr W134
  have F136 := F120.other W134 (Or.inr (slot_ne (Or.inl ww23) (Or.inl ww68) (by decide) (t := (.array .int)) (t' := .int) (by decide) (by decide)))
  have F137 := F121.other W134 (Or.inr (slot_ne (Or.inl ww25) (Or.inl ww68) (by decide) (t := (.array .int)) (t' := .int) (by decide) (by decide)))
  have F138 := F122.other W134 (Or.inr (slot_ne (Or.inl ww32) (Or.inl ww68) (by decide) (t := .int) (t' := .int) (by decide) (by decide)))
  have F139 := F123.other W134 (Or.inr (slot_ne (Or.inl ww44) (Or.inl ww68) (by decide) (t := .int) (t' := .int) (by decide) (by decide)))
  have F140 := F124.other W134 (Or.inr (slot_ne (Or.inl ww46) (Or.inl ww68) (by decide) (t := .int) (t' := .int) (by decide) (by decide)))
  have F141 := F125.other W134 (Or.inr (slot_ne (Or.inl ww66) (Or.inl ww68) (by decide) (t := .int) (t' := .int) (by decide) (by decide)))
  have F142 := F126.same W134
  have F143 := F127.other W134 (Or.inr (slot_ne (Or.inl ww70) (Or.inl ww68) (by decide) (t := .int) (t' := .int) (by decide) (by decide)))
  have F144 := F128.other W134 (Ne.symm n1)
  have F145 := F129.other W134 (Ne.symm n2)
  have N134 := Fr.snoc X134 N118 ga
  have K134 := K118.wr W134 (Or.inl (List.mem_of_getElem? (i := 0) rfl))
  have Y134 := Nat.le_trans Y118 (Nat.le_of_eq W134.size.symm)
  refine OwnEnd.go (fun _ k => st134 _ k) ?_
  show OwnEnd p e below s _ _ _ (T134.setTop (mkF m 41 #[.val (.ref a1)] []))
  refine OwnEnd.go (fun _ k => XS.aloadN X134.here hx rfl (hb hby d9d2_41) rfl rfl k) ?_
  show OwnEnd p e below s _ _ _ (T134.setTop (mkF m 42 #[.val (.ref a1)] [(.ref a1)]))
  refine OwnEnd.go (fun _ k => XS.aloadN X134.here hx rfl (hb hby d9d2_42) rfl rfl k) ?_
  show OwnEnd p e below s _ _ _ (T134.setTop (mkF m 43 #[.val (.ref a1)] [(.ref a1), (.ref a1)]))
  obtain ⟨T146, X146, e146, st146⟩ := getF X134 hx hZ hown (host := "") (Or.inl ww24) Via.refl e134 F137 (g := (mkF m 43 #[.val (.ref a1)] [(.ref a1), (.ref a1)])) rfl rfl (hb hby d9d2_43)
  refine OwnEnd.go (fun _ k => st146 _ k) ?_
  show OwnEnd p e below s _ _ _ (T146.setTop (mkF m 46 #[.val (.ref a1)] [(.ref bt), (.ref a1)]))
  refine OwnEnd.go (fun _ k => XS.aloadN X146.here hx rfl (hb hby d9d2_46) rfl rfl k) ?_
  show OwnEnd p e below s _ _ _ (T146.setTop (mkF m 47 #[.val (.ref a1)] [(.ref a1), (.ref bt), (.ref a1)]))
  obtain ⟨T147, X147, e147, st147⟩ := getF X146 hx hZ hown (host := "") (Or.inl ww43) Via.refl e146 F139 (g := (mkF m 47 #[.val (.ref a1)] [(.ref a1), (.ref bt), (.ref a1)])) rfl rfl (hb hby d9d2_47)
  refine OwnEnd.go (fun _ k => st147 _ k) ?_
  show OwnEnd p e below s _ _ _ (T147.setTop (mkF m 50 #[.val (.ref a1)] [(.int (1 : Int32)), (.ref bt), (.ref a1)]))
  obtain ⟨c148, Ar148, q148, S148, G148, H148, J148⟩ := id F145
  have i148 := inb_of (j := (1 : Int32)) S148 ⟨by decide, by decide⟩
  refine OwnEnd.go (fun _ k => X147.iaload hx (j := (1 : Int32)) (v := (.int t1)) (by rw [e147]; exact Ar148.1) (State.isArrayOf_alike hZ.alike Ar148.2.1) Ar148.2.2 i148 (Has.at H148 i148 rfl) (g := (mkF m 50 #[.val (.ref a1)] [(.int (1 : Int32)), (.ref bt), (.ref a1)])) rfl rfl (hb hby d9d2_50) _ k) ?_
  show OwnEnd p e below s _ _ _ (T147.setTop (mkF m 51 #[.val (.ref a1)] [(.int t1), (.ref a1)]))
  obtain ⟨T149, h149, X149, e149, W149, st149⟩ := putF X147 hx hZ hown (host := "") (Or.inl ww69) Via.refl e147 F143 F135 (Or.inl ww70) ww13 (ty := .int) (by decide) rfl rfl (g := (mkF m 51 #[.val (.ref a1)] [(.int t1), (.ref a1)])) rfl rfl (hb hby d9d2_51)
  have F150 := F135.wr W149
  have F151 := F136.other W149 (Or.inr (slot_ne (Or.inl ww23) (Or.inl ww70) (by decide) (t := (.array .int)) (t' := .int) (by decide) (by decide)))
  have F152 := F137.other W149 (Or.inr (slot_ne (Or.inl ww25) (Or.inl ww70) (by decide) (t := (.array .int)) (t' := .int) (by decide) (by decide)))
  have F153 := F138.other W149 (Or.inr (slot_ne (Or.inl ww32) (Or.inl ww70) (by decide) (t := .int) (t' := .int) (by decide) (by decide)))
  have F154 := F139.other W149 (Or.inr (slot_ne (Or.inl ww44) (Or.inl ww70) (by decide) (t := .int) (t' := .int) (by decide) (by decide)))
  have F155 := F140.other W149 (Or.inr (slot_ne (Or.inl ww46) (Or.inl ww70) (by decide) (t := .int) (t' := .int) (by decide) (by decide)))
  have F156 := F141.other W149 (Or.inr (slot_ne (Or.inl ww66) (Or.inl ww70) (by decide) (t := .int) (t' := .int) (by decide) (by decide)))
  have F157 := F142.other W149 (Or.inr (slot_ne (Or.inl ww68) (Or.inl ww70) (by decide) (t := .int) (t' := .int) (by decide) (by decide)))
  have F158 := F143.same W149
  have F159 := F144.other W149 (Ne.symm n1)
  have F160 := F145.other W149 (Ne.symm n2)
  have N149 := Fr.snoc X149 N134 ga
  have K149 := K134.wr W149 (Or.inl (List.mem_of_getElem? (i := 0) rfl))
  have Y149 := Nat.le_trans Y134 (Nat.le_of_eq W149.size.symm)
  refine OwnEnd.go (fun _ k => st149 _ k) ?_
  show OwnEnd p e below s _ _ _ (T149.setTop (mkF m 54 #[.val (.ref a1)] []))
  refine ownRetV X149 hx hlk hret (hb hby d9d2_54) (by decide) (by decide) ?_
  show Q9d2 Z a1 bo bt rc o0 o1 t0 t1 er es ea h0 n0 _ T149.heap _
  rw [e149]
  exact ⟨rfl, N149, K149, ⟨ga, go, gt, n1, n2, n3, F150, F151, F152, F153, F154, ⟨_, F155⟩, F156, F157, F158, ⟨_, F159⟩, ⟨_, F160⟩⟩⟩
theorem d5d1other_0 : decode prog_249_method_2_code 0 = .ok (.aload_n 0, 1) := by decide +kernel
theorem d5d1other_1 : decode prog_249_method_2_code 1 = .ok (.iconst 1, 1) := by decide +kernel
theorem d5d1other_2 : decode prog_249_method_2_code 2 = .ok (.invokevirtual 16, 3) := by decide +kernel
theorem d5d1other_5 : decode prog_249_method_2_code 5 = .ok (.istore_n 2, 1) := by decide +kernel
theorem d5d1other_6 : decode prog_249_method_2_code 6 = .ok (.aload_n 1, 1) := by decide +kernel
theorem d5d1other_7 : decode prog_249_method_2_code 7 = .ok (.getstatic 20, 3) := by decide +kernel
theorem d5d1other_10 : decode prog_249_method_2_code 10 = .ok (.if_acmp .ne 25, 3) := by decide +kernel
theorem d5d1other_35 : decode prog_249_method_2_code 35 = .ok (.aload_n 1, 1) := by decide +kernel
theorem d5d1other_36 : decode prog_249_method_2_code 36 = .ok (.getstatic 30, 3) := by decide +kernel
theorem d5d1other_39 : decode prog_249_method_2_code 39 = .ok (.if_acmp .eq 10, 3) := by decide +kernel
theorem d5d1other_42 : decode prog_249_method_2_code 42 = .ok (.aload_n 1, 1) := by decide +kernel
theorem d5d1other_43 : decode prog_249_method_2_code 43 = .ok (.getstatic 33, 3) := by decide +kernel
theorem d5d1other_46 : decode prog_249_method_2_code 46 = .ok (.if_acmp .ne 79, 3) := by decide +kernel
theorem d5d1other_125 : decode prog_249_method_2_code 125 = .ok (.iload_n 2, 1) := by decide +kernel
theorem d5d1other_126 : decode prog_249_method_2_code 126 = .ok (.ireturn, 1) := by decide +kernel
theorem pn_5d1other : plainName "com/example/rewoven_tree/rewoventree/storage/TableShape" = true := by first | (simp [plainName, overriddenIn]; done) | decide +kernel
theorem pd5d1other_0 : parseMethodDescriptor "(I)I" = some ⟨[.int], some .int⟩ := by decide +kernel
theorem ef_5d1other (m : MethodId) (x0 : Addr) (x1 : Addr) : entryFrame m #[(.ref x0), (.ref x1)] 3 = mkF m 0 #[.val (.ref x0), .val (.ref x1), .unset] [] := by first | (simp [entryFrame, mkF, argsToLocals, Value.category]; done) | rfl
def Q5d1other (Z : State) (a1 : Addr) (a2 : Addr) (bo : Addr) (bt : Addr) (rc : Int32) (o0 : Int32) (o1 : Int32) (t0 : Int32) (t1 : Int32) (er : Int32) (es : Int32) (ea : Int32) (xA : Addr) (xE : Addr) (xD : Addr) (h0 : Heap) (n0 : Nat) (v : Option Value) (h : Heap) (L : List Loc) : Prop := v = some (.int rc) ∧ Fr n0 L ∧ Keep h0 h [a1, bo, bt] ∧ ownTS Z h n0 a1 bo bt (rc + (1 : Int32)) (1 : Int32) o0 o1 t0 t1 er es ea
set_option maxRecDepth 65536 in
set_option maxHeartbeats 40000000 in
theorem rm5d1other (l : Launch) (Z : State) (a0 : Array Value) (hw : ∀ d ∈ tables_1, d.before a0 Z = true) (ws : List Jvm.Cond) (a1 : Addr) (a2 : Addr) (bo : Addr) (bt : Addr) (rc : Int32) (o0 : Int32) (o1 : Int32) (t0 : Int32) (t1 : Int32) (er : Int32) (es : Int32) (ea : Int32) (xA : Addr) (xE : Addr) (xD : Addr) (h0 : Heap) (n0 : Nat) (Z0 : n0 ≤ h0.size) (O0 : Old Z n0 h0) (SA : Sta Z Z.heap "com/example/rewoven_tree/rewoventree/storage/NodeKind" "ATTRIBUTE" "Lcom/example/rewoven_tree/rewoventree/storage/NodeKind;" (.ref xA)) (SE : Sta Z Z.heap "com/example/rewoven_tree/rewoventree/storage/NodeKind" "ELEMENT" "Lcom/example/rewoven_tree/rewoventree/storage/NodeKind;" (.ref xE)) (SD : Sta Z Z.heap "com/example/rewoven_tree/rewoventree/storage/NodeKind" "DOCUMENT" "Lcom/example/rewoven_tree/rewoventree/storage/NodeKind;" (.ref xD)) (nA : a2 ≠ xA) (nE : a2 ≠ xE) (nD : a2 ≠ xD) (B0 : ownTS Z h0 n0 a1 bo bt rc (1 : Int32) o0 o1 t0 t1 er es ea) :
    MetFree l (⟨"com/example/rewoven_tree/rewoventree/storage/TableShape", "place", "(Lcom/example/rewoven_tree/rewoventree/storage/NodeKind;)I"⟩ : MethodName) (head1 (Jvm.Cond.code (⟨"com/example/rewoven_tree/rewoventree/storage/TableShape", "place", "(Lcom/example/rewoven_tree/rewoventree/storage/NodeKind;)I"⟩ : MethodName) prog_249_method_2_code 3 (some .int) :: ws) ({ frames := 1, cells := 0, slots := 0, locals := 14 } : Room)) (fun a U => a = #[(.ref a1), (.ref a2)] ∧ Z.Warmed39 U.vm ∧ U.heap = h0) (fun _ _ _ _ _ => True) (fun _ U o U' => ∃ v L, o = .returned v ∧ Q5d1other Z a1 a2 bo bt rc o0 o1 t0 t1 er es ea xA xE xD h0 n0 v U'.heap L ∧ FrameEnd U o U' L ({ frames := 1, cells := 0, slots := 0, locals := 14 } : Room).cells ({ frames := 1, cells := 0, slots := 0, locals := 14 } : Room).slots) := by
  have ww14 := hw _ (List.mem_of_getElem? (i := 14) rfl)
  have ww38 := hw _ (List.mem_of_getElem? (i := 38) rfl)
  have ww39 := hw _ (List.mem_of_getElem? (i := 39) rfl)
  have ww40 := hw _ (List.mem_of_getElem? (i := 40) rfl)
  have ww41 := hw _ (List.mem_of_getElem? (i := 41) rfl)
  have ww42 := hw _ (List.mem_of_getElem? (i := 42) rfl)
  have ww47 := hw _ (List.mem_of_getElem? (i := 47) rfl)
  have ww48 := hw _ (List.mem_of_getElem? (i := 48) rfl)
  have ww49 := hw _ (List.mem_of_getElem? (i := 49) rfl)
  refine MetFree.of_bodySF (plainFor_of_name pn_5d1other) hisR ?_
  intro p e s m args below meth c s₁ Bd hml0 hP hK
  obtain ⟨rfl, hZ, hh⟩ := hP
  have hx := Bd.exec
  have hby := Bd.bytes
  have hlk : meth.locks = false := Bd.notSynchronized
  have hret := Bd.returns
  have hml : c.maxLocals = 3 := hml0
  have hown : s.vm.findClass "com/example/rewoven_tree/rewoventree/storage/TableShape" = some m.cls := findClass_of_methodNamed Bd.named
  have hnm := (name_of_methodNamed Bd.named Bd.method).1
  have X0 : Stand p l e ({ frames := 1, cells := 0, slots := 0, locals := 14 } : Room) s m #[(.ref a1), (.ref a2)] below meth c s₁ [] 0 0 := Stand.of_body Bd
  have e0 : s₁.heap = h0 := by rw [← hh, Bd.state]; rfl
  have N0 := Fr.nil n0
  have K0 := Keep.refl h0 [a1, bo, bt]
  show OwnEnd p e below s (Q5d1other Z a1 a2 bo bt rc o0 o1 t0 t1 er es ea xA xE xD h0 n0) ({ frames := 1, cells := 0, slots := 0, locals := 14 } : Room).cells ({ frames := 1, cells := 0, slots := 0, locals := 14 } : Room).slots _
  refine OwnEnd.go (fun _ k => castTop (ef_5d1other m a1 a2) k) ?_
  have E1 := B0.2.2.2.2.2.2.1
  have ga := B0.1
  have go := B0.2.1
  have gt := B0.2.2.1
  show OwnEnd p e below s _ _ _ (s₁.setTop (mkF m 0 #[.val (.ref a1), .val (.ref a2), .unset] []))
  refine OwnEnd.go (fun _ k => XS.aloadN X0.here hx rfl (hb hby d5d1other_0) rfl rfl k) ?_
  show OwnEnd p e below s _ _ _ (s₁.setTop (mkF m 1 #[.val (.ref a1), .val (.ref a2), .unset] [(.ref a1)]))
  refine OwnEnd.go (fun _ k => XS.iconst X0.here hx rfl (hb hby d5d1other_1) k) ?_
  show OwnEnd p e below s _ _ _ (s₁.setTop (mkF m 2 #[.val (.ref a1), .val (.ref a2), .unset] [(.int (1 : Int32)), (.ref a1)]))
  obtain ⟨_, T101, L101, X101, hQ101, st101⟩ := ownCallV X0 hx hZ hown ww38 ww39 ww41 ww40 ww14 ww42 (by decide) (rm6d1 l Z a0 hw [] a1 (1 : Int32) bo bt rc o0 o1 t0 t1 er es ea h0 n0 Z0  B0) e0 E1 0 (by decide) (by decide) (by decide) (by decide) (g := (mkF m 2 #[.val (.ref a1), .val (.ref a2), .unset] [(.int (1 : Int32)), (.ref a1)])) rfl (by rw [hml]; rfl) (argsL := [(.int (1 : Int32))]) (rest := []) (lenOf pd5d1other_0 rfl) rfl rfl (by show 2 * 0 + _ ≤ _; exact Nat.le_of_eq rfl) (hb hby d5d1other_2)
  obtain ⟨rfl, N101q, K101q, P102⟩ := hQ101
  have N101 := Fr.app N0 N101q
  have F104 := E1.keep K101q
  have K101 := K0.trans K101q (allS (Or.inl (List.mem_of_getElem? (i := 0) rfl)) (allS (Or.inl (List.mem_of_getElem? (i := 1) rfl)) (allS (Or.inl (List.mem_of_getElem? (i := 2) rfl)) all0)))
  have Y101 := Nat.le_trans Z0 K101q.1
  have O101 := O0.keep K101q (allS ga (allS go (allS gt all0)))
  refine OwnEnd.go (fun _ k => st101 _ k) ?_
  obtain ⟨-, -, -, n1, n2, n3, E2, F_open, F_attr, F_rc, F_dp, ⟨di, F_di⟩, F_er, F_es, F_ea, ⟨ko, V_o⟩, ⟨kt, V_t⟩⟩ := P102
  show OwnEnd p e below s _ _ _ (T101.setTop (mkF m 5 #[.val (.ref a1), .val (.ref a2), .unset] [(.int rc)]))
  refine OwnEnd.go (fun _ k => XS.istoreN X101.here hx rfl (hb hby d5d1other_5) rfl  (l' := #[.val (.ref a1), .val (.ref a2), .val (.int rc)]) rfl k) ?_
  show OwnEnd p e below s _ _ _ (T101.setTop (mkF m 6 #[.val (.ref a1), .val (.ref a2), .val (.int rc)] []))
  refine OwnEnd.go (fun _ k => XS.aloadN X101.here hx rfl (hb hby d5d1other_6) rfl rfl k) ?_
  show OwnEnd p e below s _ _ _ (T101.setTop (mkF m 7 #[.val (.ref a1), .val (.ref a2), .val (.int rc)] [(.ref a2)]))
  obtain ⟨T105, X105, e105, st105⟩ := getS2 X101 hx hZ hown (host := "") (Or.inl ww47) Via.refl (rfl : T101.heap = T101.heap) (SA.ext O101.2) (g := (mkF m 7 #[.val (.ref a1), .val (.ref a2), .val (.int rc)] [(.ref a2)])) rfl (hb hby d5d1other_7)
  refine OwnEnd.go (fun _ k => st105 _ k) ?_
  show OwnEnd p e below s _ _ _ (T105.setTop (mkF m 10 #[.val (.ref a1), .val (.ref a2), .val (.int rc)] [(.ref xA), (.ref a2)]))
  refine OwnEnd.go (fun _ k => Jvm.RoadKit.acmp (g := (mkF m 10 #[.val (.ref a1), .val (.ref a2), .val (.int rc)] [(.ref xA), (.ref a2)])) X105 hx rfl rfl rfl (pc0 := 10) (pc' := 35) (same := false) rfl (hb hby d5d1other_10) rfl (decide_eq_false fun q => nA (Value.ref.inj q)) (by decide) (by decide) k) ?_
  show OwnEnd p e below s _ _ _ (T105.setTop (mkF m 35 #[.val (.ref a1), .val (.ref a2), .val (.int rc)] []))
  refine OwnEnd.go (fun _ k => XS.aloadN X105.here hx rfl (hb hby d5d1other_35) rfl rfl k) ?_
  show OwnEnd p e below s _ _ _ (T105.setTop (mkF m 36 #[.val (.ref a1), .val (.ref a2), .val (.int rc)] [(.ref a2)]))
  obtain ⟨T106, X106, e106, st106⟩ := getS2 X105 hx hZ hown (host := "") (Or.inl ww48) Via.refl e105 (SE.ext O101.2) (g := (mkF m 36 #[.val (.ref a1), .val (.ref a2), .val (.int rc)] [(.ref a2)])) rfl (hb hby d5d1other_36)
  refine OwnEnd.go (fun _ k => st106 _ k) ?_
  show OwnEnd p e below s _ _ _ (T106.setTop (mkF m 39 #[.val (.ref a1), .val (.ref a2), .val (.int rc)] [(.ref xE), (.ref a2)]))
  refine OwnEnd.go (fun _ k => Jvm.RoadKit.acmp (g := (mkF m 39 #[.val (.ref a1), .val (.ref a2), .val (.int rc)] [(.ref xE), (.ref a2)])) X106 hx rfl rfl rfl (pc0 := 39) (pc' := 42) (same := false) rfl (hb hby d5d1other_39) rfl (decide_eq_false fun q => nE (Value.ref.inj q)) (by decide) (by decide) k) ?_
  show OwnEnd p e below s _ _ _ (T106.setTop (mkF m 42 #[.val (.ref a1), .val (.ref a2), .val (.int rc)] []))
  refine OwnEnd.go (fun _ k => XS.aloadN X106.here hx rfl (hb hby d5d1other_42) rfl rfl k) ?_
  show OwnEnd p e below s _ _ _ (T106.setTop (mkF m 43 #[.val (.ref a1), .val (.ref a2), .val (.int rc)] [(.ref a2)]))
  obtain ⟨T107, X107, e107, st107⟩ := getS2 X106 hx hZ hown (host := "") (Or.inl ww49) Via.refl e106 (SD.ext O101.2) (g := (mkF m 43 #[.val (.ref a1), .val (.ref a2), .val (.int rc)] [(.ref a2)])) rfl (hb hby d5d1other_43)
  refine OwnEnd.go (fun _ k => st107 _ k) ?_
  show OwnEnd p e below s _ _ _ (T107.setTop (mkF m 46 #[.val (.ref a1), .val (.ref a2), .val (.int rc)] [(.ref xD), (.ref a2)]))
  refine OwnEnd.go (fun _ k => Jvm.RoadKit.acmp (g := (mkF m 46 #[.val (.ref a1), .val (.ref a2), .val (.int rc)] [(.ref xD), (.ref a2)])) X107 hx rfl rfl rfl (pc0 := 46) (pc' := 125) (same := false) rfl (hb hby d5d1other_46) rfl (decide_eq_false fun q => nD (Value.ref.inj q)) (by decide) (by decide) k) ?_
  show OwnEnd p e below s _ _ _ (T107.setTop (mkF m 125 #[.val (.ref a1), .val (.ref a2), .val (.int rc)] []))
  refine OwnEnd.go (fun _ k => XS.iloadN X107.here hx rfl (hb hby d5d1other_125) rfl  k) ?_
  show OwnEnd p e below s _ _ _ (T107.setTop (mkF m 126 #[.val (.ref a1), .val (.ref a2), .val (.int rc)] [(.int rc)]))
  refine ownRetI X107 hx hlk hret (hb hby d5d1other_126) (by decide) (by decide) ?_
  show Q5d1other Z a1 a2 bo bt rc o0 o1 t0 t1 er es ea xA xE xD h0 n0 _ T107.heap _
  rw [e107]
  exact ⟨rfl, N101, K101, ⟨ga, go, gt, n1, n2, n3, E2, F_open, F_attr, F_rc, F_dp, ⟨_, F_di⟩, F_er, F_es, F_ea, ⟨_, V_o⟩, ⟨_, V_t⟩⟩⟩
theorem pn_0 : plainName "com/example/rewoven_tree/rewoventree/storage/TableShapeIsAtAttributesPinLaw" = true := by first | (simp [plainName, overriddenIn]; done) | decide +kernel
theorem pd0_0 : parseMethodDescriptor "(I)Lcom/example/rewoven_tree/rewoventree/storage/NodeKind;" = some ⟨[.int], some (.object "com/example/rewoven_tree/rewoventree/storage/NodeKind")⟩ := by decide +kernel
theorem pd0_1 : parseMethodDescriptor "()V" = some ⟨[], none⟩ := by decide +kernel
theorem pd0_2 : parseMethodDescriptor "(I)V" = some ⟨[.int], none⟩ := by decide +kernel
theorem pd0_3 : parseMethodDescriptor "(Lcom/example/rewoven_tree/rewoventree/storage/NodeKind;)I" = some ⟨[(.object "com/example/rewoven_tree/rewoventree/storage/NodeKind")], some .int⟩ := by decide +kernel
theorem pd0_4 : parseMethodDescriptor "()Z" = some ⟨[], some .boolean⟩ := by decide +kernel
theorem ef_0 (m : MethodId) (x0 : Int32) (x1 : Int32) (x2 : Int32) (x3 : Int32) : entryFrame m #[(.int x0), (.int x1), (.int x2), (.int x3)] maxLocals = mkF m 0 #[.val (.int x0), .val (.int x1), .val (.int x2), .val (.int x3), .unset, .unset, .unset, .unset, .unset, .unset, .unset, .unset, .unset, .unset, .unset, .unset, .unset, .unset, .unset] [] := by first | (simp [entryFrame, mkF, argsToLocals, Value.category, maxLocals]; done) | rfl
def Q0 (Z : State) (p1 : Int32) (p2 : Int32) (p3 : Int32) (p4 : Int32) (a_ATTRIBUTE : Addr) (a_TEXT : Addr) (a_COMMENT : Addr) (a_PROCESSING_INSTRUCTION : Addr) (a_NAMESPACE : Addr) (a_ELEMENT : Addr) (a_DOCUMENT : Addr) (h0 : Heap) (n0 : Nat) (v : Option Value) (h : Heap) (L : List Loc) : Prop := v = some (.int 1) ∧ Fr n0 L
set_option maxRecDepth 65536 in
set_option maxHeartbeats 40000000 in
theorem rm0 (l : Launch) (Z : State) (a0 : Array Value) (hw : ∀ d ∈ tables_1, d.before a0 Z = true) (ws : List Jvm.Cond) (p1 : Int32) (p2 : Int32) (p3 : Int32) (p4 : Int32) (a_ATTRIBUTE : Addr) (a_TEXT : Addr) (a_COMMENT : Addr) (a_PROCESSING_INSTRUCTION : Addr) (a_NAMESPACE : Addr) (a_ELEMENT : Addr) (a_DOCUMENT : Addr) (h0 : Heap) (n0 : Nat) (Z0 : n0 ≤ h0.size) (O0 : Old Z n0 h0) (S_ATTRIBUTE : Sta Z Z.heap "com/example/rewoven_tree/rewoventree/storage/NodeKind" "ATTRIBUTE" "Lcom/example/rewoven_tree/rewoventree/storage/NodeKind;" (.ref a_ATTRIBUTE)) (S_TEXT : Sta Z Z.heap "com/example/rewoven_tree/rewoventree/storage/NodeKind" "TEXT" "Lcom/example/rewoven_tree/rewoventree/storage/NodeKind;" (.ref a_TEXT)) (S_COMMENT : Sta Z Z.heap "com/example/rewoven_tree/rewoventree/storage/NodeKind" "COMMENT" "Lcom/example/rewoven_tree/rewoventree/storage/NodeKind;" (.ref a_COMMENT)) (S_PROCESSING_INSTRUCTION : Sta Z Z.heap "com/example/rewoven_tree/rewoventree/storage/NodeKind" "PROCESSING_INSTRUCTION" "Lcom/example/rewoven_tree/rewoventree/storage/NodeKind;" (.ref a_PROCESSING_INSTRUCTION)) (S_NAMESPACE : Sta Z Z.heap "com/example/rewoven_tree/rewoventree/storage/NodeKind" "NAMESPACE" "Lcom/example/rewoven_tree/rewoventree/storage/NodeKind;" (.ref a_NAMESPACE)) (S_ELEMENT : Sta Z Z.heap "com/example/rewoven_tree/rewoventree/storage/NodeKind" "ELEMENT" "Lcom/example/rewoven_tree/rewoventree/storage/NodeKind;" (.ref a_ELEMENT)) (S_DOCUMENT : Sta Z Z.heap "com/example/rewoven_tree/rewoventree/storage/NodeKind" "DOCUMENT" "Lcom/example/rewoven_tree/rewoventree/storage/NodeKind;" (.ref a_DOCUMENT)) (n_ATTRIBUTE_ELEMENT : a_ATTRIBUTE ≠ a_ELEMENT) (n_ATTRIBUTE_DOCUMENT : a_ATTRIBUTE ≠ a_DOCUMENT) (n_TEXT_ELEMENT : a_TEXT ≠ a_ELEMENT) (n_TEXT_DOCUMENT : a_TEXT ≠ a_DOCUMENT) (n_COMMENT_ELEMENT : a_COMMENT ≠ a_ELEMENT) (n_COMMENT_DOCUMENT : a_COMMENT ≠ a_DOCUMENT) (n_PROCESSING_INSTRUCTION_ELEMENT : a_PROCESSING_INSTRUCTION ≠ a_ELEMENT) (n_PROCESSING_INSTRUCTION_DOCUMENT : a_PROCESSING_INSTRUCTION ≠ a_DOCUMENT) (n_NAMESPACE_ELEMENT : a_NAMESPACE ≠ a_ELEMENT) (n_NAMESPACE_DOCUMENT : a_NAMESPACE ≠ a_DOCUMENT) :
    MetFree l x (head1 (Jvm.Cond.code x code maxLocals ret :: ws) room_1) (fun a U => a = #[(.int p1), (.int p2), (.int p3), (.int p4)] ∧ Z.Warmed39 U.vm ∧ U.heap = h0) (fun _ _ _ _ _ => True) (fun _ U o U' => ∃ v L, o = .returned v ∧ Q0 Z p1 p2 p3 p4 a_ATTRIBUTE a_TEXT a_COMMENT a_PROCESSING_INSTRUCTION a_NAMESPACE a_ELEMENT a_DOCUMENT h0 n0 v U'.heap L ∧ FrameEnd U o U' L room_1.cells room_1.slots) := by
  have ww0 := hw _ (List.mem_of_getElem? (i := 0) rfl)
  have ww3 := hw _ (List.mem_of_getElem? (i := 3) rfl)
  have ww4 := hw _ (List.mem_of_getElem? (i := 4) rfl)
  have ww5 := hw _ (List.mem_of_getElem? (i := 5) rfl)
  have ww6 := hw _ (List.mem_of_getElem? (i := 6) rfl)
  have ww8 := hw _ (List.mem_of_getElem? (i := 8) rfl)
  have ww10 := hw _ (List.mem_of_getElem? (i := 10) rfl)
  have ww12 := hw _ (List.mem_of_getElem? (i := 12) rfl)
  have ww13 := hw _ (List.mem_of_getElem? (i := 13) rfl)
  have ww14 := hw _ (List.mem_of_getElem? (i := 14) rfl)
  have ww15 := hw _ (List.mem_of_getElem? (i := 15) rfl)
  have ww16 := hw _ (List.mem_of_getElem? (i := 16) rfl)
  have ww17 := hw _ (List.mem_of_getElem? (i := 17) rfl)
  have ww23 := hw _ (List.mem_of_getElem? (i := 23) rfl)
  have ww25 := hw _ (List.mem_of_getElem? (i := 25) rfl)
  have ww26 := hw _ (List.mem_of_getElem? (i := 26) rfl)
  have ww27 := hw _ (List.mem_of_getElem? (i := 27) rfl)
  have ww28 := hw _ (List.mem_of_getElem? (i := 28) rfl)
  have ww29 := hw _ (List.mem_of_getElem? (i := 29) rfl)
  have ww30 := hw _ (List.mem_of_getElem? (i := 30) rfl)
  have ww32 := hw _ (List.mem_of_getElem? (i := 32) rfl)
  have ww33 := hw _ (List.mem_of_getElem? (i := 33) rfl)
  have ww34 := hw _ (List.mem_of_getElem? (i := 34) rfl)
  have ww35 := hw _ (List.mem_of_getElem? (i := 35) rfl)
  have ww36 := hw _ (List.mem_of_getElem? (i := 36) rfl)
  have ww37 := hw _ (List.mem_of_getElem? (i := 37) rfl)
  have ww44 := hw _ (List.mem_of_getElem? (i := 44) rfl)
  have ww46 := hw _ (List.mem_of_getElem? (i := 46) rfl)
  have ww50 := hw _ (List.mem_of_getElem? (i := 50) rfl)
  have ww51 := hw _ (List.mem_of_getElem? (i := 51) rfl)
  have ww52 := hw _ (List.mem_of_getElem? (i := 52) rfl)
  have ww53 := hw _ (List.mem_of_getElem? (i := 53) rfl)
  have ww54 := hw _ (List.mem_of_getElem? (i := 54) rfl)
  have ww55 := hw _ (List.mem_of_getElem? (i := 55) rfl)
  have ww56 := hw _ (List.mem_of_getElem? (i := 56) rfl)
  have ww57 := hw _ (List.mem_of_getElem? (i := 57) rfl)
  have ww58 := hw _ (List.mem_of_getElem? (i := 58) rfl)
  have ww59 := hw _ (List.mem_of_getElem? (i := 59) rfl)
  have ww60 := hw _ (List.mem_of_getElem? (i := 60) rfl)
  have ww61 := hw _ (List.mem_of_getElem? (i := 61) rfl)
  have ww62 := hw _ (List.mem_of_getElem? (i := 62) rfl)
  have ww63 := hw _ (List.mem_of_getElem? (i := 63) rfl)
  have ww64 := hw _ (List.mem_of_getElem? (i := 64) rfl)
  have ww66 := hw _ (List.mem_of_getElem? (i := 66) rfl)
  have ww68 := hw _ (List.mem_of_getElem? (i := 68) rfl)
  have ww70 := hw _ (List.mem_of_getElem? (i := 70) rfl)
  refine MetFree.of_bodySF (plainFor_of_name pn_0) hisR ?_
  intro p e s m args below meth c s₁ Bd hml0 hP hK
  obtain ⟨rfl, hZ, hh⟩ := hP
  have hx := Bd.exec
  have hby := Bd.bytes
  have hlk : meth.locks = false := Bd.notSynchronized
  have hret := Bd.returns
  have hml : c.maxLocals = 19 := hml0
  have hown : s.vm.findClass "com/example/rewoven_tree/rewoventree/storage/TableShapeIsAtAttributesPinLaw" = some m.cls := findClass_of_methodNamed Bd.named
  have hnm := (name_of_methodNamed Bd.named Bd.method).1
  have X0 : Stand p l e room_1 s m #[(.int p1), (.int p2), (.int p3), (.int p4)] below meth c s₁ [] 0 0 := Stand.of_body Bd
  have e0 : s₁.heap = h0 := by rw [← hh, Bd.state]; rfl
  have N0 := Fr.nil n0
  have K0 := Keep.refl h0 []
  show OwnEnd p e below s (Q0 Z p1 p2 p3 p4 a_ATTRIBUTE a_TEXT a_COMMENT a_PROCESSING_INSTRUCTION a_NAMESPACE a_ELEMENT a_DOCUMENT h0 n0) room_1.cells room_1.slots _
  refine OwnEnd.go (fun _ k => castTop (ef_0 m p1 p2 p3 p4) k) ?_
  show OwnEnd p e below s _ _ _ (s₁.setTop (mkF m 0 #[.val (.int p1), .val (.int p2), .val (.int p3), .val (.int p4), .unset, .unset, .unset, .unset, .unset, .unset, .unset, .unset, .unset, .unset, .unset, .unset, .unset, .unset, .unset] []))
  refine OwnEnd.go (fun _ k => XS.iloadN X0.here hx rfl (hb hby at_0) rfl  k) ?_
  show OwnEnd p e below s _ _ _ (s₁.setTop (mkF m 1 #[.val (.int p1), .val (.int p2), .val (.int p3), .val (.int p4), .unset, .unset, .unset, .unset, .unset, .unset, .unset, .unset, .unset, .unset, .unset, .unset, .unset, .unset, .unset] [(.int p1)]))
  refine OwnEnd.go (fun _ k => XS.iconst X0.here hx rfl (hb hby at_1) k) ?_
  show OwnEnd p e below s _ _ _ (s₁.setTop (mkF m 2 #[.val (.int p1), .val (.int p2), .val (.int p3), .val (.int p4), .unset, .unset, .unset, .unset, .unset, .unset, .unset, .unset, .unset, .unset, .unset, .unset, .unset, .unset, .unset] [(.int (3 : Int32)), (.int p1)]))
  refine OwnEnd.go (fun _ k => XS.iand X0.here hx rfl (hb hby at_2) rfl k) ?_
  show OwnEnd p e below s _ _ _ (s₁.setTop (mkF m 3 #[.val (.int p1), .val (.int p2), .val (.int p3), .val (.int p4), .unset, .unset, .unset, .unset, .unset, .unset, .unset, .unset, .unset, .unset, .unset, .unset, .unset, .unset, .unset] [(.int (p1 &&& (3 : Int32)))]))
  refine OwnEnd.go (fun _ k => XS.istore X0.here hx rfl (hb hby at_3) rfl  (l' := #[.val (.int p1), .val (.int p2), .val (.int p3), .val (.int p4), .val (.int (p1 &&& (3 : Int32))), .unset, .unset, .unset, .unset, .unset, .unset, .unset, .unset, .unset, .unset, .unset, .unset, .unset, .unset]) rfl k) ?_
  show OwnEnd p e below s _ _ _ (s₁.setTop (mkF m 5 #[.val (.int p1), .val (.int p2), .val (.int p3), .val (.int p4), .val (.int (p1 &&& (3 : Int32))), .unset, .unset, .unset, .unset, .unset, .unset, .unset, .unset, .unset, .unset, .unset, .unset, .unset, .unset] []))
  refine OwnEnd.go (fun _ k => XS.iloadN X0.here hx rfl (hb hby at_5) rfl  k) ?_
  show OwnEnd p e below s _ _ _ (s₁.setTop (mkF m 6 #[.val (.int p1), .val (.int p2), .val (.int p3), .val (.int p4), .val (.int (p1 &&& (3 : Int32))), .unset, .unset, .unset, .unset, .unset, .unset, .unset, .unset, .unset, .unset, .unset, .unset, .unset, .unset] [(.int p2)]))
  refine OwnEnd.go (fun _ k => XS.iconst X0.here hx rfl (hb hby at_6) k) ?_
  show OwnEnd p e below s _ _ _ (s₁.setTop (mkF m 7 #[.val (.int p1), .val (.int p2), .val (.int p3), .val (.int p4), .val (.int (p1 &&& (3 : Int32))), .unset, .unset, .unset, .unset, .unset, .unset, .unset, .unset, .unset, .unset, .unset, .unset, .unset, .unset] [(.int (1 : Int32)), (.int p2)]))
  refine OwnEnd.go (fun _ k => XS.iand X0.here hx rfl (hb hby at_7) rfl k) ?_
  show OwnEnd p e below s _ _ _ (s₁.setTop (mkF m 8 #[.val (.int p1), .val (.int p2), .val (.int p3), .val (.int p4), .val (.int (p1 &&& (3 : Int32))), .unset, .unset, .unset, .unset, .unset, .unset, .unset, .unset, .unset, .unset, .unset, .unset, .unset, .unset] [(.int (p2 &&& (1 : Int32)))]))
  have D101 : ownDia X0 h0 (fun v : Int32 => True) (fun v => (mkF m 16 #[.val (.int p1), .val (.int p2), .val (.int p3), .val (.int p4), .val (.int (p1 &&& (3 : Int32))), .unset, .unset, .unset, .unset, .unset, .unset, .unset, .unset, .unset, .unset, .unset, .unset, .unset, .unset] [(.int v)])) (mkF m 8 #[.val (.int p1), .val (.int p2), .val (.int p3), .val (.int p4), .val (.int (p1 &&& (3 : Int32))), .unset, .unset, .unset, .unset, .unset, .unset, .unset, .unset, .unset, .unset, .unset, .unset, .unset, .unset] [(.int (p2 &&& (1 : Int32)))]) := by
    by_cases hc : (p2 &&& (1 : Int32)) = (0 : Int32)
    · refine ⟨_, (0 : Int32), X0, e0, trivial, fun t k => ?_⟩
      refine XS.ifYes X0.here hx rfl (pc0 := 8) (pc' := 15) rfl (hb hby at_8) rfl ((if0 _ _).trans (teq hc).1) (by decide) (by decide) ?_
      show Steps p.tables e below (s₁.setTop (mkF m 15 #[.val (.int p1), .val (.int p2), .val (.int p3), .val (.int p4), .val (.int (p1 &&& (3 : Int32))), .unset, .unset, .unset, .unset, .unset, .unset, .unset, .unset, .unset, .unset, .unset, .unset, .unset, .unset] [])) _
      refine XS.iconst X0.here hx rfl (hb hby at_15) ?_
      show Steps p.tables e below (s₁.setTop (mkF m 16 #[.val (.int p1), .val (.int p2), .val (.int p3), .val (.int p4), .val (.int (p1 &&& (3 : Int32))), .unset, .unset, .unset, .unset, .unset, .unset, .unset, .unset, .unset, .unset, .unset, .unset, .unset, .unset] [(.int (0 : Int32))])) _
      exact k
    · refine ⟨_, (1 : Int32), X0, e0, trivial, fun t k => ?_⟩
      refine XS.ifNo X0.here hx rfl (hb hby at_8) rfl ((if0 _ _).trans (feq hc).1) ?_
      show Steps p.tables e below (s₁.setTop (mkF m 11 #[.val (.int p1), .val (.int p2), .val (.int p3), .val (.int p4), .val (.int (p1 &&& (3 : Int32))), .unset, .unset, .unset, .unset, .unset, .unset, .unset, .unset, .unset, .unset, .unset, .unset, .unset, .unset] [])) _
      refine XS.iconst X0.here hx rfl (hb hby at_11) ?_
      show Steps p.tables e below (s₁.setTop (mkF m 12 #[.val (.int p1), .val (.int p2), .val (.int p3), .val (.int p4), .val (.int (p1 &&& (3 : Int32))), .unset, .unset, .unset, .unset, .unset, .unset, .unset, .unset, .unset, .unset, .unset, .unset, .unset, .unset] [(.int (1 : Int32))])) _
      refine XS.goto X0.here hx rfl (pc0 := 12) (pc' := 16) rfl (hb hby at_12) (by decide) (by decide) ?_
      show Steps p.tables e below (s₁.setTop (mkF m 16 #[.val (.int p1), .val (.int p2), .val (.int p3), .val (.int p4), .val (.int (p1 &&& (3 : Int32))), .unset, .unset, .unset, .unset, .unset, .unset, .unset, .unset, .unset, .unset, .unset, .unset, .unset, .unset] [(.int (1 : Int32))])) _
      exact k
  obtain ⟨T101, v101, X101, e101, P101, st101⟩ := D101
  refine OwnEnd.go st101 ?_
  show OwnEnd p e below s _ _ _ (T101.setTop (mkF m 16 #[.val (.int p1), .val (.int p2), .val (.int p3), .val (.int p4), .val (.int (p1 &&& (3 : Int32))), .unset, .unset, .unset, .unset, .unset, .unset, .unset, .unset, .unset, .unset, .unset, .unset, .unset, .unset] [(.int v101)]))
  refine OwnEnd.go (fun _ k => XS.istore X101.here hx rfl (hb hby at_16) rfl  (l' := #[.val (.int p1), .val (.int p2), .val (.int p3), .val (.int p4), .val (.int (p1 &&& (3 : Int32))), .val (.int v101), .unset, .unset, .unset, .unset, .unset, .unset, .unset, .unset, .unset, .unset, .unset, .unset, .unset]) rfl k) ?_
  show OwnEnd p e below s _ _ _ (T101.setTop (mkF m 18 #[.val (.int p1), .val (.int p2), .val (.int p3), .val (.int p4), .val (.int (p1 &&& (3 : Int32))), .val (.int v101), .unset, .unset, .unset, .unset, .unset, .unset, .unset, .unset, .unset, .unset, .unset, .unset, .unset] []))
  refine OwnEnd.go (fun _ k => XS.iloadN X101.here hx rfl (hb hby at_18) rfl  k) ?_
  show OwnEnd p e below s _ _ _ (T101.setTop (mkF m 19 #[.val (.int p1), .val (.int p2), .val (.int p3), .val (.int p4), .val (.int (p1 &&& (3 : Int32))), .val (.int v101), .unset, .unset, .unset, .unset, .unset, .unset, .unset, .unset, .unset, .unset, .unset, .unset, .unset] [(.int p2)]))
  refine OwnEnd.go (fun _ k => XS.iconst X101.here hx rfl (hb hby at_19) k) ?_
  show OwnEnd p e below s _ _ _ (T101.setTop (mkF m 20 #[.val (.int p1), .val (.int p2), .val (.int p3), .val (.int p4), .val (.int (p1 &&& (3 : Int32))), .val (.int v101), .unset, .unset, .unset, .unset, .unset, .unset, .unset, .unset, .unset, .unset, .unset, .unset, .unset] [(.int (2 : Int32)), (.int p2)]))
  refine OwnEnd.go (fun _ k => XS.iand X101.here hx rfl (hb hby at_20) rfl k) ?_
  show OwnEnd p e below s _ _ _ (T101.setTop (mkF m 21 #[.val (.int p1), .val (.int p2), .val (.int p3), .val (.int p4), .val (.int (p1 &&& (3 : Int32))), .val (.int v101), .unset, .unset, .unset, .unset, .unset, .unset, .unset, .unset, .unset, .unset, .unset, .unset, .unset] [(.int (p2 &&& (2 : Int32)))]))
  have D102 : ownDia X101 h0 (fun v : Addr => v = a_ELEMENT ∨ v = a_DOCUMENT) (fun v => (mkF m 33 #[.val (.int p1), .val (.int p2), .val (.int p3), .val (.int p4), .val (.int (p1 &&& (3 : Int32))), .val (.int v101), .unset, .unset, .unset, .unset, .unset, .unset, .unset, .unset, .unset, .unset, .unset, .unset, .unset] [(.ref v)])) (mkF m 21 #[.val (.int p1), .val (.int p2), .val (.int p3), .val (.int p4), .val (.int (p1 &&& (3 : Int32))), .val (.int v101), .unset, .unset, .unset, .unset, .unset, .unset, .unset, .unset, .unset, .unset, .unset, .unset, .unset] [(.int (p2 &&& (2 : Int32)))]) := by
    by_cases hc : (p2 &&& (2 : Int32)) = (0 : Int32)
    · obtain ⟨T103, X103, e103, st103⟩ := getS2 X101 hx hZ hown (host := "") (Or.inl ww10) Via.refl e101 (S_ELEMENT.ext O0.2) (g := (mkF m 30 #[.val (.int p1), .val (.int p2), .val (.int p3), .val (.int p4), .val (.int (p1 &&& (3 : Int32))), .val (.int v101), .unset, .unset, .unset, .unset, .unset, .unset, .unset, .unset, .unset, .unset, .unset, .unset, .unset] [])) rfl (hb hby at_30)
      refine ⟨_, a_ELEMENT, X103, e103, (Or.inl rfl), fun t k => ?_⟩
      refine XS.ifYes X101.here hx rfl (pc0 := 21) (pc' := 30) rfl (hb hby at_21) rfl ((if0 _ _).trans (teq hc).1) (by decide) (by decide) ?_
      show Steps p.tables e below (T101.setTop (mkF m 30 #[.val (.int p1), .val (.int p2), .val (.int p3), .val (.int p4), .val (.int (p1 &&& (3 : Int32))), .val (.int v101), .unset, .unset, .unset, .unset, .unset, .unset, .unset, .unset, .unset, .unset, .unset, .unset, .unset] [])) _
      refine st103 _ ?_
      show Steps p.tables e below (T103.setTop (mkF m 33 #[.val (.int p1), .val (.int p2), .val (.int p3), .val (.int p4), .val (.int (p1 &&& (3 : Int32))), .val (.int v101), .unset, .unset, .unset, .unset, .unset, .unset, .unset, .unset, .unset, .unset, .unset, .unset, .unset] [(.ref a_ELEMENT)])) _
      exact k
    · obtain ⟨T104, X104, e104, st104⟩ := getS2 X101 hx hZ hown (host := "") (Or.inl ww0) Via.refl e101 (S_DOCUMENT.ext O0.2) (g := (mkF m 24 #[.val (.int p1), .val (.int p2), .val (.int p3), .val (.int p4), .val (.int (p1 &&& (3 : Int32))), .val (.int v101), .unset, .unset, .unset, .unset, .unset, .unset, .unset, .unset, .unset, .unset, .unset, .unset, .unset] [])) rfl (hb hby at_24)
      refine ⟨_, a_DOCUMENT, X104, e104, (Or.inr rfl), fun t k => ?_⟩
      refine XS.ifNo X101.here hx rfl (hb hby at_21) rfl ((if0 _ _).trans (feq hc).1) ?_
      show Steps p.tables e below (T101.setTop (mkF m 24 #[.val (.int p1), .val (.int p2), .val (.int p3), .val (.int p4), .val (.int (p1 &&& (3 : Int32))), .val (.int v101), .unset, .unset, .unset, .unset, .unset, .unset, .unset, .unset, .unset, .unset, .unset, .unset, .unset] [])) _
      refine st104 _ ?_
      show Steps p.tables e below (T104.setTop (mkF m 27 #[.val (.int p1), .val (.int p2), .val (.int p3), .val (.int p4), .val (.int (p1 &&& (3 : Int32))), .val (.int v101), .unset, .unset, .unset, .unset, .unset, .unset, .unset, .unset, .unset, .unset, .unset, .unset, .unset] [(.ref a_DOCUMENT)])) _
      refine XS.goto X104.here hx rfl (pc0 := 27) (pc' := 33) rfl (hb hby at_27) (by decide) (by decide) ?_
      show Steps p.tables e below (T104.setTop (mkF m 33 #[.val (.int p1), .val (.int p2), .val (.int p3), .val (.int p4), .val (.int (p1 &&& (3 : Int32))), .val (.int v101), .unset, .unset, .unset, .unset, .unset, .unset, .unset, .unset, .unset, .unset, .unset, .unset, .unset] [(.ref a_DOCUMENT)])) _
      exact k
  obtain ⟨T102, v102, X102, e102, P102, st102⟩ := D102
  refine OwnEnd.go st102 ?_
  show OwnEnd p e below s _ _ _ (T102.setTop (mkF m 33 #[.val (.int p1), .val (.int p2), .val (.int p3), .val (.int p4), .val (.int (p1 &&& (3 : Int32))), .val (.int v101), .unset, .unset, .unset, .unset, .unset, .unset, .unset, .unset, .unset, .unset, .unset, .unset, .unset] [(.ref v102)]))
  have nk102 : v102 ≠ a_ATTRIBUTE := fun q => P102.elim (fun z => n_ATTRIBUTE_ELEMENT (q.symm.trans z)) (fun z => n_ATTRIBUTE_DOCUMENT (q.symm.trans z))
  refine OwnEnd.go (fun _ k => XS.astore X102.here hx rfl (hb hby at_33) rfl rfl (l' := #[.val (.int p1), .val (.int p2), .val (.int p3), .val (.int p4), .val (.int (p1 &&& (3 : Int32))), .val (.int v101), .val (.ref v102), .unset, .unset, .unset, .unset, .unset, .unset, .unset, .unset, .unset, .unset, .unset, .unset]) rfl k) ?_
  show OwnEnd p e below s _ _ _ (T102.setTop (mkF m 35 #[.val (.int p1), .val (.int p2), .val (.int p3), .val (.int p4), .val (.int (p1 &&& (3 : Int32))), .val (.int v101), .val (.ref v102), .unset, .unset, .unset, .unset, .unset, .unset, .unset, .unset, .unset, .unset, .unset, .unset] []))
  refine OwnEnd.go (fun _ k => XS.iloadN X102.here hx rfl (hb hby at_35) rfl  k) ?_
  show OwnEnd p e below s _ _ _ (T102.setTop (mkF m 36 #[.val (.int p1), .val (.int p2), .val (.int p3), .val (.int p4), .val (.int (p1 &&& (3 : Int32))), .val (.int v101), .val (.ref v102), .unset, .unset, .unset, .unset, .unset, .unset, .unset, .unset, .unset, .unset, .unset, .unset] [(.int p2)]))
  refine OwnEnd.go (fun _ k => XS.iconst X102.here hx rfl (hb hby at_36) k) ?_
  show OwnEnd p e below s _ _ _ (T102.setTop (mkF m 37 #[.val (.int p1), .val (.int p2), .val (.int p3), .val (.int p4), .val (.int (p1 &&& (3 : Int32))), .val (.int v101), .val (.ref v102), .unset, .unset, .unset, .unset, .unset, .unset, .unset, .unset, .unset, .unset, .unset, .unset] [(.int (2 : Int32)), (.int p2)]))
  refine OwnEnd.go (fun _ k => XS.iushr X102.here hx rfl (hb hby at_37) rfl k) ?_
  show OwnEnd p e below s _ _ _ (T102.setTop (mkF m 38 #[.val (.int p1), .val (.int p2), .val (.int p3), .val (.int p4), .val (.int (p1 &&& (3 : Int32))), .val (.int v101), .val (.ref v102), .unset, .unset, .unset, .unset, .unset, .unset, .unset, .unset, .unset, .unset, .unset, .unset] [(.int ((p2.toUInt32 >>> ((2 : Int32) &&& 31).toUInt32).toInt32))]))
  obtain ⟨_, T105, L105, X105, hQ105, st105⟩ := ownCallS X102 hx hZ hown ww3 ww4 ww5 ww6 (by decide) (rm1 l Z a0 hw [] ((p2.toUInt32 >>> ((2 : Int32) &&& 31).toUInt32).toInt32) a_ATTRIBUTE a_TEXT a_COMMENT a_PROCESSING_INSTRUCTION a_NAMESPACE a_ELEMENT a_DOCUMENT h0 n0 Z0 O0 S_ATTRIBUTE S_TEXT S_COMMENT S_PROCESSING_INSTRUCTION S_NAMESPACE n_ATTRIBUTE_ELEMENT n_ATTRIBUTE_DOCUMENT n_TEXT_ELEMENT n_TEXT_DOCUMENT n_COMMENT_ELEMENT n_COMMENT_DOCUMENT n_PROCESSING_INSTRUCTION_ELEMENT n_PROCESSING_INSTRUCTION_DOCUMENT n_NAMESPACE_ELEMENT n_NAMESPACE_DOCUMENT) e102 0 (by decide) (by decide) (by decide) (by decide) (g := (mkF m 38 #[.val (.int p1), .val (.int p2), .val (.int p3), .val (.int p4), .val (.int (p1 &&& (3 : Int32))), .val (.int v101), .val (.ref v102), .unset, .unset, .unset, .unset, .unset, .unset, .unset, .unset, .unset, .unset, .unset, .unset] [(.int ((p2.toUInt32 >>> ((2 : Int32) &&& 31).toUInt32).toInt32))])) rfl (by rw [hml]; rfl) (argsL := [(.int ((p2.toUInt32 >>> ((2 : Int32) &&& 31).toUInt32).toInt32))]) (rest := []) (lenOf pd0_0 rfl) rfl rfl (by show 2 * 0 + _ ≤ _; exact Nat.le_of_eq rfl) (hb hby at_38)
  obtain ⟨y108, hQ105⟩ := hQ105
  obtain ⟨rfl, N105q, e105, P106, P107⟩ := hQ105
  have N105 := Fr.app N0 N105q
  refine OwnEnd.go (fun _ k => st105 _ k) ?_
  show OwnEnd p e below s _ _ _ (T105.setTop (mkF m 41 #[.val (.int p1), .val (.int p2), .val (.int p3), .val (.int p4), .val (.int (p1 &&& (3 : Int32))), .val (.int v101), .val (.ref v102), .unset, .unset, .unset, .unset, .unset, .unset, .unset, .unset, .unset, .unset, .unset, .unset] [(.ref y108)]))
  refine OwnEnd.go (fun _ k => XS.astore X105.here hx rfl (hb hby at_41) rfl rfl (l' := #[.val (.int p1), .val (.int p2), .val (.int p3), .val (.int p4), .val (.int (p1 &&& (3 : Int32))), .val (.int v101), .val (.ref v102), .val (.ref y108), .unset, .unset, .unset, .unset, .unset, .unset, .unset, .unset, .unset, .unset, .unset]) rfl k) ?_
  show OwnEnd p e below s _ _ _ (T105.setTop (mkF m 43 #[.val (.int p1), .val (.int p2), .val (.int p3), .val (.int p4), .val (.int (p1 &&& (3 : Int32))), .val (.int v101), .val (.ref v102), .val (.ref y108), .unset, .unset, .unset, .unset, .unset, .unset, .unset, .unset, .unset, .unset, .unset] []))
  refine OwnEnd.go (fun _ k => XS.iloadN X105.here hx rfl (hb hby at_43) rfl  k) ?_
  show OwnEnd p e below s _ _ _ (T105.setTop (mkF m 44 #[.val (.int p1), .val (.int p2), .val (.int p3), .val (.int p4), .val (.int (p1 &&& (3 : Int32))), .val (.int v101), .val (.ref v102), .val (.ref y108), .unset, .unset, .unset, .unset, .unset, .unset, .unset, .unset, .unset, .unset, .unset] [(.int p3)]))
  refine OwnEnd.go (fun _ k => XS.iconst X105.here hx rfl (hb hby at_44) k) ?_
  show OwnEnd p e below s _ _ _ (T105.setTop (mkF m 45 #[.val (.int p1), .val (.int p2), .val (.int p3), .val (.int p4), .val (.int (p1 &&& (3 : Int32))), .val (.int v101), .val (.ref v102), .val (.ref y108), .unset, .unset, .unset, .unset, .unset, .unset, .unset, .unset, .unset, .unset, .unset] [(.int (1 : Int32)), (.int p3)]))
  refine OwnEnd.go (fun _ k => XS.iand X105.here hx rfl (hb hby at_45) rfl k) ?_
  show OwnEnd p e below s _ _ _ (T105.setTop (mkF m 46 #[.val (.int p1), .val (.int p2), .val (.int p3), .val (.int p4), .val (.int (p1 &&& (3 : Int32))), .val (.int v101), .val (.ref v102), .val (.ref y108), .unset, .unset, .unset, .unset, .unset, .unset, .unset, .unset, .unset, .unset, .unset] [(.int (p3 &&& (1 : Int32)))]))
  have D109 : ownDia X105 h0 (fun v : Int32 => True) (fun v => (mkF m 54 #[.val (.int p1), .val (.int p2), .val (.int p3), .val (.int p4), .val (.int (p1 &&& (3 : Int32))), .val (.int v101), .val (.ref v102), .val (.ref y108), .unset, .unset, .unset, .unset, .unset, .unset, .unset, .unset, .unset, .unset, .unset] [(.int v)])) (mkF m 46 #[.val (.int p1), .val (.int p2), .val (.int p3), .val (.int p4), .val (.int (p1 &&& (3 : Int32))), .val (.int v101), .val (.ref v102), .val (.ref y108), .unset, .unset, .unset, .unset, .unset, .unset, .unset, .unset, .unset, .unset, .unset] [(.int (p3 &&& (1 : Int32)))]) := by
    by_cases hc : (p3 &&& (1 : Int32)) = (0 : Int32)
    · refine ⟨_, (0 : Int32), X105, e105, trivial, fun t k => ?_⟩
      refine XS.ifYes X105.here hx rfl (pc0 := 46) (pc' := 53) rfl (hb hby at_46) rfl ((if0 _ _).trans (teq hc).1) (by decide) (by decide) ?_
      show Steps p.tables e below (T105.setTop (mkF m 53 #[.val (.int p1), .val (.int p2), .val (.int p3), .val (.int p4), .val (.int (p1 &&& (3 : Int32))), .val (.int v101), .val (.ref v102), .val (.ref y108), .unset, .unset, .unset, .unset, .unset, .unset, .unset, .unset, .unset, .unset, .unset] [])) _
      refine XS.iconst X105.here hx rfl (hb hby at_53) ?_
      show Steps p.tables e below (T105.setTop (mkF m 54 #[.val (.int p1), .val (.int p2), .val (.int p3), .val (.int p4), .val (.int (p1 &&& (3 : Int32))), .val (.int v101), .val (.ref v102), .val (.ref y108), .unset, .unset, .unset, .unset, .unset, .unset, .unset, .unset, .unset, .unset, .unset] [(.int (0 : Int32))])) _
      exact k
    · refine ⟨_, (1 : Int32), X105, e105, trivial, fun t k => ?_⟩
      refine XS.ifNo X105.here hx rfl (hb hby at_46) rfl ((if0 _ _).trans (feq hc).1) ?_
      show Steps p.tables e below (T105.setTop (mkF m 49 #[.val (.int p1), .val (.int p2), .val (.int p3), .val (.int p4), .val (.int (p1 &&& (3 : Int32))), .val (.int v101), .val (.ref v102), .val (.ref y108), .unset, .unset, .unset, .unset, .unset, .unset, .unset, .unset, .unset, .unset, .unset] [])) _
      refine XS.iconst X105.here hx rfl (hb hby at_49) ?_
      show Steps p.tables e below (T105.setTop (mkF m 50 #[.val (.int p1), .val (.int p2), .val (.int p3), .val (.int p4), .val (.int (p1 &&& (3 : Int32))), .val (.int v101), .val (.ref v102), .val (.ref y108), .unset, .unset, .unset, .unset, .unset, .unset, .unset, .unset, .unset, .unset, .unset] [(.int (1 : Int32))])) _
      refine XS.goto X105.here hx rfl (pc0 := 50) (pc' := 54) rfl (hb hby at_50) (by decide) (by decide) ?_
      show Steps p.tables e below (T105.setTop (mkF m 54 #[.val (.int p1), .val (.int p2), .val (.int p3), .val (.int p4), .val (.int (p1 &&& (3 : Int32))), .val (.int v101), .val (.ref v102), .val (.ref y108), .unset, .unset, .unset, .unset, .unset, .unset, .unset, .unset, .unset, .unset, .unset] [(.int (1 : Int32))])) _
      exact k
  obtain ⟨T109, v109, X109, e109, P109, st109⟩ := D109
  refine OwnEnd.go st109 ?_
  show OwnEnd p e below s _ _ _ (T109.setTop (mkF m 54 #[.val (.int p1), .val (.int p2), .val (.int p3), .val (.int p4), .val (.int (p1 &&& (3 : Int32))), .val (.int v101), .val (.ref v102), .val (.ref y108), .unset, .unset, .unset, .unset, .unset, .unset, .unset, .unset, .unset, .unset, .unset] [(.int v109)]))
  refine OwnEnd.go (fun _ k => XS.istore X109.here hx rfl (hb hby at_54) rfl  (l' := #[.val (.int p1), .val (.int p2), .val (.int p3), .val (.int p4), .val (.int (p1 &&& (3 : Int32))), .val (.int v101), .val (.ref v102), .val (.ref y108), .val (.int v109), .unset, .unset, .unset, .unset, .unset, .unset, .unset, .unset, .unset, .unset]) rfl k) ?_
  show OwnEnd p e below s _ _ _ (T109.setTop (mkF m 56 #[.val (.int p1), .val (.int p2), .val (.int p3), .val (.int p4), .val (.int (p1 &&& (3 : Int32))), .val (.int v101), .val (.ref v102), .val (.ref y108), .val (.int v109), .unset, .unset, .unset, .unset, .unset, .unset, .unset, .unset, .unset, .unset] []))
  refine OwnEnd.go (fun _ k => XS.iloadN X109.here hx rfl (hb hby at_56) rfl  k) ?_
  show OwnEnd p e below s _ _ _ (T109.setTop (mkF m 57 #[.val (.int p1), .val (.int p2), .val (.int p3), .val (.int p4), .val (.int (p1 &&& (3 : Int32))), .val (.int v101), .val (.ref v102), .val (.ref y108), .val (.int v109), .unset, .unset, .unset, .unset, .unset, .unset, .unset, .unset, .unset, .unset] [(.int p3)]))
  refine OwnEnd.go (fun _ k => XS.iconst X109.here hx rfl (hb hby at_57) k) ?_
  show OwnEnd p e below s _ _ _ (T109.setTop (mkF m 58 #[.val (.int p1), .val (.int p2), .val (.int p3), .val (.int p4), .val (.int (p1 &&& (3 : Int32))), .val (.int v101), .val (.ref v102), .val (.ref y108), .val (.int v109), .unset, .unset, .unset, .unset, .unset, .unset, .unset, .unset, .unset, .unset] [(.int (2 : Int32)), (.int p3)]))
  refine OwnEnd.go (fun _ k => XS.iand X109.here hx rfl (hb hby at_58) rfl k) ?_
  show OwnEnd p e below s _ _ _ (T109.setTop (mkF m 59 #[.val (.int p1), .val (.int p2), .val (.int p3), .val (.int p4), .val (.int (p1 &&& (3 : Int32))), .val (.int v101), .val (.ref v102), .val (.ref y108), .val (.int v109), .unset, .unset, .unset, .unset, .unset, .unset, .unset, .unset, .unset, .unset] [(.int (p3 &&& (2 : Int32)))]))
  have D110 : ownDia X109 h0 (fun v : Int32 => True) (fun v => (mkF m 67 #[.val (.int p1), .val (.int p2), .val (.int p3), .val (.int p4), .val (.int (p1 &&& (3 : Int32))), .val (.int v101), .val (.ref v102), .val (.ref y108), .val (.int v109), .unset, .unset, .unset, .unset, .unset, .unset, .unset, .unset, .unset, .unset] [(.int v)])) (mkF m 59 #[.val (.int p1), .val (.int p2), .val (.int p3), .val (.int p4), .val (.int (p1 &&& (3 : Int32))), .val (.int v101), .val (.ref v102), .val (.ref y108), .val (.int v109), .unset, .unset, .unset, .unset, .unset, .unset, .unset, .unset, .unset, .unset] [(.int (p3 &&& (2 : Int32)))]) := by
    by_cases hc : (p3 &&& (2 : Int32)) = (0 : Int32)
    · refine ⟨_, (0 : Int32), X109, e109, trivial, fun t k => ?_⟩
      refine XS.ifYes X109.here hx rfl (pc0 := 59) (pc' := 66) rfl (hb hby at_59) rfl ((if0 _ _).trans (teq hc).1) (by decide) (by decide) ?_
      show Steps p.tables e below (T109.setTop (mkF m 66 #[.val (.int p1), .val (.int p2), .val (.int p3), .val (.int p4), .val (.int (p1 &&& (3 : Int32))), .val (.int v101), .val (.ref v102), .val (.ref y108), .val (.int v109), .unset, .unset, .unset, .unset, .unset, .unset, .unset, .unset, .unset, .unset] [])) _
      refine XS.iconst X109.here hx rfl (hb hby at_66) ?_
      show Steps p.tables e below (T109.setTop (mkF m 67 #[.val (.int p1), .val (.int p2), .val (.int p3), .val (.int p4), .val (.int (p1 &&& (3 : Int32))), .val (.int v101), .val (.ref v102), .val (.ref y108), .val (.int v109), .unset, .unset, .unset, .unset, .unset, .unset, .unset, .unset, .unset, .unset] [(.int (0 : Int32))])) _
      exact k
    · refine ⟨_, (1 : Int32), X109, e109, trivial, fun t k => ?_⟩
      refine XS.ifNo X109.here hx rfl (hb hby at_59) rfl ((if0 _ _).trans (feq hc).1) ?_
      show Steps p.tables e below (T109.setTop (mkF m 62 #[.val (.int p1), .val (.int p2), .val (.int p3), .val (.int p4), .val (.int (p1 &&& (3 : Int32))), .val (.int v101), .val (.ref v102), .val (.ref y108), .val (.int v109), .unset, .unset, .unset, .unset, .unset, .unset, .unset, .unset, .unset, .unset] [])) _
      refine XS.iconst X109.here hx rfl (hb hby at_62) ?_
      show Steps p.tables e below (T109.setTop (mkF m 63 #[.val (.int p1), .val (.int p2), .val (.int p3), .val (.int p4), .val (.int (p1 &&& (3 : Int32))), .val (.int v101), .val (.ref v102), .val (.ref y108), .val (.int v109), .unset, .unset, .unset, .unset, .unset, .unset, .unset, .unset, .unset, .unset] [(.int (1 : Int32))])) _
      refine XS.goto X109.here hx rfl (pc0 := 63) (pc' := 67) rfl (hb hby at_63) (by decide) (by decide) ?_
      show Steps p.tables e below (T109.setTop (mkF m 67 #[.val (.int p1), .val (.int p2), .val (.int p3), .val (.int p4), .val (.int (p1 &&& (3 : Int32))), .val (.int v101), .val (.ref v102), .val (.ref y108), .val (.int v109), .unset, .unset, .unset, .unset, .unset, .unset, .unset, .unset, .unset, .unset] [(.int (1 : Int32))])) _
      exact k
  obtain ⟨T110, v110, X110, e110, P110, st110⟩ := D110
  refine OwnEnd.go st110 ?_
  show OwnEnd p e below s _ _ _ (T110.setTop (mkF m 67 #[.val (.int p1), .val (.int p2), .val (.int p3), .val (.int p4), .val (.int (p1 &&& (3 : Int32))), .val (.int v101), .val (.ref v102), .val (.ref y108), .val (.int v109), .unset, .unset, .unset, .unset, .unset, .unset, .unset, .unset, .unset, .unset] [(.int v110)]))
  refine OwnEnd.go (fun _ k => XS.istore X110.here hx rfl (hb hby at_67) rfl  (l' := #[.val (.int p1), .val (.int p2), .val (.int p3), .val (.int p4), .val (.int (p1 &&& (3 : Int32))), .val (.int v101), .val (.ref v102), .val (.ref y108), .val (.int v109), .val (.int v110), .unset, .unset, .unset, .unset, .unset, .unset, .unset, .unset, .unset]) rfl k) ?_
  show OwnEnd p e below s _ _ _ (T110.setTop (mkF m 69 #[.val (.int p1), .val (.int p2), .val (.int p3), .val (.int p4), .val (.int (p1 &&& (3 : Int32))), .val (.int v101), .val (.ref v102), .val (.ref y108), .val (.int v109), .val (.int v110), .unset, .unset, .unset, .unset, .unset, .unset, .unset, .unset, .unset] []))
  refine OwnEnd.go (fun _ k => XS.iloadN X110.here hx rfl (hb hby at_69) rfl  k) ?_
  show OwnEnd p e below s _ _ _ (T110.setTop (mkF m 70 #[.val (.int p1), .val (.int p2), .val (.int p3), .val (.int p4), .val (.int (p1 &&& (3 : Int32))), .val (.int v101), .val (.ref v102), .val (.ref y108), .val (.int v109), .val (.int v110), .unset, .unset, .unset, .unset, .unset, .unset, .unset, .unset, .unset] [(.int p3)]))
  refine OwnEnd.go (fun _ k => XS.iconst X110.here hx rfl (hb hby at_70) k) ?_
  show OwnEnd p e below s _ _ _ (T110.setTop (mkF m 71 #[.val (.int p1), .val (.int p2), .val (.int p3), .val (.int p4), .val (.int (p1 &&& (3 : Int32))), .val (.int v101), .val (.ref v102), .val (.ref y108), .val (.int v109), .val (.int v110), .unset, .unset, .unset, .unset, .unset, .unset, .unset, .unset, .unset] [(.int (2 : Int32)), (.int p3)]))
  refine OwnEnd.go (fun _ k => XS.iushr X110.here hx rfl (hb hby at_71) rfl k) ?_
  show OwnEnd p e below s _ _ _ (T110.setTop (mkF m 72 #[.val (.int p1), .val (.int p2), .val (.int p3), .val (.int p4), .val (.int (p1 &&& (3 : Int32))), .val (.int v101), .val (.ref v102), .val (.ref y108), .val (.int v109), .val (.int v110), .unset, .unset, .unset, .unset, .unset, .unset, .unset, .unset, .unset] [(.int ((p3.toUInt32 >>> ((2 : Int32) &&& 31).toUInt32).toInt32))]))
  refine OwnEnd.go (fun _ k => XS.iconst X110.here hx rfl (hb hby at_72) k) ?_
  show OwnEnd p e below s _ _ _ (T110.setTop (mkF m 73 #[.val (.int p1), .val (.int p2), .val (.int p3), .val (.int p4), .val (.int (p1 &&& (3 : Int32))), .val (.int v101), .val (.ref v102), .val (.ref y108), .val (.int v109), .val (.int v110), .unset, .unset, .unset, .unset, .unset, .unset, .unset, .unset, .unset] [(.int (3 : Int32)), (.int ((p3.toUInt32 >>> ((2 : Int32) &&& 31).toUInt32).toInt32))]))
  refine OwnEnd.go (fun _ k => XS.iand X110.here hx rfl (hb hby at_73) rfl k) ?_
  show OwnEnd p e below s _ _ _ (T110.setTop (mkF m 74 #[.val (.int p1), .val (.int p2), .val (.int p3), .val (.int p4), .val (.int (p1 &&& (3 : Int32))), .val (.int v101), .val (.ref v102), .val (.ref y108), .val (.int v109), .val (.int v110), .unset, .unset, .unset, .unset, .unset, .unset, .unset, .unset, .unset] [(.int (((p3.toUInt32 >>> ((2 : Int32) &&& 31).toUInt32).toInt32) &&& (3 : Int32)))]))
  refine OwnEnd.go (fun _ k => XS.istore X110.here hx rfl (hb hby at_74) rfl  (l' := #[.val (.int p1), .val (.int p2), .val (.int p3), .val (.int p4), .val (.int (p1 &&& (3 : Int32))), .val (.int v101), .val (.ref v102), .val (.ref y108), .val (.int v109), .val (.int v110), .val (.int (((p3.toUInt32 >>> ((2 : Int32) &&& 31).toUInt32).toInt32) &&& (3 : Int32))), .unset, .unset, .unset, .unset, .unset, .unset, .unset, .unset]) rfl k) ?_
  show OwnEnd p e below s _ _ _ (T110.setTop (mkF m 76 #[.val (.int p1), .val (.int p2), .val (.int p3), .val (.int p4), .val (.int (p1 &&& (3 : Int32))), .val (.int v101), .val (.ref v102), .val (.ref y108), .val (.int v109), .val (.int v110), .val (.int (((p3.toUInt32 >>> ((2 : Int32) &&& 31).toUInt32).toInt32) &&& (3 : Int32))), .unset, .unset, .unset, .unset, .unset, .unset, .unset, .unset] []))
  refine OwnEnd.go (fun _ k => XS.iloadN X110.here hx rfl (hb hby at_76) rfl  k) ?_
  show OwnEnd p e below s _ _ _ (T110.setTop (mkF m 77 #[.val (.int p1), .val (.int p2), .val (.int p3), .val (.int p4), .val (.int (p1 &&& (3 : Int32))), .val (.int v101), .val (.ref v102), .val (.ref y108), .val (.int v109), .val (.int v110), .val (.int (((p3.toUInt32 >>> ((2 : Int32) &&& 31).toUInt32).toInt32) &&& (3 : Int32))), .unset, .unset, .unset, .unset, .unset, .unset, .unset, .unset] [(.int p3)]))
  refine OwnEnd.go (fun _ k => XS.iconst X110.here hx rfl (hb hby at_77) k) ?_
  show OwnEnd p e below s _ _ _ (T110.setTop (mkF m 78 #[.val (.int p1), .val (.int p2), .val (.int p3), .val (.int p4), .val (.int (p1 &&& (3 : Int32))), .val (.int v101), .val (.ref v102), .val (.ref y108), .val (.int v109), .val (.int v110), .val (.int (((p3.toUInt32 >>> ((2 : Int32) &&& 31).toUInt32).toInt32) &&& (3 : Int32))), .unset, .unset, .unset, .unset, .unset, .unset, .unset, .unset] [(.int (4 : Int32)), (.int p3)]))
  refine OwnEnd.go (fun _ k => XS.iushr X110.here hx rfl (hb hby at_78) rfl k) ?_
  show OwnEnd p e below s _ _ _ (T110.setTop (mkF m 79 #[.val (.int p1), .val (.int p2), .val (.int p3), .val (.int p4), .val (.int (p1 &&& (3 : Int32))), .val (.int v101), .val (.ref v102), .val (.ref y108), .val (.int v109), .val (.int v110), .val (.int (((p3.toUInt32 >>> ((2 : Int32) &&& 31).toUInt32).toInt32) &&& (3 : Int32))), .unset, .unset, .unset, .unset, .unset, .unset, .unset, .unset] [(.int ((p3.toUInt32 >>> ((4 : Int32) &&& 31).toUInt32).toInt32))]))
  refine OwnEnd.go (fun _ k => XS.iconst X110.here hx rfl (hb hby at_79) k) ?_
  show OwnEnd p e below s _ _ _ (T110.setTop (mkF m 80 #[.val (.int p1), .val (.int p2), .val (.int p3), .val (.int p4), .val (.int (p1 &&& (3 : Int32))), .val (.int v101), .val (.ref v102), .val (.ref y108), .val (.int v109), .val (.int v110), .val (.int (((p3.toUInt32 >>> ((2 : Int32) &&& 31).toUInt32).toInt32) &&& (3 : Int32))), .unset, .unset, .unset, .unset, .unset, .unset, .unset, .unset] [(.int (3 : Int32)), (.int ((p3.toUInt32 >>> ((4 : Int32) &&& 31).toUInt32).toInt32))]))
  refine OwnEnd.go (fun _ k => XS.iand X110.here hx rfl (hb hby at_80) rfl k) ?_
  show OwnEnd p e below s _ _ _ (T110.setTop (mkF m 81 #[.val (.int p1), .val (.int p2), .val (.int p3), .val (.int p4), .val (.int (p1 &&& (3 : Int32))), .val (.int v101), .val (.ref v102), .val (.ref y108), .val (.int v109), .val (.int v110), .val (.int (((p3.toUInt32 >>> ((2 : Int32) &&& 31).toUInt32).toInt32) &&& (3 : Int32))), .unset, .unset, .unset, .unset, .unset, .unset, .unset, .unset] [(.int (((p3.toUInt32 >>> ((4 : Int32) &&& 31).toUInt32).toInt32) &&& (3 : Int32)))]))
  refine OwnEnd.go (fun _ k => XS.istore X110.here hx rfl (hb hby at_81) rfl  (l' := #[.val (.int p1), .val (.int p2), .val (.int p3), .val (.int p4), .val (.int (p1 &&& (3 : Int32))), .val (.int v101), .val (.ref v102), .val (.ref y108), .val (.int v109), .val (.int v110), .val (.int (((p3.toUInt32 >>> ((2 : Int32) &&& 31).toUInt32).toInt32) &&& (3 : Int32))), .val (.int (((p3.toUInt32 >>> ((4 : Int32) &&& 31).toUInt32).toInt32) &&& (3 : Int32))), .unset, .unset, .unset, .unset, .unset, .unset, .unset]) rfl k) ?_
  show OwnEnd p e below s _ _ _ (T110.setTop (mkF m 83 #[.val (.int p1), .val (.int p2), .val (.int p3), .val (.int p4), .val (.int (p1 &&& (3 : Int32))), .val (.int v101), .val (.ref v102), .val (.ref y108), .val (.int v109), .val (.int v110), .val (.int (((p3.toUInt32 >>> ((2 : Int32) &&& 31).toUInt32).toInt32) &&& (3 : Int32))), .val (.int (((p3.toUInt32 >>> ((4 : Int32) &&& 31).toUInt32).toInt32) &&& (3 : Int32))), .unset, .unset, .unset, .unset, .unset, .unset, .unset] []))
  refine OwnEnd.go (fun _ k => XS.iloadN X110.here hx rfl (hb hby at_83) rfl  k) ?_
  show OwnEnd p e below s _ _ _ (T110.setTop (mkF m 84 #[.val (.int p1), .val (.int p2), .val (.int p3), .val (.int p4), .val (.int (p1 &&& (3 : Int32))), .val (.int v101), .val (.ref v102), .val (.ref y108), .val (.int v109), .val (.int v110), .val (.int (((p3.toUInt32 >>> ((2 : Int32) &&& 31).toUInt32).toInt32) &&& (3 : Int32))), .val (.int (((p3.toUInt32 >>> ((4 : Int32) &&& 31).toUInt32).toInt32) &&& (3 : Int32))), .unset, .unset, .unset, .unset, .unset, .unset, .unset] [(.int p4)]))
  refine OwnEnd.go (fun _ k => XS.iconst X110.here hx rfl (hb hby at_84) k) ?_
  show OwnEnd p e below s _ _ _ (T110.setTop (mkF m 85 #[.val (.int p1), .val (.int p2), .val (.int p3), .val (.int p4), .val (.int (p1 &&& (3 : Int32))), .val (.int v101), .val (.ref v102), .val (.ref y108), .val (.int v109), .val (.int v110), .val (.int (((p3.toUInt32 >>> ((2 : Int32) &&& 31).toUInt32).toInt32) &&& (3 : Int32))), .val (.int (((p3.toUInt32 >>> ((4 : Int32) &&& 31).toUInt32).toInt32) &&& (3 : Int32))), .unset, .unset, .unset, .unset, .unset, .unset, .unset] [(.int (3 : Int32)), (.int p4)]))
  refine OwnEnd.go (fun _ k => XS.iand X110.here hx rfl (hb hby at_85) rfl k) ?_
  show OwnEnd p e below s _ _ _ (T110.setTop (mkF m 86 #[.val (.int p1), .val (.int p2), .val (.int p3), .val (.int p4), .val (.int (p1 &&& (3 : Int32))), .val (.int v101), .val (.ref v102), .val (.ref y108), .val (.int v109), .val (.int v110), .val (.int (((p3.toUInt32 >>> ((2 : Int32) &&& 31).toUInt32).toInt32) &&& (3 : Int32))), .val (.int (((p3.toUInt32 >>> ((4 : Int32) &&& 31).toUInt32).toInt32) &&& (3 : Int32))), .unset, .unset, .unset, .unset, .unset, .unset, .unset] [(.int (p4 &&& (3 : Int32)))]))
  refine OwnEnd.go (fun _ k => XS.istore X110.here hx rfl (hb hby at_86) rfl  (l' := #[.val (.int p1), .val (.int p2), .val (.int p3), .val (.int p4), .val (.int (p1 &&& (3 : Int32))), .val (.int v101), .val (.ref v102), .val (.ref y108), .val (.int v109), .val (.int v110), .val (.int (((p3.toUInt32 >>> ((2 : Int32) &&& 31).toUInt32).toInt32) &&& (3 : Int32))), .val (.int (((p3.toUInt32 >>> ((4 : Int32) &&& 31).toUInt32).toInt32) &&& (3 : Int32))), .val (.int (p4 &&& (3 : Int32))), .unset, .unset, .unset, .unset, .unset, .unset]) rfl k) ?_
  show OwnEnd p e below s _ _ _ (T110.setTop (mkF m 88 #[.val (.int p1), .val (.int p2), .val (.int p3), .val (.int p4), .val (.int (p1 &&& (3 : Int32))), .val (.int v101), .val (.ref v102), .val (.ref y108), .val (.int v109), .val (.int v110), .val (.int (((p3.toUInt32 >>> ((2 : Int32) &&& 31).toUInt32).toInt32) &&& (3 : Int32))), .val (.int (((p3.toUInt32 >>> ((4 : Int32) &&& 31).toUInt32).toInt32) &&& (3 : Int32))), .val (.int (p4 &&& (3 : Int32))), .unset, .unset, .unset, .unset, .unset, .unset] []))
  refine OwnEnd.go (fun _ k => XS.iloadN X110.here hx rfl (hb hby at_88) rfl  k) ?_
  show OwnEnd p e below s _ _ _ (T110.setTop (mkF m 89 #[.val (.int p1), .val (.int p2), .val (.int p3), .val (.int p4), .val (.int (p1 &&& (3 : Int32))), .val (.int v101), .val (.ref v102), .val (.ref y108), .val (.int v109), .val (.int v110), .val (.int (((p3.toUInt32 >>> ((2 : Int32) &&& 31).toUInt32).toInt32) &&& (3 : Int32))), .val (.int (((p3.toUInt32 >>> ((4 : Int32) &&& 31).toUInt32).toInt32) &&& (3 : Int32))), .val (.int (p4 &&& (3 : Int32))), .unset, .unset, .unset, .unset, .unset, .unset] [(.int p4)]))
  refine OwnEnd.go (fun _ k => XS.iconst X110.here hx rfl (hb hby at_89) k) ?_
  show OwnEnd p e below s _ _ _ (T110.setTop (mkF m 90 #[.val (.int p1), .val (.int p2), .val (.int p3), .val (.int p4), .val (.int (p1 &&& (3 : Int32))), .val (.int v101), .val (.ref v102), .val (.ref y108), .val (.int v109), .val (.int v110), .val (.int (((p3.toUInt32 >>> ((2 : Int32) &&& 31).toUInt32).toInt32) &&& (3 : Int32))), .val (.int (((p3.toUInt32 >>> ((4 : Int32) &&& 31).toUInt32).toInt32) &&& (3 : Int32))), .val (.int (p4 &&& (3 : Int32))), .unset, .unset, .unset, .unset, .unset, .unset] [(.int (4 : Int32)), (.int p4)]))
  refine OwnEnd.go (fun _ k => XS.iand X110.here hx rfl (hb hby at_90) rfl k) ?_
  show OwnEnd p e below s _ _ _ (T110.setTop (mkF m 91 #[.val (.int p1), .val (.int p2), .val (.int p3), .val (.int p4), .val (.int (p1 &&& (3 : Int32))), .val (.int v101), .val (.ref v102), .val (.ref y108), .val (.int v109), .val (.int v110), .val (.int (((p3.toUInt32 >>> ((2 : Int32) &&& 31).toUInt32).toInt32) &&& (3 : Int32))), .val (.int (((p3.toUInt32 >>> ((4 : Int32) &&& 31).toUInt32).toInt32) &&& (3 : Int32))), .val (.int (p4 &&& (3 : Int32))), .unset, .unset, .unset, .unset, .unset, .unset] [(.int (p4 &&& (4 : Int32)))]))
  have D111 : ownDia X110 h0 (fun v : Int32 => True) (fun v => (mkF m 99 #[.val (.int p1), .val (.int p2), .val (.int p3), .val (.int p4), .val (.int (p1 &&& (3 : Int32))), .val (.int v101), .val (.ref v102), .val (.ref y108), .val (.int v109), .val (.int v110), .val (.int (((p3.toUInt32 >>> ((2 : Int32) &&& 31).toUInt32).toInt32) &&& (3 : Int32))), .val (.int (((p3.toUInt32 >>> ((4 : Int32) &&& 31).toUInt32).toInt32) &&& (3 : Int32))), .val (.int (p4 &&& (3 : Int32))), .unset, .unset, .unset, .unset, .unset, .unset] [(.int v)])) (mkF m 91 #[.val (.int p1), .val (.int p2), .val (.int p3), .val (.int p4), .val (.int (p1 &&& (3 : Int32))), .val (.int v101), .val (.ref v102), .val (.ref y108), .val (.int v109), .val (.int v110), .val (.int (((p3.toUInt32 >>> ((2 : Int32) &&& 31).toUInt32).toInt32) &&& (3 : Int32))), .val (.int (((p3.toUInt32 >>> ((4 : Int32) &&& 31).toUInt32).toInt32) &&& (3 : Int32))), .val (.int (p4 &&& (3 : Int32))), .unset, .unset, .unset, .unset, .unset, .unset] [(.int (p4 &&& (4 : Int32)))]) := by
    by_cases hc : (p4 &&& (4 : Int32)) = (0 : Int32)
    · refine ⟨_, (0 : Int32), X110, e110, trivial, fun t k => ?_⟩
      refine XS.ifYes X110.here hx rfl (pc0 := 91) (pc' := 98) rfl (hb hby at_91) rfl ((if0 _ _).trans (teq hc).1) (by decide) (by decide) ?_
      show Steps p.tables e below (T110.setTop (mkF m 98 #[.val (.int p1), .val (.int p2), .val (.int p3), .val (.int p4), .val (.int (p1 &&& (3 : Int32))), .val (.int v101), .val (.ref v102), .val (.ref y108), .val (.int v109), .val (.int v110), .val (.int (((p3.toUInt32 >>> ((2 : Int32) &&& 31).toUInt32).toInt32) &&& (3 : Int32))), .val (.int (((p3.toUInt32 >>> ((4 : Int32) &&& 31).toUInt32).toInt32) &&& (3 : Int32))), .val (.int (p4 &&& (3 : Int32))), .unset, .unset, .unset, .unset, .unset, .unset] [])) _
      refine XS.iconst X110.here hx rfl (hb hby at_98) ?_
      show Steps p.tables e below (T110.setTop (mkF m 99 #[.val (.int p1), .val (.int p2), .val (.int p3), .val (.int p4), .val (.int (p1 &&& (3 : Int32))), .val (.int v101), .val (.ref v102), .val (.ref y108), .val (.int v109), .val (.int v110), .val (.int (((p3.toUInt32 >>> ((2 : Int32) &&& 31).toUInt32).toInt32) &&& (3 : Int32))), .val (.int (((p3.toUInt32 >>> ((4 : Int32) &&& 31).toUInt32).toInt32) &&& (3 : Int32))), .val (.int (p4 &&& (3 : Int32))), .unset, .unset, .unset, .unset, .unset, .unset] [(.int (0 : Int32))])) _
      exact k
    · refine ⟨_, (1 : Int32), X110, e110, trivial, fun t k => ?_⟩
      refine XS.ifNo X110.here hx rfl (hb hby at_91) rfl ((if0 _ _).trans (feq hc).1) ?_
      show Steps p.tables e below (T110.setTop (mkF m 94 #[.val (.int p1), .val (.int p2), .val (.int p3), .val (.int p4), .val (.int (p1 &&& (3 : Int32))), .val (.int v101), .val (.ref v102), .val (.ref y108), .val (.int v109), .val (.int v110), .val (.int (((p3.toUInt32 >>> ((2 : Int32) &&& 31).toUInt32).toInt32) &&& (3 : Int32))), .val (.int (((p3.toUInt32 >>> ((4 : Int32) &&& 31).toUInt32).toInt32) &&& (3 : Int32))), .val (.int (p4 &&& (3 : Int32))), .unset, .unset, .unset, .unset, .unset, .unset] [])) _
      refine XS.iconst X110.here hx rfl (hb hby at_94) ?_
      show Steps p.tables e below (T110.setTop (mkF m 95 #[.val (.int p1), .val (.int p2), .val (.int p3), .val (.int p4), .val (.int (p1 &&& (3 : Int32))), .val (.int v101), .val (.ref v102), .val (.ref y108), .val (.int v109), .val (.int v110), .val (.int (((p3.toUInt32 >>> ((2 : Int32) &&& 31).toUInt32).toInt32) &&& (3 : Int32))), .val (.int (((p3.toUInt32 >>> ((4 : Int32) &&& 31).toUInt32).toInt32) &&& (3 : Int32))), .val (.int (p4 &&& (3 : Int32))), .unset, .unset, .unset, .unset, .unset, .unset] [(.int (1 : Int32))])) _
      refine XS.goto X110.here hx rfl (pc0 := 95) (pc' := 99) rfl (hb hby at_95) (by decide) (by decide) ?_
      show Steps p.tables e below (T110.setTop (mkF m 99 #[.val (.int p1), .val (.int p2), .val (.int p3), .val (.int p4), .val (.int (p1 &&& (3 : Int32))), .val (.int v101), .val (.ref v102), .val (.ref y108), .val (.int v109), .val (.int v110), .val (.int (((p3.toUInt32 >>> ((2 : Int32) &&& 31).toUInt32).toInt32) &&& (3 : Int32))), .val (.int (((p3.toUInt32 >>> ((4 : Int32) &&& 31).toUInt32).toInt32) &&& (3 : Int32))), .val (.int (p4 &&& (3 : Int32))), .unset, .unset, .unset, .unset, .unset, .unset] [(.int (1 : Int32))])) _
      exact k
  obtain ⟨T111, v111, X111, e111, P111, st111⟩ := D111
  refine OwnEnd.go st111 ?_
  show OwnEnd p e below s _ _ _ (T111.setTop (mkF m 99 #[.val (.int p1), .val (.int p2), .val (.int p3), .val (.int p4), .val (.int (p1 &&& (3 : Int32))), .val (.int v101), .val (.ref v102), .val (.ref y108), .val (.int v109), .val (.int v110), .val (.int (((p3.toUInt32 >>> ((2 : Int32) &&& 31).toUInt32).toInt32) &&& (3 : Int32))), .val (.int (((p3.toUInt32 >>> ((4 : Int32) &&& 31).toUInt32).toInt32) &&& (3 : Int32))), .val (.int (p4 &&& (3 : Int32))), .unset, .unset, .unset, .unset, .unset, .unset] [(.int v111)]))
  refine OwnEnd.go (fun _ k => XS.istore X111.here hx rfl (hb hby at_99) rfl  (l' := #[.val (.int p1), .val (.int p2), .val (.int p3), .val (.int p4), .val (.int (p1 &&& (3 : Int32))), .val (.int v101), .val (.ref v102), .val (.ref y108), .val (.int v109), .val (.int v110), .val (.int (((p3.toUInt32 >>> ((2 : Int32) &&& 31).toUInt32).toInt32) &&& (3 : Int32))), .val (.int (((p3.toUInt32 >>> ((4 : Int32) &&& 31).toUInt32).toInt32) &&& (3 : Int32))), .val (.int (p4 &&& (3 : Int32))), .val (.int v111), .unset, .unset, .unset, .unset, .unset]) rfl k) ?_
  show OwnEnd p e below s _ _ _ (T111.setTop (mkF m 101 #[.val (.int p1), .val (.int p2), .val (.int p3), .val (.int p4), .val (.int (p1 &&& (3 : Int32))), .val (.int v101), .val (.ref v102), .val (.ref y108), .val (.int v109), .val (.int v110), .val (.int (((p3.toUInt32 >>> ((2 : Int32) &&& 31).toUInt32).toInt32) &&& (3 : Int32))), .val (.int (((p3.toUInt32 >>> ((4 : Int32) &&& 31).toUInt32).toInt32) &&& (3 : Int32))), .val (.int (p4 &&& (3 : Int32))), .val (.int v111), .unset, .unset, .unset, .unset, .unset] []))
  refine OwnEnd.go (fun _ k => XS.iloadN X111.here hx rfl (hb hby at_101) rfl  k) ?_
  show OwnEnd p e below s _ _ _ (T111.setTop (mkF m 102 #[.val (.int p1), .val (.int p2), .val (.int p3), .val (.int p4), .val (.int (p1 &&& (3 : Int32))), .val (.int v101), .val (.ref v102), .val (.ref y108), .val (.int v109), .val (.int v110), .val (.int (((p3.toUInt32 >>> ((2 : Int32) &&& 31).toUInt32).toInt32) &&& (3 : Int32))), .val (.int (((p3.toUInt32 >>> ((4 : Int32) &&& 31).toUInt32).toInt32) &&& (3 : Int32))), .val (.int (p4 &&& (3 : Int32))), .val (.int v111), .unset, .unset, .unset, .unset, .unset] [(.int p4)]))
  refine OwnEnd.go (fun _ k => XS.bipush X111.here hx rfl (hb hby at_102) k) ?_
  show OwnEnd p e below s _ _ _ (T111.setTop (mkF m 104 #[.val (.int p1), .val (.int p2), .val (.int p3), .val (.int p4), .val (.int (p1 &&& (3 : Int32))), .val (.int v101), .val (.ref v102), .val (.ref y108), .val (.int v109), .val (.int v110), .val (.int (((p3.toUInt32 >>> ((2 : Int32) &&& 31).toUInt32).toInt32) &&& (3 : Int32))), .val (.int (((p3.toUInt32 >>> ((4 : Int32) &&& 31).toUInt32).toInt32) &&& (3 : Int32))), .val (.int (p4 &&& (3 : Int32))), .val (.int v111), .unset, .unset, .unset, .unset, .unset] [(.int (8 : Int32)), (.int p4)]))
  refine OwnEnd.go (fun _ k => XS.iand X111.here hx rfl (hb hby at_104) rfl k) ?_
  show OwnEnd p e below s _ _ _ (T111.setTop (mkF m 105 #[.val (.int p1), .val (.int p2), .val (.int p3), .val (.int p4), .val (.int (p1 &&& (3 : Int32))), .val (.int v101), .val (.ref v102), .val (.ref y108), .val (.int v109), .val (.int v110), .val (.int (((p3.toUInt32 >>> ((2 : Int32) &&& 31).toUInt32).toInt32) &&& (3 : Int32))), .val (.int (((p3.toUInt32 >>> ((4 : Int32) &&& 31).toUInt32).toInt32) &&& (3 : Int32))), .val (.int (p4 &&& (3 : Int32))), .val (.int v111), .unset, .unset, .unset, .unset, .unset] [(.int (p4 &&& (8 : Int32)))]))
  have D112 : ownDia X111 h0 (fun v : Addr => v = a_ELEMENT ∨ v = a_DOCUMENT) (fun v => (mkF m 117 #[.val (.int p1), .val (.int p2), .val (.int p3), .val (.int p4), .val (.int (p1 &&& (3 : Int32))), .val (.int v101), .val (.ref v102), .val (.ref y108), .val (.int v109), .val (.int v110), .val (.int (((p3.toUInt32 >>> ((2 : Int32) &&& 31).toUInt32).toInt32) &&& (3 : Int32))), .val (.int (((p3.toUInt32 >>> ((4 : Int32) &&& 31).toUInt32).toInt32) &&& (3 : Int32))), .val (.int (p4 &&& (3 : Int32))), .val (.int v111), .unset, .unset, .unset, .unset, .unset] [(.ref v)])) (mkF m 105 #[.val (.int p1), .val (.int p2), .val (.int p3), .val (.int p4), .val (.int (p1 &&& (3 : Int32))), .val (.int v101), .val (.ref v102), .val (.ref y108), .val (.int v109), .val (.int v110), .val (.int (((p3.toUInt32 >>> ((2 : Int32) &&& 31).toUInt32).toInt32) &&& (3 : Int32))), .val (.int (((p3.toUInt32 >>> ((4 : Int32) &&& 31).toUInt32).toInt32) &&& (3 : Int32))), .val (.int (p4 &&& (3 : Int32))), .val (.int v111), .unset, .unset, .unset, .unset, .unset] [(.int (p4 &&& (8 : Int32)))]) := by
    by_cases hc : (p4 &&& (8 : Int32)) = (0 : Int32)
    · obtain ⟨T113, X113, e113, st113⟩ := getS2 X111 hx hZ hown (host := "") (Or.inl ww10) Via.refl e111 (S_ELEMENT.ext O0.2) (g := (mkF m 114 #[.val (.int p1), .val (.int p2), .val (.int p3), .val (.int p4), .val (.int (p1 &&& (3 : Int32))), .val (.int v101), .val (.ref v102), .val (.ref y108), .val (.int v109), .val (.int v110), .val (.int (((p3.toUInt32 >>> ((2 : Int32) &&& 31).toUInt32).toInt32) &&& (3 : Int32))), .val (.int (((p3.toUInt32 >>> ((4 : Int32) &&& 31).toUInt32).toInt32) &&& (3 : Int32))), .val (.int (p4 &&& (3 : Int32))), .val (.int v111), .unset, .unset, .unset, .unset, .unset] [])) rfl (hb hby at_114)
      refine ⟨_, a_ELEMENT, X113, e113, (Or.inl rfl), fun t k => ?_⟩
      refine XS.ifYes X111.here hx rfl (pc0 := 105) (pc' := 114) rfl (hb hby at_105) rfl ((if0 _ _).trans (teq hc).1) (by decide) (by decide) ?_
      show Steps p.tables e below (T111.setTop (mkF m 114 #[.val (.int p1), .val (.int p2), .val (.int p3), .val (.int p4), .val (.int (p1 &&& (3 : Int32))), .val (.int v101), .val (.ref v102), .val (.ref y108), .val (.int v109), .val (.int v110), .val (.int (((p3.toUInt32 >>> ((2 : Int32) &&& 31).toUInt32).toInt32) &&& (3 : Int32))), .val (.int (((p3.toUInt32 >>> ((4 : Int32) &&& 31).toUInt32).toInt32) &&& (3 : Int32))), .val (.int (p4 &&& (3 : Int32))), .val (.int v111), .unset, .unset, .unset, .unset, .unset] [])) _
      refine st113 _ ?_
      show Steps p.tables e below (T113.setTop (mkF m 117 #[.val (.int p1), .val (.int p2), .val (.int p3), .val (.int p4), .val (.int (p1 &&& (3 : Int32))), .val (.int v101), .val (.ref v102), .val (.ref y108), .val (.int v109), .val (.int v110), .val (.int (((p3.toUInt32 >>> ((2 : Int32) &&& 31).toUInt32).toInt32) &&& (3 : Int32))), .val (.int (((p3.toUInt32 >>> ((4 : Int32) &&& 31).toUInt32).toInt32) &&& (3 : Int32))), .val (.int (p4 &&& (3 : Int32))), .val (.int v111), .unset, .unset, .unset, .unset, .unset] [(.ref a_ELEMENT)])) _
      exact k
    · obtain ⟨T114, X114, e114, st114⟩ := getS2 X111 hx hZ hown (host := "") (Or.inl ww0) Via.refl e111 (S_DOCUMENT.ext O0.2) (g := (mkF m 108 #[.val (.int p1), .val (.int p2), .val (.int p3), .val (.int p4), .val (.int (p1 &&& (3 : Int32))), .val (.int v101), .val (.ref v102), .val (.ref y108), .val (.int v109), .val (.int v110), .val (.int (((p3.toUInt32 >>> ((2 : Int32) &&& 31).toUInt32).toInt32) &&& (3 : Int32))), .val (.int (((p3.toUInt32 >>> ((4 : Int32) &&& 31).toUInt32).toInt32) &&& (3 : Int32))), .val (.int (p4 &&& (3 : Int32))), .val (.int v111), .unset, .unset, .unset, .unset, .unset] [])) rfl (hb hby at_108)
      refine ⟨_, a_DOCUMENT, X114, e114, (Or.inr rfl), fun t k => ?_⟩
      refine XS.ifNo X111.here hx rfl (hb hby at_105) rfl ((if0 _ _).trans (feq hc).1) ?_
      show Steps p.tables e below (T111.setTop (mkF m 108 #[.val (.int p1), .val (.int p2), .val (.int p3), .val (.int p4), .val (.int (p1 &&& (3 : Int32))), .val (.int v101), .val (.ref v102), .val (.ref y108), .val (.int v109), .val (.int v110), .val (.int (((p3.toUInt32 >>> ((2 : Int32) &&& 31).toUInt32).toInt32) &&& (3 : Int32))), .val (.int (((p3.toUInt32 >>> ((4 : Int32) &&& 31).toUInt32).toInt32) &&& (3 : Int32))), .val (.int (p4 &&& (3 : Int32))), .val (.int v111), .unset, .unset, .unset, .unset, .unset] [])) _
      refine st114 _ ?_
      show Steps p.tables e below (T114.setTop (mkF m 111 #[.val (.int p1), .val (.int p2), .val (.int p3), .val (.int p4), .val (.int (p1 &&& (3 : Int32))), .val (.int v101), .val (.ref v102), .val (.ref y108), .val (.int v109), .val (.int v110), .val (.int (((p3.toUInt32 >>> ((2 : Int32) &&& 31).toUInt32).toInt32) &&& (3 : Int32))), .val (.int (((p3.toUInt32 >>> ((4 : Int32) &&& 31).toUInt32).toInt32) &&& (3 : Int32))), .val (.int (p4 &&& (3 : Int32))), .val (.int v111), .unset, .unset, .unset, .unset, .unset] [(.ref a_DOCUMENT)])) _
      refine XS.goto X114.here hx rfl (pc0 := 111) (pc' := 117) rfl (hb hby at_111) (by decide) (by decide) ?_
      show Steps p.tables e below (T114.setTop (mkF m 117 #[.val (.int p1), .val (.int p2), .val (.int p3), .val (.int p4), .val (.int (p1 &&& (3 : Int32))), .val (.int v101), .val (.ref v102), .val (.ref y108), .val (.int v109), .val (.int v110), .val (.int (((p3.toUInt32 >>> ((2 : Int32) &&& 31).toUInt32).toInt32) &&& (3 : Int32))), .val (.int (((p3.toUInt32 >>> ((4 : Int32) &&& 31).toUInt32).toInt32) &&& (3 : Int32))), .val (.int (p4 &&& (3 : Int32))), .val (.int v111), .unset, .unset, .unset, .unset, .unset] [(.ref a_DOCUMENT)])) _
      exact k
  obtain ⟨T112, v112, X112, e112, P112, st112⟩ := D112
  refine OwnEnd.go st112 ?_
  show OwnEnd p e below s _ _ _ (T112.setTop (mkF m 117 #[.val (.int p1), .val (.int p2), .val (.int p3), .val (.int p4), .val (.int (p1 &&& (3 : Int32))), .val (.int v101), .val (.ref v102), .val (.ref y108), .val (.int v109), .val (.int v110), .val (.int (((p3.toUInt32 >>> ((2 : Int32) &&& 31).toUInt32).toInt32) &&& (3 : Int32))), .val (.int (((p3.toUInt32 >>> ((4 : Int32) &&& 31).toUInt32).toInt32) &&& (3 : Int32))), .val (.int (p4 &&& (3 : Int32))), .val (.int v111), .unset, .unset, .unset, .unset, .unset] [(.ref v112)]))
  have nk112 : v112 ≠ a_ATTRIBUTE := fun q => P112.elim (fun z => n_ATTRIBUTE_ELEMENT (q.symm.trans z)) (fun z => n_ATTRIBUTE_DOCUMENT (q.symm.trans z))
  refine OwnEnd.go (fun _ k => XS.astore X112.here hx rfl (hb hby at_117) rfl rfl (l' := #[.val (.int p1), .val (.int p2), .val (.int p3), .val (.int p4), .val (.int (p1 &&& (3 : Int32))), .val (.int v101), .val (.ref v102), .val (.ref y108), .val (.int v109), .val (.int v110), .val (.int (((p3.toUInt32 >>> ((2 : Int32) &&& 31).toUInt32).toInt32) &&& (3 : Int32))), .val (.int (((p3.toUInt32 >>> ((4 : Int32) &&& 31).toUInt32).toInt32) &&& (3 : Int32))), .val (.int (p4 &&& (3 : Int32))), .val (.int v111), .val (.ref v112), .unset, .unset, .unset, .unset]) rfl k) ?_
  show OwnEnd p e below s _ _ _ (T112.setTop (mkF m 119 #[.val (.int p1), .val (.int p2), .val (.int p3), .val (.int p4), .val (.int (p1 &&& (3 : Int32))), .val (.int v101), .val (.ref v102), .val (.ref y108), .val (.int v109), .val (.int v110), .val (.int (((p3.toUInt32 >>> ((2 : Int32) &&& 31).toUInt32).toInt32) &&& (3 : Int32))), .val (.int (((p3.toUInt32 >>> ((4 : Int32) &&& 31).toUInt32).toInt32) &&& (3 : Int32))), .val (.int (p4 &&& (3 : Int32))), .val (.int v111), .val (.ref v112), .unset, .unset, .unset, .unset] []))
  refine OwnEnd.go (fun _ k => XS.iloadN X112.here hx rfl (hb hby at_119) rfl  k) ?_
  show OwnEnd p e below s _ _ _ (T112.setTop (mkF m 120 #[.val (.int p1), .val (.int p2), .val (.int p3), .val (.int p4), .val (.int (p1 &&& (3 : Int32))), .val (.int v101), .val (.ref v102), .val (.ref y108), .val (.int v109), .val (.int v110), .val (.int (((p3.toUInt32 >>> ((2 : Int32) &&& 31).toUInt32).toInt32) &&& (3 : Int32))), .val (.int (((p3.toUInt32 >>> ((4 : Int32) &&& 31).toUInt32).toInt32) &&& (3 : Int32))), .val (.int (p4 &&& (3 : Int32))), .val (.int v111), .val (.ref v112), .unset, .unset, .unset, .unset] [(.int p4)]))
  refine OwnEnd.go (fun _ k => XS.iconst X112.here hx rfl (hb hby at_120) k) ?_
  show OwnEnd p e below s _ _ _ (T112.setTop (mkF m 121 #[.val (.int p1), .val (.int p2), .val (.int p3), .val (.int p4), .val (.int (p1 &&& (3 : Int32))), .val (.int v101), .val (.ref v102), .val (.ref y108), .val (.int v109), .val (.int v110), .val (.int (((p3.toUInt32 >>> ((2 : Int32) &&& 31).toUInt32).toInt32) &&& (3 : Int32))), .val (.int (((p3.toUInt32 >>> ((4 : Int32) &&& 31).toUInt32).toInt32) &&& (3 : Int32))), .val (.int (p4 &&& (3 : Int32))), .val (.int v111), .val (.ref v112), .unset, .unset, .unset, .unset] [(.int (4 : Int32)), (.int p4)]))
  refine OwnEnd.go (fun _ k => XS.iushr X112.here hx rfl (hb hby at_121) rfl k) ?_
  show OwnEnd p e below s _ _ _ (T112.setTop (mkF m 122 #[.val (.int p1), .val (.int p2), .val (.int p3), .val (.int p4), .val (.int (p1 &&& (3 : Int32))), .val (.int v101), .val (.ref v102), .val (.ref y108), .val (.int v109), .val (.int v110), .val (.int (((p3.toUInt32 >>> ((2 : Int32) &&& 31).toUInt32).toInt32) &&& (3 : Int32))), .val (.int (((p3.toUInt32 >>> ((4 : Int32) &&& 31).toUInt32).toInt32) &&& (3 : Int32))), .val (.int (p4 &&& (3 : Int32))), .val (.int v111), .val (.ref v112), .unset, .unset, .unset, .unset] [(.int ((p4.toUInt32 >>> ((4 : Int32) &&& 31).toUInt32).toInt32))]))
  obtain ⟨_, T115, L115, X115, hQ115, st115⟩ := ownCallS X112 hx hZ hown ww3 ww4 ww5 ww6 (by decide) (rm1 l Z a0 hw [] ((p4.toUInt32 >>> ((4 : Int32) &&& 31).toUInt32).toInt32) a_ATTRIBUTE a_TEXT a_COMMENT a_PROCESSING_INSTRUCTION a_NAMESPACE a_ELEMENT a_DOCUMENT h0 n0 Z0 O0 S_ATTRIBUTE S_TEXT S_COMMENT S_PROCESSING_INSTRUCTION S_NAMESPACE n_ATTRIBUTE_ELEMENT n_ATTRIBUTE_DOCUMENT n_TEXT_ELEMENT n_TEXT_DOCUMENT n_COMMENT_ELEMENT n_COMMENT_DOCUMENT n_PROCESSING_INSTRUCTION_ELEMENT n_PROCESSING_INSTRUCTION_DOCUMENT n_NAMESPACE_ELEMENT n_NAMESPACE_DOCUMENT) e112 0 (by decide) (by decide) (by decide) (by decide) (g := (mkF m 122 #[.val (.int p1), .val (.int p2), .val (.int p3), .val (.int p4), .val (.int (p1 &&& (3 : Int32))), .val (.int v101), .val (.ref v102), .val (.ref y108), .val (.int v109), .val (.int v110), .val (.int (((p3.toUInt32 >>> ((2 : Int32) &&& 31).toUInt32).toInt32) &&& (3 : Int32))), .val (.int (((p3.toUInt32 >>> ((4 : Int32) &&& 31).toUInt32).toInt32) &&& (3 : Int32))), .val (.int (p4 &&& (3 : Int32))), .val (.int v111), .val (.ref v112), .unset, .unset, .unset, .unset] [(.int ((p4.toUInt32 >>> ((4 : Int32) &&& 31).toUInt32).toInt32))])) rfl (by rw [hml]; rfl) (argsL := [(.int ((p4.toUInt32 >>> ((4 : Int32) &&& 31).toUInt32).toInt32))]) (rest := []) (lenOf pd0_0 rfl) rfl rfl (by show 2 * 0 + _ ≤ _; exact Nat.le_of_eq rfl) (hb hby at_122)
  obtain ⟨y118, hQ115⟩ := hQ115
  obtain ⟨rfl, N115q, e115, P116, P117⟩ := hQ115
  have N115 := Fr.app N105 N115q
  refine OwnEnd.go (fun _ k => st115 _ k) ?_
  show OwnEnd p e below s _ _ _ (T115.setTop (mkF m 125 #[.val (.int p1), .val (.int p2), .val (.int p3), .val (.int p4), .val (.int (p1 &&& (3 : Int32))), .val (.int v101), .val (.ref v102), .val (.ref y108), .val (.int v109), .val (.int v110), .val (.int (((p3.toUInt32 >>> ((2 : Int32) &&& 31).toUInt32).toInt32) &&& (3 : Int32))), .val (.int (((p3.toUInt32 >>> ((4 : Int32) &&& 31).toUInt32).toInt32) &&& (3 : Int32))), .val (.int (p4 &&& (3 : Int32))), .val (.int v111), .val (.ref v112), .unset, .unset, .unset, .unset] [(.ref y118)]))
  refine OwnEnd.go (fun _ k => XS.astore X115.here hx rfl (hb hby at_125) rfl rfl (l' := #[.val (.int p1), .val (.int p2), .val (.int p3), .val (.int p4), .val (.int (p1 &&& (3 : Int32))), .val (.int v101), .val (.ref v102), .val (.ref y108), .val (.int v109), .val (.int v110), .val (.int (((p3.toUInt32 >>> ((2 : Int32) &&& 31).toUInt32).toInt32) &&& (3 : Int32))), .val (.int (((p3.toUInt32 >>> ((4 : Int32) &&& 31).toUInt32).toInt32) &&& (3 : Int32))), .val (.int (p4 &&& (3 : Int32))), .val (.int v111), .val (.ref v112), .val (.ref y118), .unset, .unset, .unset]) rfl k) ?_
  show OwnEnd p e below s _ _ _ (T115.setTop (mkF m 127 #[.val (.int p1), .val (.int p2), .val (.int p3), .val (.int p4), .val (.int (p1 &&& (3 : Int32))), .val (.int v101), .val (.ref v102), .val (.ref y108), .val (.int v109), .val (.int v110), .val (.int (((p3.toUInt32 >>> ((2 : Int32) &&& 31).toUInt32).toInt32) &&& (3 : Int32))), .val (.int (((p3.toUInt32 >>> ((4 : Int32) &&& 31).toUInt32).toInt32) &&& (3 : Int32))), .val (.int (p4 &&& (3 : Int32))), .val (.int v111), .val (.ref v112), .val (.ref y118), .unset, .unset, .unset] []))
  obtain ⟨T119, h119, X119, e119, E119, A119, D119, -, st119⟩ := newO X115 hx hZ hown ww12 ww13 ww14 e115 (g := (mkF m 127 #[.val (.int p1), .val (.int p2), .val (.int p3), .val (.int p4), .val (.int (p1 &&& (3 : Int32))), .val (.int v101), .val (.ref v102), .val (.ref y108), .val (.int v109), .val (.int v110), .val (.int (((p3.toUInt32 >>> ((2 : Int32) &&& 31).toUInt32).toInt32) &&& (3 : Int32))), .val (.int (((p3.toUInt32 >>> ((4 : Int32) &&& 31).toUInt32).toInt32) &&& (3 : Int32))), .val (.int (p4 &&& (3 : Int32))), .val (.int v111), .val (.ref v112), .val (.ref y118), .unset, .unset, .unset] [])) rfl (hb hby at_127) (by decide) (by decide)
  obtain ⟨b119, g119⟩ : ∃ z, z = h0.size := ⟨_, rfl⟩
  rw [← g119] at A119 D119 st119
  have u119 : n0 ≤ b119 := Nat.le_trans Z0 (Nat.le_of_eq g119.symm)
  have v119 : h0.size ≤ b119 := Nat.le_trans K0.1 (Nat.le_of_eq g119.symm)
  have K119 := K0.ext E119
  have Y119 := Nat.le_trans Z0 E119.1
  have O119 := O0.ext E119
  have F120 : Fld Z h119 b119 "com/example/rewoven_tree/rewoventree/storage/TableShape" "open" "[I" .null := D119 (Or.inl ww23) (ty := (.array .int)) (by decide)
  have F121 : Fld Z h119 b119 "com/example/rewoven_tree/rewoventree/storage/TableShape" "attributes" "[I" .null := D119 (Or.inl ww25) (ty := (.array .int)) (by decide)
  have F122 : Fld Z h119 b119 "com/example/rewoven_tree/rewoventree/storage/TableShape" "rowCount" "I" (.int (0 : Int32)) := D119 (Or.inl ww32) (ty := .int) (by decide)
  have F123 : Fld Z h119 b119 "com/example/rewoven_tree/rewoventree/storage/TableShape" "depth" "I" (.int (0 : Int32)) := D119 (Or.inl ww44) (ty := .int) (by decide)
  have F124 : Fld Z h119 b119 "com/example/rewoven_tree/rewoventree/storage/TableShape" "distance" "I" (.int (0 : Int32)) := D119 (Or.inl ww46) (ty := .int) (by decide)
  have F125 : Fld Z h119 b119 "com/example/rewoven_tree/rewoventree/storage/TableShape" "endedRow" "I" (.int (0 : Int32)) := D119 (Or.inl ww66) (ty := .int) (by decide)
  have F126 : Fld Z h119 b119 "com/example/rewoven_tree/rewoventree/storage/TableShape" "endedSize" "I" (.int (0 : Int32)) := D119 (Or.inl ww68) (ty := .int) (by decide)
  have F127 : Fld Z h119 b119 "com/example/rewoven_tree/rewoventree/storage/TableShape" "endedAttributes" "I" (.int (0 : Int32)) := D119 (Or.inl ww70) (ty := .int) (by decide)
  refine OwnEnd.go (fun _ k => st119 _ k) ?_
  show OwnEnd p e below s _ _ _ (T119.setTop (mkF m 130 #[.val (.int p1), .val (.int p2), .val (.int p3), .val (.int p4), .val (.int (p1 &&& (3 : Int32))), .val (.int v101), .val (.ref v102), .val (.ref y108), .val (.int v109), .val (.int v110), .val (.int (((p3.toUInt32 >>> ((2 : Int32) &&& 31).toUInt32).toInt32) &&& (3 : Int32))), .val (.int (((p3.toUInt32 >>> ((4 : Int32) &&& 31).toUInt32).toInt32) &&& (3 : Int32))), .val (.int (p4 &&& (3 : Int32))), .val (.int v111), .val (.ref v112), .val (.ref y118), .unset, .unset, .unset] [(.ref b119)]))
  refine OwnEnd.go (fun _ k => XS.dup X119.here hx rfl (hb hby at_130) rfl rfl k) ?_
  show OwnEnd p e below s _ _ _ (T119.setTop (mkF m 131 #[.val (.int p1), .val (.int p2), .val (.int p3), .val (.int p4), .val (.int (p1 &&& (3 : Int32))), .val (.int v101), .val (.ref v102), .val (.ref y108), .val (.int v109), .val (.int v110), .val (.int (((p3.toUInt32 >>> ((2 : Int32) &&& 31).toUInt32).toInt32) &&& (3 : Int32))), .val (.int (((p3.toUInt32 >>> ((4 : Int32) &&& 31).toUInt32).toInt32) &&& (3 : Int32))), .val (.int (p4 &&& (3 : Int32))), .val (.int v111), .val (.ref v112), .val (.ref y118), .unset, .unset, .unset] [(.ref b119), (.ref b119)]))
  obtain ⟨_, T128, L128, X128, hQ128, st128⟩ := ownCallI X119 hx hZ hown rfl ww15 ww16 ww14 ww17 (by decide) (rm2 l Z a0 hw [] b119 h119 n0 Y119  F120 F121 F122 F123 F124 F125 F126 F127 A119 u119) e119 (b := b119) 1 (by decide) (by decide) (by decide) (by decide) (g := (mkF m 131 #[.val (.int p1), .val (.int p2), .val (.int p3), .val (.int p4), .val (.int (p1 &&& (3 : Int32))), .val (.int v101), .val (.ref v102), .val (.ref y108), .val (.int v109), .val (.int v110), .val (.int (((p3.toUInt32 >>> ((2 : Int32) &&& 31).toUInt32).toInt32) &&& (3 : Int32))), .val (.int (((p3.toUInt32 >>> ((4 : Int32) &&& 31).toUInt32).toInt32) &&& (3 : Int32))), .val (.int (p4 &&& (3 : Int32))), .val (.int v111), .val (.ref v112), .val (.ref y118), .unset, .unset, .unset] [(.ref b119), (.ref b119)])) rfl (by rw [hml]; rfl) (argsL := []) (rest := [(.ref b119)]) (lenOf pd0_1 rfl) rfl rfl (by show 2 * 0 + _ ≤ _; exact Nat.le_of_eq rfl) (hb hby at_131)
  obtain ⟨y134, y135, hQ128⟩ := hQ128
  obtain ⟨rfl, N128q, K128q, P129, P130, P131, P132, P133⟩ := hQ128
  have N128 := Fr.app N115 N128q
  have F136 := A119.keep K128q
  have K128 := K119.trans K128q (allS (Or.inr v119) all0)
  have Y128 := Nat.le_trans Y119 K128q.1
  have O128 := O119.keep K128q (allS u119 all0)
  refine OwnEnd.go (fun _ k => st128 _ k) ?_
  show OwnEnd p e below s _ _ _ (T128.setTop (mkF m 134 #[.val (.int p1), .val (.int p2), .val (.int p3), .val (.int p4), .val (.int (p1 &&& (3 : Int32))), .val (.int v101), .val (.ref v102), .val (.ref y108), .val (.int v109), .val (.int v110), .val (.int (((p3.toUInt32 >>> ((2 : Int32) &&& 31).toUInt32).toInt32) &&& (3 : Int32))), .val (.int (((p3.toUInt32 >>> ((4 : Int32) &&& 31).toUInt32).toInt32) &&& (3 : Int32))), .val (.int (p4 &&& (3 : Int32))), .val (.int v111), .val (.ref v112), .val (.ref y118), .unset, .unset, .unset] [(.ref b119)]))
  refine OwnEnd.go (fun _ k => XS.astore X128.here hx rfl (hb hby at_134) rfl rfl (l' := #[.val (.int p1), .val (.int p2), .val (.int p3), .val (.int p4), .val (.int (p1 &&& (3 : Int32))), .val (.int v101), .val (.ref v102), .val (.ref y108), .val (.int v109), .val (.int v110), .val (.int (((p3.toUInt32 >>> ((2 : Int32) &&& 31).toUInt32).toInt32) &&& (3 : Int32))), .val (.int (((p3.toUInt32 >>> ((4 : Int32) &&& 31).toUInt32).toInt32) &&& (3 : Int32))), .val (.int (p4 &&& (3 : Int32))), .val (.int v111), .val (.ref v112), .val (.ref y118), .val (.ref b119), .unset, .unset]) rfl k) ?_
  show OwnEnd p e below s _ _ _ (T128.setTop (mkF m 136 #[.val (.int p1), .val (.int p2), .val (.int p3), .val (.int p4), .val (.int (p1 &&& (3 : Int32))), .val (.int v101), .val (.ref v102), .val (.ref y108), .val (.int v109), .val (.int v110), .val (.int (((p3.toUInt32 >>> ((2 : Int32) &&& 31).toUInt32).toInt32) &&& (3 : Int32))), .val (.int (((p3.toUInt32 >>> ((4 : Int32) &&& 31).toUInt32).toInt32) &&& (3 : Int32))), .val (.int (p4 &&& (3 : Int32))), .val (.int v111), .val (.ref v112), .val (.ref y118), .val (.ref b119), .unset, .unset] []))
  refine OwnEnd.go (fun _ k => XS.aload X128.here hx rfl (hb hby at_136) rfl rfl k) ?_
  show OwnEnd p e below s _ _ _ (T128.setTop (mkF m 138 #[.val (.int p1), .val (.int p2), .val (.int p3), .val (.int p4), .val (.int (p1 &&& (3 : Int32))), .val (.int v101), .val (.ref v102), .val (.ref y108), .val (.int v109), .val (.int v110), .val (.int (((p3.toUInt32 >>> ((2 : Int32) &&& 31).toUInt32).toInt32) &&& (3 : Int32))), .val (.int (((p3.toUInt32 >>> ((4 : Int32) &&& 31).toUInt32).toInt32) &&& (3 : Int32))), .val (.int (p4 &&& (3 : Int32))), .val (.int v111), .val (.ref v112), .val (.ref y118), .val (.ref b119), .unset, .unset] [(.ref b119)]))
  refine OwnEnd.go (fun _ k => XS.iload X128.here hx rfl (hb hby at_138) rfl  k) ?_
  show OwnEnd p e below s _ _ _ (T128.setTop (mkF m 140 #[.val (.int p1), .val (.int p2), .val (.int p3), .val (.int p4), .val (.int (p1 &&& (3 : Int32))), .val (.int v101), .val (.ref v102), .val (.ref y108), .val (.int v109), .val (.int v110), .val (.int (((p3.toUInt32 >>> ((2 : Int32) &&& 31).toUInt32).toInt32) &&& (3 : Int32))), .val (.int (((p3.toUInt32 >>> ((4 : Int32) &&& 31).toUInt32).toInt32) &&& (3 : Int32))), .val (.int (p4 &&& (3 : Int32))), .val (.int v111), .val (.ref v112), .val (.ref y118), .val (.ref b119), .unset, .unset] [(.int (p1 &&& (3 : Int32))), (.ref b119)]))
  obtain ⟨_, T145, L145, X145, hQ145, st145⟩ := ownCallV X128 hx hZ hown ww26 ww27 ww29 ww28 ww14 ww30 (by decide) (rm4 l Z a0 hw [] b119 (p1 &&& (3 : Int32)) y134 y135 (0 : Int32) (0 : Int32) (0 : Int32) (0 : Int32) (0 : Int32) (0 : Int32) (0 : Int32) (0 : Int32) (0 : Int32) T128.heap n0 Y128  P133) (rfl : T128.heap = T128.heap) F136 0 (by decide) (by decide) (by decide) (by decide) (g := (mkF m 140 #[.val (.int p1), .val (.int p2), .val (.int p3), .val (.int p4), .val (.int (p1 &&& (3 : Int32))), .val (.int v101), .val (.ref v102), .val (.ref y108), .val (.int v109), .val (.int v110), .val (.int (((p3.toUInt32 >>> ((2 : Int32) &&& 31).toUInt32).toInt32) &&& (3 : Int32))), .val (.int (((p3.toUInt32 >>> ((4 : Int32) &&& 31).toUInt32).toInt32) &&& (3 : Int32))), .val (.int (p4 &&& (3 : Int32))), .val (.int v111), .val (.ref v112), .val (.ref y118), .val (.ref b119), .unset, .unset] [(.int (p1 &&& (3 : Int32))), (.ref b119)])) rfl (by rw [hml]; rfl) (argsL := [(.int (p1 &&& (3 : Int32)))]) (rest := []) (lenOf pd0_2 rfl) rfl rfl (by show 2 * 0 + _ ≤ _; exact Nat.le_of_eq rfl) (hb hby at_140)
  obtain ⟨rfl, N145q, K145q, P146⟩ := hQ145
  have N145 := Fr.app N128 N145q
  have F147 := F136.keep K145q
  have K145 := K128.trans K145q (allS (Or.inr v119) (allS (Or.inr (Nat.le_trans K119.1 P131)) (allS (Or.inr (Nat.le_trans K119.1 P132)) all0)))
  have Y145 := Nat.le_trans Y128 K145q.1
  have O145 := O128.keep K145q (allS u119 (allS P129 (allS P130 all0)))
  refine OwnEnd.go (fun _ k => st145 _ k) ?_
  show OwnEnd p e below s _ _ _ (T145.setTop (mkF m 143 #[.val (.int p1), .val (.int p2), .val (.int p3), .val (.int p4), .val (.int (p1 &&& (3 : Int32))), .val (.int v101), .val (.ref v102), .val (.ref y108), .val (.int v109), .val (.int v110), .val (.int (((p3.toUInt32 >>> ((2 : Int32) &&& 31).toUInt32).toInt32) &&& (3 : Int32))), .val (.int (((p3.toUInt32 >>> ((4 : Int32) &&& 31).toUInt32).toInt32) &&& (3 : Int32))), .val (.int (p4 &&& (3 : Int32))), .val (.int v111), .val (.ref v112), .val (.ref y118), .val (.ref b119), .unset, .unset] []))
  refine OwnEnd.go (fun _ k => XS.iload X145.here hx rfl (hb hby at_143) rfl  k) ?_
  show OwnEnd p e below s _ _ _ (T145.setTop (mkF m 145 #[.val (.int p1), .val (.int p2), .val (.int p3), .val (.int p4), .val (.int (p1 &&& (3 : Int32))), .val (.int v101), .val (.ref v102), .val (.ref y108), .val (.int v109), .val (.int v110), .val (.int (((p3.toUInt32 >>> ((2 : Int32) &&& 31).toUInt32).toInt32) &&& (3 : Int32))), .val (.int (((p3.toUInt32 >>> ((4 : Int32) &&& 31).toUInt32).toInt32) &&& (3 : Int32))), .val (.int (p4 &&& (3 : Int32))), .val (.int v111), .val (.ref v112), .val (.ref y118), .val (.ref b119), .unset, .unset] [(.int v101)]))
  by_cases hc149 : v101 = (0 : Int32)
  · refine OwnEnd.go (fun _ k => XS.ifYes X145.here hx rfl (pc0 := 145) (pc' := 159) rfl (hb hby at_145) rfl ((if0 _ _).trans (teq hc149).1) (by decide) (by decide) k) ?_
    show OwnEnd p e below s _ _ _ (T145.setTop (mkF m 159 #[.val (.int p1), .val (.int p2), .val (.int p3), .val (.int p4), .val (.int (p1 &&& (3 : Int32))), .val (.int v101), .val (.ref v102), .val (.ref y108), .val (.int v109), .val (.int v110), .val (.int (((p3.toUInt32 >>> ((2 : Int32) &&& 31).toUInt32).toInt32) &&& (3 : Int32))), .val (.int (((p3.toUInt32 >>> ((4 : Int32) &&& 31).toUInt32).toInt32) &&& (3 : Int32))), .val (.int (p4 &&& (3 : Int32))), .val (.int v111), .val (.ref v112), .val (.ref y118), .val (.ref b119), .unset, .unset] []))
    refine OwnEnd.go (fun _ k => XS.aload X145.here hx rfl (hb hby at_159) rfl rfl k) ?_
    show OwnEnd p e below s _ _ _ (T145.setTop (mkF m 161 #[.val (.int p1), .val (.int p2), .val (.int p3), .val (.int p4), .val (.int (p1 &&& (3 : Int32))), .val (.int v101), .val (.ref v102), .val (.ref y108), .val (.int v109), .val (.int v110), .val (.int (((p3.toUInt32 >>> ((2 : Int32) &&& 31).toUInt32).toInt32) &&& (3 : Int32))), .val (.int (((p3.toUInt32 >>> ((4 : Int32) &&& 31).toUInt32).toInt32) &&& (3 : Int32))), .val (.int (p4 &&& (3 : Int32))), .val (.int v111), .val (.ref v112), .val (.ref y118), .val (.ref b119), .unset, .unset] [(.ref b119)]))
    refine OwnEnd.go (fun _ k => XS.aload X145.here hx rfl (hb hby at_161) rfl rfl k) ?_
    show OwnEnd p e below s _ _ _ (T145.setTop (mkF m 163 #[.val (.int p1), .val (.int p2), .val (.int p3), .val (.int p4), .val (.int (p1 &&& (3 : Int32))), .val (.int v101), .val (.ref v102), .val (.ref y108), .val (.int v109), .val (.int v110), .val (.int (((p3.toUInt32 >>> ((2 : Int32) &&& 31).toUInt32).toInt32) &&& (3 : Int32))), .val (.int (((p3.toUInt32 >>> ((4 : Int32) &&& 31).toUInt32).toInt32) &&& (3 : Int32))), .val (.int (p4 &&& (3 : Int32))), .val (.int v111), .val (.ref v112), .val (.ref y118), .val (.ref b119), .unset, .unset] [(.ref y108), (.ref b119)]))
    obtain ⟨_, T150, L150, X150, hQ150, st150⟩ := ownCallV X145 hx hZ hown ww33 ww34 ww36 ww35 ww14 ww37 (by decide) (rm5d0leaf l Z a0 hw [] b119 y108 y134 y135 ((0 : Int32) + (p1 &&& (3 : Int32))) (0 : Int32) (0 : Int32) (0 : Int32) (0 : Int32) (0 : Int32) (0 : Int32) (0 : Int32) a_ATTRIBUTE a_ELEMENT a_DOCUMENT T145.heap n0 Y145 O145 S_ATTRIBUTE S_ELEMENT S_DOCUMENT P106 P107 P146) (rfl : T145.heap = T145.heap) F147 0 (by decide) (by decide) (by decide) (by decide) (g := (mkF m 163 #[.val (.int p1), .val (.int p2), .val (.int p3), .val (.int p4), .val (.int (p1 &&& (3 : Int32))), .val (.int v101), .val (.ref v102), .val (.ref y108), .val (.int v109), .val (.int v110), .val (.int (((p3.toUInt32 >>> ((2 : Int32) &&& 31).toUInt32).toInt32) &&& (3 : Int32))), .val (.int (((p3.toUInt32 >>> ((4 : Int32) &&& 31).toUInt32).toInt32) &&& (3 : Int32))), .val (.int (p4 &&& (3 : Int32))), .val (.int v111), .val (.ref v112), .val (.ref y118), .val (.ref b119), .unset, .unset] [(.ref y108), (.ref b119)])) rfl (by rw [hml]; rfl) (argsL := [(.ref y108)]) (rest := []) (lenOf pd0_3 rfl) rfl rfl (by show 2 * 0 + _ ≤ _; exact Nat.le_of_eq rfl) (hb hby at_163)
    obtain ⟨rfl, N150q, K150q, P151⟩ := hQ150
    have N150 := Fr.app N145 N150q
    have F152 := F147.keep K150q
    have K150 := K145.trans K150q (allS (Or.inr v119) (allS (Or.inr (Nat.le_trans K119.1 P131)) (allS (Or.inr (Nat.le_trans K119.1 P132)) all0)))
    have Y150 := Nat.le_trans Y145 K150q.1
    have O150 := O145.keep K150q (allS u119 (allS P129 (allS P130 all0)))
    refine OwnEnd.go (fun _ k => st150 _ k) ?_
    show OwnEnd p e below s _ _ _ (T150.setTop (mkF m 166 #[.val (.int p1), .val (.int p2), .val (.int p3), .val (.int p4), .val (.int (p1 &&& (3 : Int32))), .val (.int v101), .val (.ref v102), .val (.ref y108), .val (.int v109), .val (.int v110), .val (.int (((p3.toUInt32 >>> ((2 : Int32) &&& 31).toUInt32).toInt32) &&& (3 : Int32))), .val (.int (((p3.toUInt32 >>> ((4 : Int32) &&& 31).toUInt32).toInt32) &&& (3 : Int32))), .val (.int (p4 &&& (3 : Int32))), .val (.int v111), .val (.ref v112), .val (.ref y118), .val (.ref b119), .unset, .unset] [(.int ((0 : Int32) + (p1 &&& (3 : Int32))))]))
    refine OwnEnd.go (fun _ k => XS.pop X150.here hx rfl (hb hby at_166) rfl rfl k) ?_
    show OwnEnd p e below s _ _ _ (T150.setTop (mkF m 167 #[.val (.int p1), .val (.int p2), .val (.int p3), .val (.int p4), .val (.int (p1 &&& (3 : Int32))), .val (.int v101), .val (.ref v102), .val (.ref y108), .val (.int v109), .val (.int v110), .val (.int (((p3.toUInt32 >>> ((2 : Int32) &&& 31).toUInt32).toInt32) &&& (3 : Int32))), .val (.int (((p3.toUInt32 >>> ((4 : Int32) &&& 31).toUInt32).toInt32) &&& (3 : Int32))), .val (.int (p4 &&& (3 : Int32))), .val (.int v111), .val (.ref v112), .val (.ref y118), .val (.ref b119), .unset, .unset] []))
    refine OwnEnd.go (fun _ k => XS.iload X150.here hx rfl (hb hby at_167) rfl  k) ?_
    show OwnEnd p e below s _ _ _ (T150.setTop (mkF m 169 #[.val (.int p1), .val (.int p2), .val (.int p3), .val (.int p4), .val (.int (p1 &&& (3 : Int32))), .val (.int v101), .val (.ref v102), .val (.ref y108), .val (.int v109), .val (.int v110), .val (.int (((p3.toUInt32 >>> ((2 : Int32) &&& 31).toUInt32).toInt32) &&& (3 : Int32))), .val (.int (((p3.toUInt32 >>> ((4 : Int32) &&& 31).toUInt32).toInt32) &&& (3 : Int32))), .val (.int (p4 &&& (3 : Int32))), .val (.int v111), .val (.ref v112), .val (.ref y118), .val (.ref b119), .unset, .unset] [(.int v109)]))
    have J154 : ∀ (T154 : State) (L : List Loc) (rc1 : Int32), Stand p l e room_1 s m #[(.int p1), (.int p2), (.int p3), (.int p4)] below meth c T154 L 3 24 → Fr n0 L → Keep h0 T154.heap [] → n0 ≤ T154.heap.size → Old Z n0 T154.heap → ownTS Z T154.heap n0 b119 y134 y135 rc1 (0 : Int32) (0 : Int32) (0 : Int32) (0 : Int32) (0 : Int32) (0 : Int32) (0 : Int32) (0 : Int32) → True → OwnEnd p e below s (Q0 Z p1 p2 p3 p4 a_ATTRIBUTE a_TEXT a_COMMENT a_PROCESSING_INSTRUCTION a_NAMESPACE a_ELEMENT a_DOCUMENT h0 n0) room_1.cells room_1.slots (T154.setTop (mkF m 181 #[.val (.int p1), .val (.int p2), .val (.int p3), .val (.int p4), .val (.int (p1 &&& (3 : Int32))), .val (.int v101), .val (.ref v102), .val (.ref y108), .val (.int v109), .val (.int v110), .val (.int (((p3.toUInt32 >>> ((2 : Int32) &&& 31).toUInt32).toInt32) &&& (3 : Int32))), .val (.int (((p3.toUInt32 >>> ((4 : Int32) &&& 31).toUInt32).toInt32) &&& (3 : Int32))), .val (.int (p4 &&& (3 : Int32))), .val (.int v111), .val (.ref v112), .val (.ref y118), .val (.ref b119), .unset, .unset] [])) := by
      intro T154 L rc1 X154 N154 K154 Y154 O154 B154 hy154
      have EA155 := B154.2.2.2.2.2.2.1
      show OwnEnd p e below s _ _ _ (T154.setTop (mkF m 181 #[.val (.int p1), .val (.int p2), .val (.int p3), .val (.int p4), .val (.int (p1 &&& (3 : Int32))), .val (.int v101), .val (.ref v102), .val (.ref y108), .val (.int v109), .val (.int v110), .val (.int (((p3.toUInt32 >>> ((2 : Int32) &&& 31).toUInt32).toInt32) &&& (3 : Int32))), .val (.int (((p3.toUInt32 >>> ((4 : Int32) &&& 31).toUInt32).toInt32) &&& (3 : Int32))), .val (.int (p4 &&& (3 : Int32))), .val (.int v111), .val (.ref v112), .val (.ref y118), .val (.ref b119), .unset, .unset] []))
      refine OwnEnd.go (fun _ k => XS.iload X154.here hx rfl (hb hby at_181) rfl  k) ?_
      show OwnEnd p e below s _ _ _ (T154.setTop (mkF m 183 #[.val (.int p1), .val (.int p2), .val (.int p3), .val (.int p4), .val (.int (p1 &&& (3 : Int32))), .val (.int v101), .val (.ref v102), .val (.ref y108), .val (.int v109), .val (.int v110), .val (.int (((p3.toUInt32 >>> ((2 : Int32) &&& 31).toUInt32).toInt32) &&& (3 : Int32))), .val (.int (((p3.toUInt32 >>> ((4 : Int32) &&& 31).toUInt32).toInt32) &&& (3 : Int32))), .val (.int (p4 &&& (3 : Int32))), .val (.int v111), .val (.ref v112), .val (.ref y118), .val (.ref b119), .unset, .unset] [(.int v110)]))
      have J156 : ∀ (T156 : State) (L : List Loc) (rc2 : Int32), Stand p l e room_1 s m #[(.int p1), (.int p2), (.int p3), (.int p4)] below meth c T156 L 3 24 → Fr n0 L → Keep h0 T156.heap [] → n0 ≤ T156.heap.size → Old Z n0 T156.heap → ownTS Z T156.heap n0 b119 y134 y135 rc2 (0 : Int32) (0 : Int32) (0 : Int32) (0 : Int32) (0 : Int32) (0 : Int32) (0 : Int32) (0 : Int32) → True → OwnEnd p e below s (Q0 Z p1 p2 p3 p4 a_ATTRIBUTE a_TEXT a_COMMENT a_PROCESSING_INSTRUCTION a_NAMESPACE a_ELEMENT a_DOCUMENT h0 n0) room_1.cells room_1.slots (T156.setTop (mkF m 195 #[.val (.int p1), .val (.int p2), .val (.int p3), .val (.int p4), .val (.int (p1 &&& (3 : Int32))), .val (.int v101), .val (.ref v102), .val (.ref y108), .val (.int v109), .val (.int v110), .val (.int (((p3.toUInt32 >>> ((2 : Int32) &&& 31).toUInt32).toInt32) &&& (3 : Int32))), .val (.int (((p3.toUInt32 >>> ((4 : Int32) &&& 31).toUInt32).toInt32) &&& (3 : Int32))), .val (.int (p4 &&& (3 : Int32))), .val (.int v111), .val (.ref v112), .val (.ref y118), .val (.ref b119), .unset, .unset] [])) := by
        intro T156 L rc2 X156 N156 K156 Y156 O156 B156 hy156
        have EA157 := B156.2.2.2.2.2.2.1
        show OwnEnd p e below s _ _ _ (T156.setTop (mkF m 195 #[.val (.int p1), .val (.int p2), .val (.int p3), .val (.int p4), .val (.int (p1 &&& (3 : Int32))), .val (.int v101), .val (.ref v102), .val (.ref y108), .val (.int v109), .val (.int v110), .val (.int (((p3.toUInt32 >>> ((2 : Int32) &&& 31).toUInt32).toInt32) &&& (3 : Int32))), .val (.int (((p3.toUInt32 >>> ((4 : Int32) &&& 31).toUInt32).toInt32) &&& (3 : Int32))), .val (.int (p4 &&& (3 : Int32))), .val (.int v111), .val (.ref v112), .val (.ref y118), .val (.ref b119), .unset, .unset] []))
        refine OwnEnd.go (fun _ k => XS.iload X156.here hx rfl (hb hby at_195) rfl  k) ?_
        show OwnEnd p e below s _ _ _ (T156.setTop (mkF m 197 #[.val (.int p1), .val (.int p2), .val (.int p3), .val (.int p4), .val (.int (p1 &&& (3 : Int32))), .val (.int v101), .val (.ref v102), .val (.ref y108), .val (.int v109), .val (.int v110), .val (.int (((p3.toUInt32 >>> ((2 : Int32) &&& 31).toUInt32).toInt32) &&& (3 : Int32))), .val (.int (((p3.toUInt32 >>> ((4 : Int32) &&& 31).toUInt32).toInt32) &&& (3 : Int32))), .val (.int (p4 &&& (3 : Int32))), .val (.int v111), .val (.ref v112), .val (.ref y118), .val (.ref b119), .unset, .unset] [(.int v101)]))
        refine OwnEnd.go (fun _ k => XS.ifYes X156.here hx rfl (pc0 := 197) (pc' := 207) rfl (hb hby at_197) rfl ((if0 _ _).trans (teq hc149).1) (by decide) (by decide) k) ?_
        show OwnEnd p e below s _ _ _ (T156.setTop (mkF m 207 #[.val (.int p1), .val (.int p2), .val (.int p3), .val (.int p4), .val (.int (p1 &&& (3 : Int32))), .val (.int v101), .val (.ref v102), .val (.ref y108), .val (.int v109), .val (.int v110), .val (.int (((p3.toUInt32 >>> ((2 : Int32) &&& 31).toUInt32).toInt32) &&& (3 : Int32))), .val (.int (((p3.toUInt32 >>> ((4 : Int32) &&& 31).toUInt32).toInt32) &&& (3 : Int32))), .val (.int (p4 &&& (3 : Int32))), .val (.int v111), .val (.ref v112), .val (.ref y118), .val (.ref b119), .unset, .unset] []))
        refine OwnEnd.go (fun _ k => XS.aload X156.here hx rfl (hb hby at_207) rfl rfl k) ?_
        show OwnEnd p e below s _ _ _ (T156.setTop (mkF m 209 #[.val (.int p1), .val (.int p2), .val (.int p3), .val (.int p4), .val (.int (p1 &&& (3 : Int32))), .val (.int v101), .val (.ref v102), .val (.ref y108), .val (.int v109), .val (.int v110), .val (.int (((p3.toUInt32 >>> ((2 : Int32) &&& 31).toUInt32).toInt32) &&& (3 : Int32))), .val (.int (((p3.toUInt32 >>> ((4 : Int32) &&& 31).toUInt32).toInt32) &&& (3 : Int32))), .val (.int (p4 &&& (3 : Int32))), .val (.int v111), .val (.ref v112), .val (.ref y118), .val (.ref b119), .unset, .unset] [(.ref b119)]))
        refine OwnEnd.go (fun _ k => XS.iload X156.here hx rfl (hb hby at_209) rfl  k) ?_
        show OwnEnd p e below s _ _ _ (T156.setTop (mkF m 211 #[.val (.int p1), .val (.int p2), .val (.int p3), .val (.int p4), .val (.int (p1 &&& (3 : Int32))), .val (.int v101), .val (.ref v102), .val (.ref y108), .val (.int v109), .val (.int v110), .val (.int (((p3.toUInt32 >>> ((2 : Int32) &&& 31).toUInt32).toInt32) &&& (3 : Int32))), .val (.int (((p3.toUInt32 >>> ((4 : Int32) &&& 31).toUInt32).toInt32) &&& (3 : Int32))), .val (.int (p4 &&& (3 : Int32))), .val (.int v111), .val (.ref v112), .val (.ref y118), .val (.ref b119), .unset, .unset] [(.int (((p3.toUInt32 >>> ((4 : Int32) &&& 31).toUInt32).toInt32) &&& (3 : Int32))), (.ref b119)]))
        obtain ⟨_, T158, L158, X158, hQ158, st158⟩ := ownCallV X156 hx hZ hown ww26 ww27 ww29 ww28 ww14 ww30 (by decide) (rm4 l Z a0 hw [] b119 (((p3.toUInt32 >>> ((4 : Int32) &&& 31).toUInt32).toInt32) &&& (3 : Int32)) y134 y135 rc2 (0 : Int32) (0 : Int32) (0 : Int32) (0 : Int32) (0 : Int32) (0 : Int32) (0 : Int32) (0 : Int32) T156.heap n0 Y156  B156) (rfl : T156.heap = T156.heap) EA157 0 (by decide) (by decide) (by decide) (by decide) (g := (mkF m 211 #[.val (.int p1), .val (.int p2), .val (.int p3), .val (.int p4), .val (.int (p1 &&& (3 : Int32))), .val (.int v101), .val (.ref v102), .val (.ref y108), .val (.int v109), .val (.int v110), .val (.int (((p3.toUInt32 >>> ((2 : Int32) &&& 31).toUInt32).toInt32) &&& (3 : Int32))), .val (.int (((p3.toUInt32 >>> ((4 : Int32) &&& 31).toUInt32).toInt32) &&& (3 : Int32))), .val (.int (p4 &&& (3 : Int32))), .val (.int v111), .val (.ref v112), .val (.ref y118), .val (.ref b119), .unset, .unset] [(.int (((p3.toUInt32 >>> ((4 : Int32) &&& 31).toUInt32).toInt32) &&& (3 : Int32))), (.ref b119)])) rfl (by rw [hml]; rfl) (argsL := [(.int (((p3.toUInt32 >>> ((4 : Int32) &&& 31).toUInt32).toInt32) &&& (3 : Int32)))]) (rest := []) (lenOf pd0_2 rfl) rfl rfl (by show 2 * 0 + _ ≤ _; exact Nat.le_of_eq rfl) (hb hby at_211)
        obtain ⟨rfl, N158q, K158q, P159⟩ := hQ158
        have N158 := Fr.app N156 N158q
        have F161 := EA157.keep K158q
        have K158 := K156.trans K158q (allS (Or.inr v119) (allS (Or.inr (Nat.le_trans K119.1 P131)) (allS (Or.inr (Nat.le_trans K119.1 P132)) all0)))
        have Y158 := Nat.le_trans Y156 K158q.1
        have O158 := O156.keep K158q (allS u119 (allS P129 (allS P130 all0)))
        refine OwnEnd.go (fun _ k => st158 _ k) ?_
        show OwnEnd p e below s _ _ _ (T158.setTop (mkF m 214 #[.val (.int p1), .val (.int p2), .val (.int p3), .val (.int p4), .val (.int (p1 &&& (3 : Int32))), .val (.int v101), .val (.ref v102), .val (.ref y108), .val (.int v109), .val (.int v110), .val (.int (((p3.toUInt32 >>> ((2 : Int32) &&& 31).toUInt32).toInt32) &&& (3 : Int32))), .val (.int (((p3.toUInt32 >>> ((4 : Int32) &&& 31).toUInt32).toInt32) &&& (3 : Int32))), .val (.int (p4 &&& (3 : Int32))), .val (.int v111), .val (.ref v112), .val (.ref y118), .val (.ref b119), .unset, .unset] []))
        refine OwnEnd.go (fun _ k => XS.iload X158.here hx rfl (hb hby at_214) rfl  k) ?_
        show OwnEnd p e below s _ _ _ (T158.setTop (mkF m 216 #[.val (.int p1), .val (.int p2), .val (.int p3), .val (.int p4), .val (.int (p1 &&& (3 : Int32))), .val (.int v101), .val (.ref v102), .val (.ref y108), .val (.int v109), .val (.int v110), .val (.int (((p3.toUInt32 >>> ((2 : Int32) &&& 31).toUInt32).toInt32) &&& (3 : Int32))), .val (.int (((p3.toUInt32 >>> ((4 : Int32) &&& 31).toUInt32).toInt32) &&& (3 : Int32))), .val (.int (p4 &&& (3 : Int32))), .val (.int v111), .val (.ref v112), .val (.ref y118), .val (.ref b119), .unset, .unset] [(.int (p4 &&& (3 : Int32)))]))
        refine OwnEnd.go (fun _ k => XS.iconst X158.here hx rfl (hb hby at_216) k) ?_
        show OwnEnd p e below s _ _ _ (T158.setTop (mkF m 217 #[.val (.int p1), .val (.int p2), .val (.int p3), .val (.int p4), .val (.int (p1 &&& (3 : Int32))), .val (.int v101), .val (.ref v102), .val (.ref y108), .val (.int v109), .val (.int v110), .val (.int (((p3.toUInt32 >>> ((2 : Int32) &&& 31).toUInt32).toInt32) &&& (3 : Int32))), .val (.int (((p3.toUInt32 >>> ((4 : Int32) &&& 31).toUInt32).toInt32) &&& (3 : Int32))), .val (.int (p4 &&& (3 : Int32))), .val (.int v111), .val (.ref v112), .val (.ref y118), .val (.ref b119), .unset, .unset] [(.int (1 : Int32)), (.int (p4 &&& (3 : Int32)))]))
        by_cases hc162 : (p4 &&& (3 : Int32)) = (1 : Int32)
        · refine OwnEnd.go (fun _ k => XS.icmpYes X158.here hx rfl (pc0 := 217) (pc' := 226) rfl (hb hby at_217) rfl (teq hc162).1 (by decide) (by decide) k) ?_
          show OwnEnd p e below s _ _ _ (T158.setTop (mkF m 226 #[.val (.int p1), .val (.int p2), .val (.int p3), .val (.int p4), .val (.int (p1 &&& (3 : Int32))), .val (.int v101), .val (.ref v102), .val (.ref y108), .val (.int v109), .val (.int v110), .val (.int (((p3.toUInt32 >>> ((2 : Int32) &&& 31).toUInt32).toInt32) &&& (3 : Int32))), .val (.int (((p3.toUInt32 >>> ((4 : Int32) &&& 31).toUInt32).toInt32) &&& (3 : Int32))), .val (.int (p4 &&& (3 : Int32))), .val (.int v111), .val (.ref v112), .val (.ref y118), .val (.ref b119), .unset, .unset] []))
          refine OwnEnd.go (fun _ k => XS.aload X158.here hx rfl (hb hby at_226) rfl rfl k) ?_
          show OwnEnd p e below s _ _ _ (T158.setTop (mkF m 228 #[.val (.int p1), .val (.int p2), .val (.int p3), .val (.int p4), .val (.int (p1 &&& (3 : Int32))), .val (.int v101), .val (.ref v102), .val (.ref y108), .val (.int v109), .val (.int v110), .val (.int (((p3.toUInt32 >>> ((2 : Int32) &&& 31).toUInt32).toInt32) &&& (3 : Int32))), .val (.int (((p3.toUInt32 >>> ((4 : Int32) &&& 31).toUInt32).toInt32) &&& (3 : Int32))), .val (.int (p4 &&& (3 : Int32))), .val (.int v111), .val (.ref v112), .val (.ref y118), .val (.ref b119), .unset, .unset] [(.ref b119)]))
          refine OwnEnd.go (fun _ k => XS.aload X158.here hx rfl (hb hby at_228) rfl rfl k) ?_
          show OwnEnd p e below s _ _ _ (T158.setTop (mkF m 230 #[.val (.int p1), .val (.int p2), .val (.int p3), .val (.int p4), .val (.int (p1 &&& (3 : Int32))), .val (.int v101), .val (.ref v102), .val (.ref y108), .val (.int v109), .val (.int v110), .val (.int (((p3.toUInt32 >>> ((2 : Int32) &&& 31).toUInt32).toInt32) &&& (3 : Int32))), .val (.int (((p3.toUInt32 >>> ((4 : Int32) &&& 31).toUInt32).toInt32) &&& (3 : Int32))), .val (.int (p4 &&& (3 : Int32))), .val (.int v111), .val (.ref v112), .val (.ref y118), .val (.ref b119), .unset, .unset] [(.ref v112), (.ref b119)]))
          obtain ⟨_, T163, L163, X163, hQ163, st163⟩ := ownCallV X158 hx hZ hown ww33 ww34 ww36 ww35 ww14 ww37 (by decide) (rm5d0open l Z a0 hw [] b119 v112 y134 y135 (rc2 + (((p3.toUInt32 >>> ((4 : Int32) &&& 31).toUInt32).toInt32) &&& (3 : Int32))) (0 : Int32) (0 : Int32) (0 : Int32) (0 : Int32) (0 : Int32) (0 : Int32) (0 : Int32) a_ATTRIBUTE a_ELEMENT a_DOCUMENT T158.heap n0 Y158 O158 S_ATTRIBUTE S_ELEMENT S_DOCUMENT nk112 P112 P159) (rfl : T158.heap = T158.heap) F161 0 (by decide) (by decide) (by decide) (by decide) (g := (mkF m 230 #[.val (.int p1), .val (.int p2), .val (.int p3), .val (.int p4), .val (.int (p1 &&& (3 : Int32))), .val (.int v101), .val (.ref v102), .val (.ref y108), .val (.int v109), .val (.int v110), .val (.int (((p3.toUInt32 >>> ((2 : Int32) &&& 31).toUInt32).toInt32) &&& (3 : Int32))), .val (.int (((p3.toUInt32 >>> ((4 : Int32) &&& 31).toUInt32).toInt32) &&& (3 : Int32))), .val (.int (p4 &&& (3 : Int32))), .val (.int v111), .val (.ref v112), .val (.ref y118), .val (.ref b119), .unset, .unset] [(.ref v112), (.ref b119)])) rfl (by rw [hml]; rfl) (argsL := [(.ref v112)]) (rest := []) (lenOf pd0_3 rfl) rfl rfl (by show 2 * 0 + _ ≤ _; exact Nat.le_of_eq rfl) (hb hby at_230)
          obtain ⟨rfl, N163q, K163q, P164⟩ := hQ163
          have N163 := Fr.app N158 N163q
          have F165 := F161.keep K163q
          have K163 := K158.trans K163q (allS (Or.inr v119) (allS (Or.inr (Nat.le_trans K119.1 P131)) (allS (Or.inr (Nat.le_trans K119.1 P132)) all0)))
          have Y163 := Nat.le_trans Y158 K163q.1
          have O163 := O158.keep K163q (allS u119 (allS P129 (allS P130 all0)))
          refine OwnEnd.go (fun _ k => st163 _ k) ?_
          show OwnEnd p e below s _ _ _ (T163.setTop (mkF m 233 #[.val (.int p1), .val (.int p2), .val (.int p3), .val (.int p4), .val (.int (p1 &&& (3 : Int32))), .val (.int v101), .val (.ref v102), .val (.ref y108), .val (.int v109), .val (.int v110), .val (.int (((p3.toUInt32 >>> ((2 : Int32) &&& 31).toUInt32).toInt32) &&& (3 : Int32))), .val (.int (((p3.toUInt32 >>> ((4 : Int32) &&& 31).toUInt32).toInt32) &&& (3 : Int32))), .val (.int (p4 &&& (3 : Int32))), .val (.int v111), .val (.ref v112), .val (.ref y118), .val (.ref b119), .unset, .unset] [(.int (rc2 + (((p3.toUInt32 >>> ((4 : Int32) &&& 31).toUInt32).toInt32) &&& (3 : Int32))))]))
          refine OwnEnd.go (fun _ k => XS.pop X163.here hx rfl (hb hby at_233) rfl rfl k) ?_
          show OwnEnd p e below s _ _ _ (T163.setTop (mkF m 234 #[.val (.int p1), .val (.int p2), .val (.int p3), .val (.int p4), .val (.int (p1 &&& (3 : Int32))), .val (.int v101), .val (.ref v102), .val (.ref y108), .val (.int v109), .val (.int v110), .val (.int (((p3.toUInt32 >>> ((2 : Int32) &&& 31).toUInt32).toInt32) &&& (3 : Int32))), .val (.int (((p3.toUInt32 >>> ((4 : Int32) &&& 31).toUInt32).toInt32) &&& (3 : Int32))), .val (.int (p4 &&& (3 : Int32))), .val (.int v111), .val (.ref v112), .val (.ref y118), .val (.ref b119), .unset, .unset] []))
          refine OwnEnd.go (fun _ k => XS.iload X163.here hx rfl (hb hby at_234) rfl  k) ?_
          show OwnEnd p e below s _ _ _ (T163.setTop (mkF m 236 #[.val (.int p1), .val (.int p2), .val (.int p3), .val (.int p4), .val (.int (p1 &&& (3 : Int32))), .val (.int v101), .val (.ref v102), .val (.ref y108), .val (.int v109), .val (.int v110), .val (.int (((p3.toUInt32 >>> ((2 : Int32) &&& 31).toUInt32).toInt32) &&& (3 : Int32))), .val (.int (((p3.toUInt32 >>> ((4 : Int32) &&& 31).toUInt32).toInt32) &&& (3 : Int32))), .val (.int (p4 &&& (3 : Int32))), .val (.int v111), .val (.ref v112), .val (.ref y118), .val (.ref b119), .unset, .unset] [(.int v111)]))
          by_cases hc167 : v111 = (0 : Int32)
          · refine OwnEnd.go (fun _ k => XS.ifYes X163.here hx rfl (pc0 := 236) (pc' := 248) rfl (hb hby at_236) rfl ((if0 _ _).trans (teq hc167).1) (by decide) (by decide) k) ?_
            show OwnEnd p e below s _ _ _ (T163.setTop (mkF m 248 #[.val (.int p1), .val (.int p2), .val (.int p3), .val (.int p4), .val (.int (p1 &&& (3 : Int32))), .val (.int v101), .val (.ref v102), .val (.ref y108), .val (.int v109), .val (.int v110), .val (.int (((p3.toUInt32 >>> ((2 : Int32) &&& 31).toUInt32).toInt32) &&& (3 : Int32))), .val (.int (((p3.toUInt32 >>> ((4 : Int32) &&& 31).toUInt32).toInt32) &&& (3 : Int32))), .val (.int (p4 &&& (3 : Int32))), .val (.int v111), .val (.ref v112), .val (.ref y118), .val (.ref b119), .unset, .unset] []))
            refine OwnEnd.go (fun _ k => XS.iload X163.here hx rfl (hb hby at_248) rfl  k) ?_
            show OwnEnd p e below s _ _ _ (T163.setTop (mkF m 250 #[.val (.int p1), .val (.int p2), .val (.int p3), .val (.int p4), .val (.int (p1 &&& (3 : Int32))), .val (.int v101), .val (.ref v102), .val (.ref y108), .val (.int v109), .val (.int v110), .val (.int (((p3.toUInt32 >>> ((2 : Int32) &&& 31).toUInt32).toInt32) &&& (3 : Int32))), .val (.int (((p3.toUInt32 >>> ((4 : Int32) &&& 31).toUInt32).toInt32) &&& (3 : Int32))), .val (.int (p4 &&& (3 : Int32))), .val (.int v111), .val (.ref v112), .val (.ref y118), .val (.ref b119), .unset, .unset] [(.int (p4 &&& (3 : Int32)))]))
            refine OwnEnd.go (fun _ k => XS.iconst X163.here hx rfl (hb hby at_250) k) ?_
            show OwnEnd p e below s _ _ _ (T163.setTop (mkF m 251 #[.val (.int p1), .val (.int p2), .val (.int p3), .val (.int p4), .val (.int (p1 &&& (3 : Int32))), .val (.int v101), .val (.ref v102), .val (.ref y108), .val (.int v109), .val (.int v110), .val (.int (((p3.toUInt32 >>> ((2 : Int32) &&& 31).toUInt32).toInt32) &&& (3 : Int32))), .val (.int (((p3.toUInt32 >>> ((4 : Int32) &&& 31).toUInt32).toInt32) &&& (3 : Int32))), .val (.int (p4 &&& (3 : Int32))), .val (.int v111), .val (.ref v112), .val (.ref y118), .val (.ref b119), .unset, .unset] [(.int (2 : Int32)), (.int (p4 &&& (3 : Int32)))]))
            refine OwnEnd.go (fun _ k => XS.icmpYes X163.here hx rfl (pc0 := 251) (pc' := 276) rfl (hb hby at_251) rfl (feq (by rw [hc162]; decide : ¬ (p4 &&& (3 : Int32)) = (2 : Int32))).2 (by decide) (by decide) k) ?_
            show OwnEnd p e below s _ _ _ (T163.setTop (mkF m 276 #[.val (.int p1), .val (.int p2), .val (.int p3), .val (.int p4), .val (.int (p1 &&& (3 : Int32))), .val (.int v101), .val (.ref v102), .val (.ref y108), .val (.int v109), .val (.int v110), .val (.int (((p3.toUInt32 >>> ((2 : Int32) &&& 31).toUInt32).toInt32) &&& (3 : Int32))), .val (.int (((p3.toUInt32 >>> ((4 : Int32) &&& 31).toUInt32).toInt32) &&& (3 : Int32))), .val (.int (p4 &&& (3 : Int32))), .val (.int v111), .val (.ref v112), .val (.ref y118), .val (.ref b119), .unset, .unset] []))
            refine OwnEnd.go (fun _ k => XS.iload X163.here hx rfl (hb hby at_276) rfl  k) ?_
            show OwnEnd p e below s _ _ _ (T163.setTop (mkF m 278 #[.val (.int p1), .val (.int p2), .val (.int p3), .val (.int p4), .val (.int (p1 &&& (3 : Int32))), .val (.int v101), .val (.ref v102), .val (.ref y108), .val (.int v109), .val (.int v110), .val (.int (((p3.toUInt32 >>> ((2 : Int32) &&& 31).toUInt32).toInt32) &&& (3 : Int32))), .val (.int (((p3.toUInt32 >>> ((4 : Int32) &&& 31).toUInt32).toInt32) &&& (3 : Int32))), .val (.int (p4 &&& (3 : Int32))), .val (.int v111), .val (.ref v112), .val (.ref y118), .val (.ref b119), .unset, .unset] [(.int (p4 &&& (3 : Int32)))]))
            refine OwnEnd.go (fun _ k => XS.iconst X163.here hx rfl (hb hby at_278) k) ?_
            show OwnEnd p e below s _ _ _ (T163.setTop (mkF m 279 #[.val (.int p1), .val (.int p2), .val (.int p3), .val (.int p4), .val (.int (p1 &&& (3 : Int32))), .val (.int v101), .val (.ref v102), .val (.ref y108), .val (.int v109), .val (.int v110), .val (.int (((p3.toUInt32 >>> ((2 : Int32) &&& 31).toUInt32).toInt32) &&& (3 : Int32))), .val (.int (((p3.toUInt32 >>> ((4 : Int32) &&& 31).toUInt32).toInt32) &&& (3 : Int32))), .val (.int (p4 &&& (3 : Int32))), .val (.int v111), .val (.ref v112), .val (.ref y118), .val (.ref b119), .unset, .unset] [(.int (1 : Int32)), (.int (p4 &&& (3 : Int32)))]))
            refine OwnEnd.go (fun _ k => XS.icmpNo X163.here hx rfl (hb hby at_279) rfl (teq hc162).2 k) ?_
            show OwnEnd p e below s _ _ _ (T163.setTop (mkF m 282 #[.val (.int p1), .val (.int p2), .val (.int p3), .val (.int p4), .val (.int (p1 &&& (3 : Int32))), .val (.int v101), .val (.ref v102), .val (.ref y108), .val (.int v109), .val (.int v110), .val (.int (((p3.toUInt32 >>> ((2 : Int32) &&& 31).toUInt32).toInt32) &&& (3 : Int32))), .val (.int (((p3.toUInt32 >>> ((4 : Int32) &&& 31).toUInt32).toInt32) &&& (3 : Int32))), .val (.int (p4 &&& (3 : Int32))), .val (.int v111), .val (.ref v112), .val (.ref y118), .val (.ref b119), .unset, .unset] []))
            refine OwnEnd.go (fun _ k => XS.iconst X163.here hx rfl (hb hby at_282) k) ?_
            show OwnEnd p e below s _ _ _ (T163.setTop (mkF m 283 #[.val (.int p1), .val (.int p2), .val (.int p3), .val (.int p4), .val (.int (p1 &&& (3 : Int32))), .val (.int v101), .val (.ref v102), .val (.ref y108), .val (.int v109), .val (.int v110), .val (.int (((p3.toUInt32 >>> ((2 : Int32) &&& 31).toUInt32).toInt32) &&& (3 : Int32))), .val (.int (((p3.toUInt32 >>> ((4 : Int32) &&& 31).toUInt32).toInt32) &&& (3 : Int32))), .val (.int (p4 &&& (3 : Int32))), .val (.int v111), .val (.ref v112), .val (.ref y118), .val (.ref b119), .unset, .unset] [(.int (1 : Int32))]))
            refine OwnEnd.go (fun _ k => XS.istore X163.here hx rfl (hb hby at_283) rfl  (l' := #[.val (.int p1), .val (.int p2), .val (.int p3), .val (.int p4), .val (.int (p1 &&& (3 : Int32))), .val (.int v101), .val (.ref v102), .val (.ref y108), .val (.int v109), .val (.int v110), .val (.int (((p3.toUInt32 >>> ((2 : Int32) &&& 31).toUInt32).toInt32) &&& (3 : Int32))), .val (.int (((p3.toUInt32 >>> ((4 : Int32) &&& 31).toUInt32).toInt32) &&& (3 : Int32))), .val (.int (p4 &&& (3 : Int32))), .val (.int v111), .val (.ref v112), .val (.ref y118), .val (.ref b119), .val (.int (1 : Int32)), .unset]) rfl k) ?_
            show OwnEnd p e below s _ _ _ (T163.setTop (mkF m 285 #[.val (.int p1), .val (.int p2), .val (.int p3), .val (.int p4), .val (.int (p1 &&& (3 : Int32))), .val (.int v101), .val (.ref v102), .val (.ref y108), .val (.int v109), .val (.int v110), .val (.int (((p3.toUInt32 >>> ((2 : Int32) &&& 31).toUInt32).toInt32) &&& (3 : Int32))), .val (.int (((p3.toUInt32 >>> ((4 : Int32) &&& 31).toUInt32).toInt32) &&& (3 : Int32))), .val (.int (p4 &&& (3 : Int32))), .val (.int v111), .val (.ref v112), .val (.ref y118), .val (.ref b119), .val (.int (1 : Int32)), .unset] []))
            refine OwnEnd.go (fun _ k => XS.goto X163.here hx rfl (pc0 := 285) (pc' := 356) rfl (hb hby at_285) (by decide) (by decide) k) ?_
            show OwnEnd p e below s _ _ _ (T163.setTop (mkF m 356 #[.val (.int p1), .val (.int p2), .val (.int p3), .val (.int p4), .val (.int (p1 &&& (3 : Int32))), .val (.int v101), .val (.ref v102), .val (.ref y108), .val (.int v109), .val (.int v110), .val (.int (((p3.toUInt32 >>> ((2 : Int32) &&& 31).toUInt32).toInt32) &&& (3 : Int32))), .val (.int (((p3.toUInt32 >>> ((4 : Int32) &&& 31).toUInt32).toInt32) &&& (3 : Int32))), .val (.int (p4 &&& (3 : Int32))), .val (.int v111), .val (.ref v112), .val (.ref y118), .val (.ref b119), .val (.int (1 : Int32)), .unset] []))
            refine OwnEnd.go (fun _ k => XS.aload X163.here hx rfl (hb hby at_356) rfl rfl k) ?_
            show OwnEnd p e below s _ _ _ (T163.setTop (mkF m 358 #[.val (.int p1), .val (.int p2), .val (.int p3), .val (.int p4), .val (.int (p1 &&& (3 : Int32))), .val (.int v101), .val (.ref v102), .val (.ref y108), .val (.int v109), .val (.int v110), .val (.int (((p3.toUInt32 >>> ((2 : Int32) &&& 31).toUInt32).toInt32) &&& (3 : Int32))), .val (.int (((p3.toUInt32 >>> ((4 : Int32) &&& 31).toUInt32).toInt32) &&& (3 : Int32))), .val (.int (p4 &&& (3 : Int32))), .val (.int v111), .val (.ref v112), .val (.ref y118), .val (.ref b119), .val (.int (1 : Int32)), .unset] [(.ref b119)]))
            obtain ⟨_, T168, L168, X168, hQ168, st168⟩ := ownCallV X163 hx hZ hown ww55 ww56 ww58 ww57 ww14 ww59 (by decide) (rm8d1 l Z a0 hw [] b119 y134 y135 ((rc2 + (((p3.toUInt32 >>> ((4 : Int32) &&& 31).toUInt32).toInt32) &&& (3 : Int32))) + (1 : Int32)) (rc2 + (((p3.toUInt32 >>> ((4 : Int32) &&& 31).toUInt32).toInt32) &&& (3 : Int32))) (0 : Int32) (0 : Int32) (0 : Int32) (0 : Int32) (0 : Int32) (0 : Int32) T163.heap n0 Y163  P164) (rfl : T163.heap = T163.heap) F165 0 (by decide) (by decide) (by decide) (by decide) (g := (mkF m 358 #[.val (.int p1), .val (.int p2), .val (.int p3), .val (.int p4), .val (.int (p1 &&& (3 : Int32))), .val (.int v101), .val (.ref v102), .val (.ref y108), .val (.int v109), .val (.int v110), .val (.int (((p3.toUInt32 >>> ((2 : Int32) &&& 31).toUInt32).toInt32) &&& (3 : Int32))), .val (.int (((p3.toUInt32 >>> ((4 : Int32) &&& 31).toUInt32).toInt32) &&& (3 : Int32))), .val (.int (p4 &&& (3 : Int32))), .val (.int v111), .val (.ref v112), .val (.ref y118), .val (.ref b119), .val (.int (1 : Int32)), .unset] [(.ref b119)])) rfl (by rw [hml]; rfl) (argsL := []) (rest := []) (lenOf pd0_4 rfl) rfl rfl (by show 2 * 0 + _ ≤ _; exact Nat.le_of_eq rfl) (hb hby at_358)
            obtain ⟨rfl, N168q, e168⟩ := hQ168
            have N168 := Fr.app N163 N168q
            refine OwnEnd.go (fun _ k => st168 _ k) ?_
            show OwnEnd p e below s _ _ _ (T168.setTop (mkF m 361 #[.val (.int p1), .val (.int p2), .val (.int p3), .val (.int p4), .val (.int (p1 &&& (3 : Int32))), .val (.int v101), .val (.ref v102), .val (.ref y108), .val (.int v109), .val (.int v110), .val (.int (((p3.toUInt32 >>> ((2 : Int32) &&& 31).toUInt32).toInt32) &&& (3 : Int32))), .val (.int (((p3.toUInt32 >>> ((4 : Int32) &&& 31).toUInt32).toInt32) &&& (3 : Int32))), .val (.int (p4 &&& (3 : Int32))), .val (.int v111), .val (.ref v112), .val (.ref y118), .val (.ref b119), .val (.int (1 : Int32)), .unset] [(.int (own_isat ((rc2 + (((p3.toUInt32 >>> ((4 : Int32) &&& 31).toUInt32).toInt32) &&& (3 : Int32))) + (1 : Int32)) (rc2 + (((p3.toUInt32 >>> ((4 : Int32) &&& 31).toUInt32).toInt32) &&& (3 : Int32))) (0 : Int32)))]))
            refine OwnEnd.go (fun _ k => XS.iload X168.here hx rfl (hb hby at_361) rfl  k) ?_
            show OwnEnd p e below s _ _ _ (T168.setTop (mkF m 363 #[.val (.int p1), .val (.int p2), .val (.int p3), .val (.int p4), .val (.int (p1 &&& (3 : Int32))), .val (.int v101), .val (.ref v102), .val (.ref y108), .val (.int v109), .val (.int v110), .val (.int (((p3.toUInt32 >>> ((2 : Int32) &&& 31).toUInt32).toInt32) &&& (3 : Int32))), .val (.int (((p3.toUInt32 >>> ((4 : Int32) &&& 31).toUInt32).toInt32) &&& (3 : Int32))), .val (.int (p4 &&& (3 : Int32))), .val (.int v111), .val (.ref v112), .val (.ref y118), .val (.ref b119), .val (.int (1 : Int32)), .unset] [(.int (1 : Int32)), (.int (own_isat ((rc2 + (((p3.toUInt32 >>> ((4 : Int32) &&& 31).toUInt32).toInt32) &&& (3 : Int32))) + (1 : Int32)) (rc2 + (((p3.toUInt32 >>> ((4 : Int32) &&& 31).toUInt32).toInt32) &&& (3 : Int32))) (0 : Int32)))]))
            refine OwnEnd.go (fun _ k => XS.icmpNo X168.here hx rfl (hb hby at_363) rfl (teq (own_isat_t (own_h0 _))).2 k) ?_
            show OwnEnd p e below s _ _ _ (T168.setTop (mkF m 366 #[.val (.int p1), .val (.int p2), .val (.int p3), .val (.int p4), .val (.int (p1 &&& (3 : Int32))), .val (.int v101), .val (.ref v102), .val (.ref y108), .val (.int v109), .val (.int v110), .val (.int (((p3.toUInt32 >>> ((2 : Int32) &&& 31).toUInt32).toInt32) &&& (3 : Int32))), .val (.int (((p3.toUInt32 >>> ((4 : Int32) &&& 31).toUInt32).toInt32) &&& (3 : Int32))), .val (.int (p4 &&& (3 : Int32))), .val (.int v111), .val (.ref v112), .val (.ref y118), .val (.ref b119), .val (.int (1 : Int32)), .unset] []))
            refine OwnEnd.go (fun _ k => XS.iconst X168.here hx rfl (hb hby at_366) k) ?_
            show OwnEnd p e below s _ _ _ (T168.setTop (mkF m 367 #[.val (.int p1), .val (.int p2), .val (.int p3), .val (.int p4), .val (.int (p1 &&& (3 : Int32))), .val (.int v101), .val (.ref v102), .val (.ref y108), .val (.int v109), .val (.int v110), .val (.int (((p3.toUInt32 >>> ((2 : Int32) &&& 31).toUInt32).toInt32) &&& (3 : Int32))), .val (.int (((p3.toUInt32 >>> ((4 : Int32) &&& 31).toUInt32).toInt32) &&& (3 : Int32))), .val (.int (p4 &&& (3 : Int32))), .val (.int v111), .val (.ref v112), .val (.ref y118), .val (.ref b119), .val (.int (1 : Int32)), .unset] [(.int (1 : Int32))]))
            refine OwnEnd.go (fun _ k => XS.goto X168.here hx rfl (pc0 := 367) (pc' := 371) rfl (hb hby at_367) (by decide) (by decide) k) ?_
            show OwnEnd p e below s _ _ _ (T168.setTop (mkF m 371 #[.val (.int p1), .val (.int p2), .val (.int p3), .val (.int p4), .val (.int (p1 &&& (3 : Int32))), .val (.int v101), .val (.ref v102), .val (.ref y108), .val (.int v109), .val (.int v110), .val (.int (((p3.toUInt32 >>> ((2 : Int32) &&& 31).toUInt32).toInt32) &&& (3 : Int32))), .val (.int (((p3.toUInt32 >>> ((4 : Int32) &&& 31).toUInt32).toInt32) &&& (3 : Int32))), .val (.int (p4 &&& (3 : Int32))), .val (.int v111), .val (.ref v112), .val (.ref y118), .val (.ref b119), .val (.int (1 : Int32)), .unset] [(.int (1 : Int32))]))
            refine ownRetZ X168 hx hlk hret (hb hby at_371) (by decide) (by decide) (1 : Int32) (by decide) ?_
            show Q0 Z p1 p2 p3 p4 a_ATTRIBUTE a_TEXT a_COMMENT a_PROCESSING_INSTRUCTION a_NAMESPACE a_ELEMENT a_DOCUMENT h0 n0 _ T168.heap _
            rw [e168]
            exact ⟨rfl, N168⟩
          · refine OwnEnd.go (fun _ k => XS.ifNo X163.here hx rfl (hb hby at_236) rfl ((if0 _ _).trans (feq hc167).1) k) ?_
            show OwnEnd p e below s _ _ _ (T163.setTop (mkF m 239 #[.val (.int p1), .val (.int p2), .val (.int p3), .val (.int p4), .val (.int (p1 &&& (3 : Int32))), .val (.int v101), .val (.ref v102), .val (.ref y108), .val (.int v109), .val (.int v110), .val (.int (((p3.toUInt32 >>> ((2 : Int32) &&& 31).toUInt32).toInt32) &&& (3 : Int32))), .val (.int (((p3.toUInt32 >>> ((4 : Int32) &&& 31).toUInt32).toInt32) &&& (3 : Int32))), .val (.int (p4 &&& (3 : Int32))), .val (.int v111), .val (.ref v112), .val (.ref y118), .val (.ref b119), .unset, .unset] []))
            refine OwnEnd.go (fun _ k => XS.aload X163.here hx rfl (hb hby at_239) rfl rfl k) ?_
            show OwnEnd p e below s _ _ _ (T163.setTop (mkF m 241 #[.val (.int p1), .val (.int p2), .val (.int p3), .val (.int p4), .val (.int (p1 &&& (3 : Int32))), .val (.int v101), .val (.ref v102), .val (.ref y108), .val (.int v109), .val (.int v110), .val (.int (((p3.toUInt32 >>> ((2 : Int32) &&& 31).toUInt32).toInt32) &&& (3 : Int32))), .val (.int (((p3.toUInt32 >>> ((4 : Int32) &&& 31).toUInt32).toInt32) &&& (3 : Int32))), .val (.int (p4 &&& (3 : Int32))), .val (.int v111), .val (.ref v112), .val (.ref y118), .val (.ref b119), .unset, .unset] [(.ref b119)]))
            obtain ⟨T169, X169, e169, st169⟩ := getS2 X163 hx hZ hown (host := "") (Or.inl ww8) Via.refl (rfl : T163.heap = T163.heap) (S_ATTRIBUTE.ext O163.2) (g := (mkF m 241 #[.val (.int p1), .val (.int p2), .val (.int p3), .val (.int p4), .val (.int (p1 &&& (3 : Int32))), .val (.int v101), .val (.ref v102), .val (.ref y108), .val (.int v109), .val (.int v110), .val (.int (((p3.toUInt32 >>> ((2 : Int32) &&& 31).toUInt32).toInt32) &&& (3 : Int32))), .val (.int (((p3.toUInt32 >>> ((4 : Int32) &&& 31).toUInt32).toInt32) &&& (3 : Int32))), .val (.int (p4 &&& (3 : Int32))), .val (.int v111), .val (.ref v112), .val (.ref y118), .val (.ref b119), .unset, .unset] [(.ref b119)])) rfl (hb hby at_241)
            refine OwnEnd.go (fun _ k => st169 _ k) ?_
            show OwnEnd p e below s _ _ _ (T169.setTop (mkF m 244 #[.val (.int p1), .val (.int p2), .val (.int p3), .val (.int p4), .val (.int (p1 &&& (3 : Int32))), .val (.int v101), .val (.ref v102), .val (.ref y108), .val (.int v109), .val (.int v110), .val (.int (((p3.toUInt32 >>> ((2 : Int32) &&& 31).toUInt32).toInt32) &&& (3 : Int32))), .val (.int (((p3.toUInt32 >>> ((4 : Int32) &&& 31).toUInt32).toInt32) &&& (3 : Int32))), .val (.int (p4 &&& (3 : Int32))), .val (.int v111), .val (.ref v112), .val (.ref y118), .val (.ref b119), .unset, .unset] [(.ref a_ATTRIBUTE), (.ref b119)]))
            obtain ⟨_, T170, L170, X170, hQ170, st170⟩ := ownCallV X169 hx hZ hown ww33 ww34 ww36 ww35 ww14 ww37 (by decide) (rm5d1attr l Z a0 hw [] b119 a_ATTRIBUTE y134 y135 ((rc2 + (((p3.toUInt32 >>> ((4 : Int32) &&& 31).toUInt32).toInt32) &&& (3 : Int32))) + (1 : Int32)) (rc2 + (((p3.toUInt32 >>> ((4 : Int32) &&& 31).toUInt32).toInt32) &&& (3 : Int32))) (0 : Int32) (0 : Int32) (0 : Int32) (0 : Int32) (0 : Int32) (0 : Int32) a_ATTRIBUTE a_ELEMENT a_DOCUMENT T163.heap n0 Y163 O163 S_ATTRIBUTE S_ELEMENT S_DOCUMENT rfl n_ATTRIBUTE_ELEMENT n_ATTRIBUTE_DOCUMENT P164) e169 F165 0 (by decide) (by decide) (by decide) (by decide) (g := (mkF m 244 #[.val (.int p1), .val (.int p2), .val (.int p3), .val (.int p4), .val (.int (p1 &&& (3 : Int32))), .val (.int v101), .val (.ref v102), .val (.ref y108), .val (.int v109), .val (.int v110), .val (.int (((p3.toUInt32 >>> ((2 : Int32) &&& 31).toUInt32).toInt32) &&& (3 : Int32))), .val (.int (((p3.toUInt32 >>> ((4 : Int32) &&& 31).toUInt32).toInt32) &&& (3 : Int32))), .val (.int (p4 &&& (3 : Int32))), .val (.int v111), .val (.ref v112), .val (.ref y118), .val (.ref b119), .unset, .unset] [(.ref a_ATTRIBUTE), (.ref b119)])) rfl (by rw [hml]; rfl) (argsL := [(.ref a_ATTRIBUTE)]) (rest := []) (lenOf pd0_3 rfl) rfl rfl (by show 2 * 0 + _ ≤ _; exact Nat.le_of_eq rfl) (hb hby at_244)
            obtain ⟨rfl, N170q, K170q, P171⟩ := hQ170
            have N170 := Fr.app N163 N170q
            have F172 := F165.keep K170q
            have K170 := K163.trans K170q (allS (Or.inr v119) (allS (Or.inr (Nat.le_trans K119.1 P131)) (allS (Or.inr (Nat.le_trans K119.1 P132)) all0)))
            have Y170 := Nat.le_trans Y163 K170q.1
            have O170 := O163.keep K170q (allS u119 (allS P129 (allS P130 all0)))
            refine OwnEnd.go (fun _ k => st170 _ k) ?_
            show OwnEnd p e below s _ _ _ (T170.setTop (mkF m 247 #[.val (.int p1), .val (.int p2), .val (.int p3), .val (.int p4), .val (.int (p1 &&& (3 : Int32))), .val (.int v101), .val (.ref v102), .val (.ref y108), .val (.int v109), .val (.int v110), .val (.int (((p3.toUInt32 >>> ((2 : Int32) &&& 31).toUInt32).toInt32) &&& (3 : Int32))), .val (.int (((p3.toUInt32 >>> ((4 : Int32) &&& 31).toUInt32).toInt32) &&& (3 : Int32))), .val (.int (p4 &&& (3 : Int32))), .val (.int v111), .val (.ref v112), .val (.ref y118), .val (.ref b119), .unset, .unset] [(.int ((rc2 + (((p3.toUInt32 >>> ((4 : Int32) &&& 31).toUInt32).toInt32) &&& (3 : Int32))) + (1 : Int32)))]))
            refine OwnEnd.go (fun _ k => XS.pop X170.here hx rfl (hb hby at_247) rfl rfl k) ?_
            show OwnEnd p e below s _ _ _ (T170.setTop (mkF m 248 #[.val (.int p1), .val (.int p2), .val (.int p3), .val (.int p4), .val (.int (p1 &&& (3 : Int32))), .val (.int v101), .val (.ref v102), .val (.ref y108), .val (.int v109), .val (.int v110), .val (.int (((p3.toUInt32 >>> ((2 : Int32) &&& 31).toUInt32).toInt32) &&& (3 : Int32))), .val (.int (((p3.toUInt32 >>> ((4 : Int32) &&& 31).toUInt32).toInt32) &&& (3 : Int32))), .val (.int (p4 &&& (3 : Int32))), .val (.int v111), .val (.ref v112), .val (.ref y118), .val (.ref b119), .unset, .unset] []))
            refine OwnEnd.go (fun _ k => XS.iload X170.here hx rfl (hb hby at_248) rfl  k) ?_
            show OwnEnd p e below s _ _ _ (T170.setTop (mkF m 250 #[.val (.int p1), .val (.int p2), .val (.int p3), .val (.int p4), .val (.int (p1 &&& (3 : Int32))), .val (.int v101), .val (.ref v102), .val (.ref y108), .val (.int v109), .val (.int v110), .val (.int (((p3.toUInt32 >>> ((2 : Int32) &&& 31).toUInt32).toInt32) &&& (3 : Int32))), .val (.int (((p3.toUInt32 >>> ((4 : Int32) &&& 31).toUInt32).toInt32) &&& (3 : Int32))), .val (.int (p4 &&& (3 : Int32))), .val (.int v111), .val (.ref v112), .val (.ref y118), .val (.ref b119), .unset, .unset] [(.int (p4 &&& (3 : Int32)))]))
            refine OwnEnd.go (fun _ k => XS.iconst X170.here hx rfl (hb hby at_250) k) ?_
            show OwnEnd p e below s _ _ _ (T170.setTop (mkF m 251 #[.val (.int p1), .val (.int p2), .val (.int p3), .val (.int p4), .val (.int (p1 &&& (3 : Int32))), .val (.int v101), .val (.ref v102), .val (.ref y108), .val (.int v109), .val (.int v110), .val (.int (((p3.toUInt32 >>> ((2 : Int32) &&& 31).toUInt32).toInt32) &&& (3 : Int32))), .val (.int (((p3.toUInt32 >>> ((4 : Int32) &&& 31).toUInt32).toInt32) &&& (3 : Int32))), .val (.int (p4 &&& (3 : Int32))), .val (.int v111), .val (.ref v112), .val (.ref y118), .val (.ref b119), .unset, .unset] [(.int (2 : Int32)), (.int (p4 &&& (3 : Int32)))]))
            refine OwnEnd.go (fun _ k => XS.icmpYes X170.here hx rfl (pc0 := 251) (pc' := 276) rfl (hb hby at_251) rfl (feq (by rw [hc162]; decide : ¬ (p4 &&& (3 : Int32)) = (2 : Int32))).2 (by decide) (by decide) k) ?_
            show OwnEnd p e below s _ _ _ (T170.setTop (mkF m 276 #[.val (.int p1), .val (.int p2), .val (.int p3), .val (.int p4), .val (.int (p1 &&& (3 : Int32))), .val (.int v101), .val (.ref v102), .val (.ref y108), .val (.int v109), .val (.int v110), .val (.int (((p3.toUInt32 >>> ((2 : Int32) &&& 31).toUInt32).toInt32) &&& (3 : Int32))), .val (.int (((p3.toUInt32 >>> ((4 : Int32) &&& 31).toUInt32).toInt32) &&& (3 : Int32))), .val (.int (p4 &&& (3 : Int32))), .val (.int v111), .val (.ref v112), .val (.ref y118), .val (.ref b119), .unset, .unset] []))
            refine OwnEnd.go (fun _ k => XS.iload X170.here hx rfl (hb hby at_276) rfl  k) ?_
            show OwnEnd p e below s _ _ _ (T170.setTop (mkF m 278 #[.val (.int p1), .val (.int p2), .val (.int p3), .val (.int p4), .val (.int (p1 &&& (3 : Int32))), .val (.int v101), .val (.ref v102), .val (.ref y108), .val (.int v109), .val (.int v110), .val (.int (((p3.toUInt32 >>> ((2 : Int32) &&& 31).toUInt32).toInt32) &&& (3 : Int32))), .val (.int (((p3.toUInt32 >>> ((4 : Int32) &&& 31).toUInt32).toInt32) &&& (3 : Int32))), .val (.int (p4 &&& (3 : Int32))), .val (.int v111), .val (.ref v112), .val (.ref y118), .val (.ref b119), .unset, .unset] [(.int (p4 &&& (3 : Int32)))]))
            refine OwnEnd.go (fun _ k => XS.iconst X170.here hx rfl (hb hby at_278) k) ?_
            show OwnEnd p e below s _ _ _ (T170.setTop (mkF m 279 #[.val (.int p1), .val (.int p2), .val (.int p3), .val (.int p4), .val (.int (p1 &&& (3 : Int32))), .val (.int v101), .val (.ref v102), .val (.ref y108), .val (.int v109), .val (.int v110), .val (.int (((p3.toUInt32 >>> ((2 : Int32) &&& 31).toUInt32).toInt32) &&& (3 : Int32))), .val (.int (((p3.toUInt32 >>> ((4 : Int32) &&& 31).toUInt32).toInt32) &&& (3 : Int32))), .val (.int (p4 &&& (3 : Int32))), .val (.int v111), .val (.ref v112), .val (.ref y118), .val (.ref b119), .unset, .unset] [(.int (1 : Int32)), (.int (p4 &&& (3 : Int32)))]))
            refine OwnEnd.go (fun _ k => XS.icmpNo X170.here hx rfl (hb hby at_279) rfl (teq hc162).2 k) ?_
            show OwnEnd p e below s _ _ _ (T170.setTop (mkF m 282 #[.val (.int p1), .val (.int p2), .val (.int p3), .val (.int p4), .val (.int (p1 &&& (3 : Int32))), .val (.int v101), .val (.ref v102), .val (.ref y108), .val (.int v109), .val (.int v110), .val (.int (((p3.toUInt32 >>> ((2 : Int32) &&& 31).toUInt32).toInt32) &&& (3 : Int32))), .val (.int (((p3.toUInt32 >>> ((4 : Int32) &&& 31).toUInt32).toInt32) &&& (3 : Int32))), .val (.int (p4 &&& (3 : Int32))), .val (.int v111), .val (.ref v112), .val (.ref y118), .val (.ref b119), .unset, .unset] []))
            refine OwnEnd.go (fun _ k => XS.iconst X170.here hx rfl (hb hby at_282) k) ?_
            show OwnEnd p e below s _ _ _ (T170.setTop (mkF m 283 #[.val (.int p1), .val (.int p2), .val (.int p3), .val (.int p4), .val (.int (p1 &&& (3 : Int32))), .val (.int v101), .val (.ref v102), .val (.ref y108), .val (.int v109), .val (.int v110), .val (.int (((p3.toUInt32 >>> ((2 : Int32) &&& 31).toUInt32).toInt32) &&& (3 : Int32))), .val (.int (((p3.toUInt32 >>> ((4 : Int32) &&& 31).toUInt32).toInt32) &&& (3 : Int32))), .val (.int (p4 &&& (3 : Int32))), .val (.int v111), .val (.ref v112), .val (.ref y118), .val (.ref b119), .unset, .unset] [(.int (1 : Int32))]))
            refine OwnEnd.go (fun _ k => XS.istore X170.here hx rfl (hb hby at_283) rfl  (l' := #[.val (.int p1), .val (.int p2), .val (.int p3), .val (.int p4), .val (.int (p1 &&& (3 : Int32))), .val (.int v101), .val (.ref v102), .val (.ref y108), .val (.int v109), .val (.int v110), .val (.int (((p3.toUInt32 >>> ((2 : Int32) &&& 31).toUInt32).toInt32) &&& (3 : Int32))), .val (.int (((p3.toUInt32 >>> ((4 : Int32) &&& 31).toUInt32).toInt32) &&& (3 : Int32))), .val (.int (p4 &&& (3 : Int32))), .val (.int v111), .val (.ref v112), .val (.ref y118), .val (.ref b119), .val (.int (1 : Int32)), .unset]) rfl k) ?_
            show OwnEnd p e below s _ _ _ (T170.setTop (mkF m 285 #[.val (.int p1), .val (.int p2), .val (.int p3), .val (.int p4), .val (.int (p1 &&& (3 : Int32))), .val (.int v101), .val (.ref v102), .val (.ref y108), .val (.int v109), .val (.int v110), .val (.int (((p3.toUInt32 >>> ((2 : Int32) &&& 31).toUInt32).toInt32) &&& (3 : Int32))), .val (.int (((p3.toUInt32 >>> ((4 : Int32) &&& 31).toUInt32).toInt32) &&& (3 : Int32))), .val (.int (p4 &&& (3 : Int32))), .val (.int v111), .val (.ref v112), .val (.ref y118), .val (.ref b119), .val (.int (1 : Int32)), .unset] []))
            refine OwnEnd.go (fun _ k => XS.goto X170.here hx rfl (pc0 := 285) (pc' := 356) rfl (hb hby at_285) (by decide) (by decide) k) ?_
            show OwnEnd p e below s _ _ _ (T170.setTop (mkF m 356 #[.val (.int p1), .val (.int p2), .val (.int p3), .val (.int p4), .val (.int (p1 &&& (3 : Int32))), .val (.int v101), .val (.ref v102), .val (.ref y108), .val (.int v109), .val (.int v110), .val (.int (((p3.toUInt32 >>> ((2 : Int32) &&& 31).toUInt32).toInt32) &&& (3 : Int32))), .val (.int (((p3.toUInt32 >>> ((4 : Int32) &&& 31).toUInt32).toInt32) &&& (3 : Int32))), .val (.int (p4 &&& (3 : Int32))), .val (.int v111), .val (.ref v112), .val (.ref y118), .val (.ref b119), .val (.int (1 : Int32)), .unset] []))
            refine OwnEnd.go (fun _ k => XS.aload X170.here hx rfl (hb hby at_356) rfl rfl k) ?_
            show OwnEnd p e below s _ _ _ (T170.setTop (mkF m 358 #[.val (.int p1), .val (.int p2), .val (.int p3), .val (.int p4), .val (.int (p1 &&& (3 : Int32))), .val (.int v101), .val (.ref v102), .val (.ref y108), .val (.int v109), .val (.int v110), .val (.int (((p3.toUInt32 >>> ((2 : Int32) &&& 31).toUInt32).toInt32) &&& (3 : Int32))), .val (.int (((p3.toUInt32 >>> ((4 : Int32) &&& 31).toUInt32).toInt32) &&& (3 : Int32))), .val (.int (p4 &&& (3 : Int32))), .val (.int v111), .val (.ref v112), .val (.ref y118), .val (.ref b119), .val (.int (1 : Int32)), .unset] [(.ref b119)]))
            obtain ⟨_, T174, L174, X174, hQ174, st174⟩ := ownCallV X170 hx hZ hown ww55 ww56 ww58 ww57 ww14 ww59 (by decide) (rm8d1 l Z a0 hw [] b119 y134 y135 (((rc2 + (((p3.toUInt32 >>> ((4 : Int32) &&& 31).toUInt32).toInt32) &&& (3 : Int32))) + (1 : Int32)) + (1 : Int32)) (rc2 + (((p3.toUInt32 >>> ((4 : Int32) &&& 31).toUInt32).toInt32) &&& (3 : Int32))) (0 : Int32) ((0 : Int32) + (1 : Int32)) (0 : Int32) (0 : Int32) (0 : Int32) (0 : Int32) T170.heap n0 Y170  P171) (rfl : T170.heap = T170.heap) F172 0 (by decide) (by decide) (by decide) (by decide) (g := (mkF m 358 #[.val (.int p1), .val (.int p2), .val (.int p3), .val (.int p4), .val (.int (p1 &&& (3 : Int32))), .val (.int v101), .val (.ref v102), .val (.ref y108), .val (.int v109), .val (.int v110), .val (.int (((p3.toUInt32 >>> ((2 : Int32) &&& 31).toUInt32).toInt32) &&& (3 : Int32))), .val (.int (((p3.toUInt32 >>> ((4 : Int32) &&& 31).toUInt32).toInt32) &&& (3 : Int32))), .val (.int (p4 &&& (3 : Int32))), .val (.int v111), .val (.ref v112), .val (.ref y118), .val (.ref b119), .val (.int (1 : Int32)), .unset] [(.ref b119)])) rfl (by rw [hml]; rfl) (argsL := []) (rest := []) (lenOf pd0_4 rfl) rfl rfl (by show 2 * 0 + _ ≤ _; exact Nat.le_of_eq rfl) (hb hby at_358)
            obtain ⟨rfl, N174q, e174⟩ := hQ174
            have N174 := Fr.app N170 N174q
            refine OwnEnd.go (fun _ k => st174 _ k) ?_
            show OwnEnd p e below s _ _ _ (T174.setTop (mkF m 361 #[.val (.int p1), .val (.int p2), .val (.int p3), .val (.int p4), .val (.int (p1 &&& (3 : Int32))), .val (.int v101), .val (.ref v102), .val (.ref y108), .val (.int v109), .val (.int v110), .val (.int (((p3.toUInt32 >>> ((2 : Int32) &&& 31).toUInt32).toInt32) &&& (3 : Int32))), .val (.int (((p3.toUInt32 >>> ((4 : Int32) &&& 31).toUInt32).toInt32) &&& (3 : Int32))), .val (.int (p4 &&& (3 : Int32))), .val (.int v111), .val (.ref v112), .val (.ref y118), .val (.ref b119), .val (.int (1 : Int32)), .unset] [(.int (own_isat (((rc2 + (((p3.toUInt32 >>> ((4 : Int32) &&& 31).toUInt32).toInt32) &&& (3 : Int32))) + (1 : Int32)) + (1 : Int32)) (rc2 + (((p3.toUInt32 >>> ((4 : Int32) &&& 31).toUInt32).toInt32) &&& (3 : Int32))) ((0 : Int32) + (1 : Int32))))]))
            refine OwnEnd.go (fun _ k => XS.iload X174.here hx rfl (hb hby at_361) rfl  k) ?_
            show OwnEnd p e below s _ _ _ (T174.setTop (mkF m 363 #[.val (.int p1), .val (.int p2), .val (.int p3), .val (.int p4), .val (.int (p1 &&& (3 : Int32))), .val (.int v101), .val (.ref v102), .val (.ref y108), .val (.int v109), .val (.int v110), .val (.int (((p3.toUInt32 >>> ((2 : Int32) &&& 31).toUInt32).toInt32) &&& (3 : Int32))), .val (.int (((p3.toUInt32 >>> ((4 : Int32) &&& 31).toUInt32).toInt32) &&& (3 : Int32))), .val (.int (p4 &&& (3 : Int32))), .val (.int v111), .val (.ref v112), .val (.ref y118), .val (.ref b119), .val (.int (1 : Int32)), .unset] [(.int (1 : Int32)), (.int (own_isat (((rc2 + (((p3.toUInt32 >>> ((4 : Int32) &&& 31).toUInt32).toInt32) &&& (3 : Int32))) + (1 : Int32)) + (1 : Int32)) (rc2 + (((p3.toUInt32 >>> ((4 : Int32) &&& 31).toUInt32).toInt32) &&& (3 : Int32))) ((0 : Int32) + (1 : Int32))))]))
            refine OwnEnd.go (fun _ k => XS.icmpNo X174.here hx rfl (hb hby at_363) rfl (teq (own_isat_t (own_h1 (own_h0 _)))).2 k) ?_
            show OwnEnd p e below s _ _ _ (T174.setTop (mkF m 366 #[.val (.int p1), .val (.int p2), .val (.int p3), .val (.int p4), .val (.int (p1 &&& (3 : Int32))), .val (.int v101), .val (.ref v102), .val (.ref y108), .val (.int v109), .val (.int v110), .val (.int (((p3.toUInt32 >>> ((2 : Int32) &&& 31).toUInt32).toInt32) &&& (3 : Int32))), .val (.int (((p3.toUInt32 >>> ((4 : Int32) &&& 31).toUInt32).toInt32) &&& (3 : Int32))), .val (.int (p4 &&& (3 : Int32))), .val (.int v111), .val (.ref v112), .val (.ref y118), .val (.ref b119), .val (.int (1 : Int32)), .unset] []))
            refine OwnEnd.go (fun _ k => XS.iconst X174.here hx rfl (hb hby at_366) k) ?_
            show OwnEnd p e below s _ _ _ (T174.setTop (mkF m 367 #[.val (.int p1), .val (.int p2), .val (.int p3), .val (.int p4), .val (.int (p1 &&& (3 : Int32))), .val (.int v101), .val (.ref v102), .val (.ref y108), .val (.int v109), .val (.int v110), .val (.int (((p3.toUInt32 >>> ((2 : Int32) &&& 31).toUInt32).toInt32) &&& (3 : Int32))), .val (.int (((p3.toUInt32 >>> ((4 : Int32) &&& 31).toUInt32).toInt32) &&& (3 : Int32))), .val (.int (p4 &&& (3 : Int32))), .val (.int v111), .val (.ref v112), .val (.ref y118), .val (.ref b119), .val (.int (1 : Int32)), .unset] [(.int (1 : Int32))]))
            refine OwnEnd.go (fun _ k => XS.goto X174.here hx rfl (pc0 := 367) (pc' := 371) rfl (hb hby at_367) (by decide) (by decide) k) ?_
            show OwnEnd p e below s _ _ _ (T174.setTop (mkF m 371 #[.val (.int p1), .val (.int p2), .val (.int p3), .val (.int p4), .val (.int (p1 &&& (3 : Int32))), .val (.int v101), .val (.ref v102), .val (.ref y108), .val (.int v109), .val (.int v110), .val (.int (((p3.toUInt32 >>> ((2 : Int32) &&& 31).toUInt32).toInt32) &&& (3 : Int32))), .val (.int (((p3.toUInt32 >>> ((4 : Int32) &&& 31).toUInt32).toInt32) &&& (3 : Int32))), .val (.int (p4 &&& (3 : Int32))), .val (.int v111), .val (.ref v112), .val (.ref y118), .val (.ref b119), .val (.int (1 : Int32)), .unset] [(.int (1 : Int32))]))
            refine ownRetZ X174 hx hlk hret (hb hby at_371) (by decide) (by decide) (1 : Int32) (by decide) ?_
            show Q0 Z p1 p2 p3 p4 a_ATTRIBUTE a_TEXT a_COMMENT a_PROCESSING_INSTRUCTION a_NAMESPACE a_ELEMENT a_DOCUMENT h0 n0 _ T174.heap _
            rw [e174]
            exact ⟨rfl, N174⟩
        · refine OwnEnd.go (fun _ k => XS.icmpNo X158.here hx rfl (hb hby at_217) rfl (feq hc162).1 k) ?_
          show OwnEnd p e below s _ _ _ (T158.setTop (mkF m 220 #[.val (.int p1), .val (.int p2), .val (.int p3), .val (.int p4), .val (.int (p1 &&& (3 : Int32))), .val (.int v101), .val (.ref v102), .val (.ref y108), .val (.int v109), .val (.int v110), .val (.int (((p3.toUInt32 >>> ((2 : Int32) &&& 31).toUInt32).toInt32) &&& (3 : Int32))), .val (.int (((p3.toUInt32 >>> ((4 : Int32) &&& 31).toUInt32).toInt32) &&& (3 : Int32))), .val (.int (p4 &&& (3 : Int32))), .val (.int v111), .val (.ref v112), .val (.ref y118), .val (.ref b119), .unset, .unset] []))
          refine OwnEnd.go (fun _ k => XS.iload X158.here hx rfl (hb hby at_220) rfl  k) ?_
          show OwnEnd p e below s _ _ _ (T158.setTop (mkF m 222 #[.val (.int p1), .val (.int p2), .val (.int p3), .val (.int p4), .val (.int (p1 &&& (3 : Int32))), .val (.int v101), .val (.ref v102), .val (.ref y108), .val (.int v109), .val (.int v110), .val (.int (((p3.toUInt32 >>> ((2 : Int32) &&& 31).toUInt32).toInt32) &&& (3 : Int32))), .val (.int (((p3.toUInt32 >>> ((4 : Int32) &&& 31).toUInt32).toInt32) &&& (3 : Int32))), .val (.int (p4 &&& (3 : Int32))), .val (.int v111), .val (.ref v112), .val (.ref y118), .val (.ref b119), .unset, .unset] [(.int (p4 &&& (3 : Int32)))]))
          refine OwnEnd.go (fun _ k => XS.iconst X158.here hx rfl (hb hby at_222) k) ?_
          show OwnEnd p e below s _ _ _ (T158.setTop (mkF m 223 #[.val (.int p1), .val (.int p2), .val (.int p3), .val (.int p4), .val (.int (p1 &&& (3 : Int32))), .val (.int v101), .val (.ref v102), .val (.ref y108), .val (.int v109), .val (.int v110), .val (.int (((p3.toUInt32 >>> ((2 : Int32) &&& 31).toUInt32).toInt32) &&& (3 : Int32))), .val (.int (((p3.toUInt32 >>> ((4 : Int32) &&& 31).toUInt32).toInt32) &&& (3 : Int32))), .val (.int (p4 &&& (3 : Int32))), .val (.int v111), .val (.ref v112), .val (.ref y118), .val (.ref b119), .unset, .unset] [(.int (2 : Int32)), (.int (p4 &&& (3 : Int32)))]))
          by_cases hc175 : (p4 &&& (3 : Int32)) = (2 : Int32)
          · refine OwnEnd.go (fun _ k => XS.icmpNo X158.here hx rfl (hb hby at_223) rfl (teq hc175).2 k) ?_
            show OwnEnd p e below s _ _ _ (T158.setTop (mkF m 226 #[.val (.int p1), .val (.int p2), .val (.int p3), .val (.int p4), .val (.int (p1 &&& (3 : Int32))), .val (.int v101), .val (.ref v102), .val (.ref y108), .val (.int v109), .val (.int v110), .val (.int (((p3.toUInt32 >>> ((2 : Int32) &&& 31).toUInt32).toInt32) &&& (3 : Int32))), .val (.int (((p3.toUInt32 >>> ((4 : Int32) &&& 31).toUInt32).toInt32) &&& (3 : Int32))), .val (.int (p4 &&& (3 : Int32))), .val (.int v111), .val (.ref v112), .val (.ref y118), .val (.ref b119), .unset, .unset] []))
            refine OwnEnd.go (fun _ k => XS.aload X158.here hx rfl (hb hby at_226) rfl rfl k) ?_
            show OwnEnd p e below s _ _ _ (T158.setTop (mkF m 228 #[.val (.int p1), .val (.int p2), .val (.int p3), .val (.int p4), .val (.int (p1 &&& (3 : Int32))), .val (.int v101), .val (.ref v102), .val (.ref y108), .val (.int v109), .val (.int v110), .val (.int (((p3.toUInt32 >>> ((2 : Int32) &&& 31).toUInt32).toInt32) &&& (3 : Int32))), .val (.int (((p3.toUInt32 >>> ((4 : Int32) &&& 31).toUInt32).toInt32) &&& (3 : Int32))), .val (.int (p4 &&& (3 : Int32))), .val (.int v111), .val (.ref v112), .val (.ref y118), .val (.ref b119), .unset, .unset] [(.ref b119)]))
            refine OwnEnd.go (fun _ k => XS.aload X158.here hx rfl (hb hby at_228) rfl rfl k) ?_
            show OwnEnd p e below s _ _ _ (T158.setTop (mkF m 230 #[.val (.int p1), .val (.int p2), .val (.int p3), .val (.int p4), .val (.int (p1 &&& (3 : Int32))), .val (.int v101), .val (.ref v102), .val (.ref y108), .val (.int v109), .val (.int v110), .val (.int (((p3.toUInt32 >>> ((2 : Int32) &&& 31).toUInt32).toInt32) &&& (3 : Int32))), .val (.int (((p3.toUInt32 >>> ((4 : Int32) &&& 31).toUInt32).toInt32) &&& (3 : Int32))), .val (.int (p4 &&& (3 : Int32))), .val (.int v111), .val (.ref v112), .val (.ref y118), .val (.ref b119), .unset, .unset] [(.ref v112), (.ref b119)]))
            obtain ⟨_, T176, L176, X176, hQ176, st176⟩ := ownCallV X158 hx hZ hown ww33 ww34 ww36 ww35 ww14 ww37 (by decide) (rm5d0open l Z a0 hw [] b119 v112 y134 y135 (rc2 + (((p3.toUInt32 >>> ((4 : Int32) &&& 31).toUInt32).toInt32) &&& (3 : Int32))) (0 : Int32) (0 : Int32) (0 : Int32) (0 : Int32) (0 : Int32) (0 : Int32) (0 : Int32) a_ATTRIBUTE a_ELEMENT a_DOCUMENT T158.heap n0 Y158 O158 S_ATTRIBUTE S_ELEMENT S_DOCUMENT nk112 P112 P159) (rfl : T158.heap = T158.heap) F161 0 (by decide) (by decide) (by decide) (by decide) (g := (mkF m 230 #[.val (.int p1), .val (.int p2), .val (.int p3), .val (.int p4), .val (.int (p1 &&& (3 : Int32))), .val (.int v101), .val (.ref v102), .val (.ref y108), .val (.int v109), .val (.int v110), .val (.int (((p3.toUInt32 >>> ((2 : Int32) &&& 31).toUInt32).toInt32) &&& (3 : Int32))), .val (.int (((p3.toUInt32 >>> ((4 : Int32) &&& 31).toUInt32).toInt32) &&& (3 : Int32))), .val (.int (p4 &&& (3 : Int32))), .val (.int v111), .val (.ref v112), .val (.ref y118), .val (.ref b119), .unset, .unset] [(.ref v112), (.ref b119)])) rfl (by rw [hml]; rfl) (argsL := [(.ref v112)]) (rest := []) (lenOf pd0_3 rfl) rfl rfl (by show 2 * 0 + _ ≤ _; exact Nat.le_of_eq rfl) (hb hby at_230)
            obtain ⟨rfl, N176q, K176q, P177⟩ := hQ176
            have N176 := Fr.app N158 N176q
            have F178 := F161.keep K176q
            have K176 := K158.trans K176q (allS (Or.inr v119) (allS (Or.inr (Nat.le_trans K119.1 P131)) (allS (Or.inr (Nat.le_trans K119.1 P132)) all0)))
            have Y176 := Nat.le_trans Y158 K176q.1
            have O176 := O158.keep K176q (allS u119 (allS P129 (allS P130 all0)))
            refine OwnEnd.go (fun _ k => st176 _ k) ?_
            show OwnEnd p e below s _ _ _ (T176.setTop (mkF m 233 #[.val (.int p1), .val (.int p2), .val (.int p3), .val (.int p4), .val (.int (p1 &&& (3 : Int32))), .val (.int v101), .val (.ref v102), .val (.ref y108), .val (.int v109), .val (.int v110), .val (.int (((p3.toUInt32 >>> ((2 : Int32) &&& 31).toUInt32).toInt32) &&& (3 : Int32))), .val (.int (((p3.toUInt32 >>> ((4 : Int32) &&& 31).toUInt32).toInt32) &&& (3 : Int32))), .val (.int (p4 &&& (3 : Int32))), .val (.int v111), .val (.ref v112), .val (.ref y118), .val (.ref b119), .unset, .unset] [(.int (rc2 + (((p3.toUInt32 >>> ((4 : Int32) &&& 31).toUInt32).toInt32) &&& (3 : Int32))))]))
            refine OwnEnd.go (fun _ k => XS.pop X176.here hx rfl (hb hby at_233) rfl rfl k) ?_
            show OwnEnd p e below s _ _ _ (T176.setTop (mkF m 234 #[.val (.int p1), .val (.int p2), .val (.int p3), .val (.int p4), .val (.int (p1 &&& (3 : Int32))), .val (.int v101), .val (.ref v102), .val (.ref y108), .val (.int v109), .val (.int v110), .val (.int (((p3.toUInt32 >>> ((2 : Int32) &&& 31).toUInt32).toInt32) &&& (3 : Int32))), .val (.int (((p3.toUInt32 >>> ((4 : Int32) &&& 31).toUInt32).toInt32) &&& (3 : Int32))), .val (.int (p4 &&& (3 : Int32))), .val (.int v111), .val (.ref v112), .val (.ref y118), .val (.ref b119), .unset, .unset] []))
            refine OwnEnd.go (fun _ k => XS.iload X176.here hx rfl (hb hby at_234) rfl  k) ?_
            show OwnEnd p e below s _ _ _ (T176.setTop (mkF m 236 #[.val (.int p1), .val (.int p2), .val (.int p3), .val (.int p4), .val (.int (p1 &&& (3 : Int32))), .val (.int v101), .val (.ref v102), .val (.ref y108), .val (.int v109), .val (.int v110), .val (.int (((p3.toUInt32 >>> ((2 : Int32) &&& 31).toUInt32).toInt32) &&& (3 : Int32))), .val (.int (((p3.toUInt32 >>> ((4 : Int32) &&& 31).toUInt32).toInt32) &&& (3 : Int32))), .val (.int (p4 &&& (3 : Int32))), .val (.int v111), .val (.ref v112), .val (.ref y118), .val (.ref b119), .unset, .unset] [(.int v111)]))
            by_cases hc180 : v111 = (0 : Int32)
            · refine OwnEnd.go (fun _ k => XS.ifYes X176.here hx rfl (pc0 := 236) (pc' := 248) rfl (hb hby at_236) rfl ((if0 _ _).trans (teq hc180).1) (by decide) (by decide) k) ?_
              show OwnEnd p e below s _ _ _ (T176.setTop (mkF m 248 #[.val (.int p1), .val (.int p2), .val (.int p3), .val (.int p4), .val (.int (p1 &&& (3 : Int32))), .val (.int v101), .val (.ref v102), .val (.ref y108), .val (.int v109), .val (.int v110), .val (.int (((p3.toUInt32 >>> ((2 : Int32) &&& 31).toUInt32).toInt32) &&& (3 : Int32))), .val (.int (((p3.toUInt32 >>> ((4 : Int32) &&& 31).toUInt32).toInt32) &&& (3 : Int32))), .val (.int (p4 &&& (3 : Int32))), .val (.int v111), .val (.ref v112), .val (.ref y118), .val (.ref b119), .unset, .unset] []))
              refine OwnEnd.go (fun _ k => XS.iload X176.here hx rfl (hb hby at_248) rfl  k) ?_
              show OwnEnd p e below s _ _ _ (T176.setTop (mkF m 250 #[.val (.int p1), .val (.int p2), .val (.int p3), .val (.int p4), .val (.int (p1 &&& (3 : Int32))), .val (.int v101), .val (.ref v102), .val (.ref y108), .val (.int v109), .val (.int v110), .val (.int (((p3.toUInt32 >>> ((2 : Int32) &&& 31).toUInt32).toInt32) &&& (3 : Int32))), .val (.int (((p3.toUInt32 >>> ((4 : Int32) &&& 31).toUInt32).toInt32) &&& (3 : Int32))), .val (.int (p4 &&& (3 : Int32))), .val (.int v111), .val (.ref v112), .val (.ref y118), .val (.ref b119), .unset, .unset] [(.int (p4 &&& (3 : Int32)))]))
              refine OwnEnd.go (fun _ k => XS.iconst X176.here hx rfl (hb hby at_250) k) ?_
              show OwnEnd p e below s _ _ _ (T176.setTop (mkF m 251 #[.val (.int p1), .val (.int p2), .val (.int p3), .val (.int p4), .val (.int (p1 &&& (3 : Int32))), .val (.int v101), .val (.ref v102), .val (.ref y108), .val (.int v109), .val (.int v110), .val (.int (((p3.toUInt32 >>> ((2 : Int32) &&& 31).toUInt32).toInt32) &&& (3 : Int32))), .val (.int (((p3.toUInt32 >>> ((4 : Int32) &&& 31).toUInt32).toInt32) &&& (3 : Int32))), .val (.int (p4 &&& (3 : Int32))), .val (.int v111), .val (.ref v112), .val (.ref y118), .val (.ref b119), .unset, .unset] [(.int (2 : Int32)), (.int (p4 &&& (3 : Int32)))]))
              refine OwnEnd.go (fun _ k => XS.icmpNo X176.here hx rfl (hb hby at_251) rfl (teq hc175).2 k) ?_
              show OwnEnd p e below s _ _ _ (T176.setTop (mkF m 254 #[.val (.int p1), .val (.int p2), .val (.int p3), .val (.int p4), .val (.int (p1 &&& (3 : Int32))), .val (.int v101), .val (.ref v102), .val (.ref y108), .val (.int v109), .val (.int v110), .val (.int (((p3.toUInt32 >>> ((2 : Int32) &&& 31).toUInt32).toInt32) &&& (3 : Int32))), .val (.int (((p3.toUInt32 >>> ((4 : Int32) &&& 31).toUInt32).toInt32) &&& (3 : Int32))), .val (.int (p4 &&& (3 : Int32))), .val (.int v111), .val (.ref v112), .val (.ref y118), .val (.ref b119), .unset, .unset] []))
              refine OwnEnd.go (fun _ k => XS.aload X176.here hx rfl (hb hby at_254) rfl rfl k) ?_
              show OwnEnd p e below s _ _ _ (T176.setTop (mkF m 256 #[.val (.int p1), .val (.int p2), .val (.int p3), .val (.int p4), .val (.int (p1 &&& (3 : Int32))), .val (.int v101), .val (.ref v102), .val (.ref y108), .val (.int v109), .val (.int v110), .val (.int (((p3.toUInt32 >>> ((2 : Int32) &&& 31).toUInt32).toInt32) &&& (3 : Int32))), .val (.int (((p3.toUInt32 >>> ((4 : Int32) &&& 31).toUInt32).toInt32) &&& (3 : Int32))), .val (.int (p4 &&& (3 : Int32))), .val (.int v111), .val (.ref v112), .val (.ref y118), .val (.ref b119), .unset, .unset] [(.ref b119)]))
              obtain ⟨_, T181, L181, X181, hQ181, st181⟩ := ownCallV X176 hx hZ hown ww60 ww61 ww63 ww62 ww14 ww64 (by decide) (rm9d1 l Z a0 hw [] b119 y134 y135 ((rc2 + (((p3.toUInt32 >>> ((4 : Int32) &&& 31).toUInt32).toInt32) &&& (3 : Int32))) + (1 : Int32)) (rc2 + (((p3.toUInt32 >>> ((4 : Int32) &&& 31).toUInt32).toInt32) &&& (3 : Int32))) (0 : Int32) (0 : Int32) (0 : Int32) (0 : Int32) (0 : Int32) (0 : Int32) T176.heap n0 Y176  P177) (rfl : T176.heap = T176.heap) F178 0 (by decide) (by decide) (by decide) (by decide) (g := (mkF m 256 #[.val (.int p1), .val (.int p2), .val (.int p3), .val (.int p4), .val (.int (p1 &&& (3 : Int32))), .val (.int v101), .val (.ref v102), .val (.ref y108), .val (.int v109), .val (.int v110), .val (.int (((p3.toUInt32 >>> ((2 : Int32) &&& 31).toUInt32).toInt32) &&& (3 : Int32))), .val (.int (((p3.toUInt32 >>> ((4 : Int32) &&& 31).toUInt32).toInt32) &&& (3 : Int32))), .val (.int (p4 &&& (3 : Int32))), .val (.int v111), .val (.ref v112), .val (.ref y118), .val (.ref b119), .unset, .unset] [(.ref b119)])) rfl (by rw [hml]; rfl) (argsL := []) (rest := []) (lenOf pd0_1 rfl) rfl rfl (by show 2 * 0 + _ ≤ _; exact Nat.le_of_eq rfl) (hb hby at_256)
              obtain ⟨rfl, N181q, K181q, P182⟩ := hQ181
              have N181 := Fr.app N176 N181q
              have F183 := F178.keep K181q
              have K181 := K176.trans K181q (allS (Or.inr v119) (allS (Or.inr (Nat.le_trans K119.1 P131)) (allS (Or.inr (Nat.le_trans K119.1 P132)) all0)))
              have Y181 := Nat.le_trans Y176 K181q.1
              have O181 := O176.keep K181q (allS u119 (allS P129 (allS P130 all0)))
              refine OwnEnd.go (fun _ k => st181 _ k) ?_
              show OwnEnd p e below s _ _ _ (T181.setTop (mkF m 259 #[.val (.int p1), .val (.int p2), .val (.int p3), .val (.int p4), .val (.int (p1 &&& (3 : Int32))), .val (.int v101), .val (.ref v102), .val (.ref y108), .val (.int v109), .val (.int v110), .val (.int (((p3.toUInt32 >>> ((2 : Int32) &&& 31).toUInt32).toInt32) &&& (3 : Int32))), .val (.int (((p3.toUInt32 >>> ((4 : Int32) &&& 31).toUInt32).toInt32) &&& (3 : Int32))), .val (.int (p4 &&& (3 : Int32))), .val (.int v111), .val (.ref v112), .val (.ref y118), .val (.ref b119), .unset, .unset] []))
              refine OwnEnd.go (fun _ k => XS.goto X181.here hx rfl (pc0 := 259) (pc' := 276) rfl (hb hby at_259) (by decide) (by decide) k) ?_
              show OwnEnd p e below s _ _ _ (T181.setTop (mkF m 276 #[.val (.int p1), .val (.int p2), .val (.int p3), .val (.int p4), .val (.int (p1 &&& (3 : Int32))), .val (.int v101), .val (.ref v102), .val (.ref y108), .val (.int v109), .val (.int v110), .val (.int (((p3.toUInt32 >>> ((2 : Int32) &&& 31).toUInt32).toInt32) &&& (3 : Int32))), .val (.int (((p3.toUInt32 >>> ((4 : Int32) &&& 31).toUInt32).toInt32) &&& (3 : Int32))), .val (.int (p4 &&& (3 : Int32))), .val (.int v111), .val (.ref v112), .val (.ref y118), .val (.ref b119), .unset, .unset] []))
              refine OwnEnd.go (fun _ k => XS.iload X181.here hx rfl (hb hby at_276) rfl  k) ?_
              show OwnEnd p e below s _ _ _ (T181.setTop (mkF m 278 #[.val (.int p1), .val (.int p2), .val (.int p3), .val (.int p4), .val (.int (p1 &&& (3 : Int32))), .val (.int v101), .val (.ref v102), .val (.ref y108), .val (.int v109), .val (.int v110), .val (.int (((p3.toUInt32 >>> ((2 : Int32) &&& 31).toUInt32).toInt32) &&& (3 : Int32))), .val (.int (((p3.toUInt32 >>> ((4 : Int32) &&& 31).toUInt32).toInt32) &&& (3 : Int32))), .val (.int (p4 &&& (3 : Int32))), .val (.int v111), .val (.ref v112), .val (.ref y118), .val (.ref b119), .unset, .unset] [(.int (p4 &&& (3 : Int32)))]))
              refine OwnEnd.go (fun _ k => XS.iconst X181.here hx rfl (hb hby at_278) k) ?_
              show OwnEnd p e below s _ _ _ (T181.setTop (mkF m 279 #[.val (.int p1), .val (.int p2), .val (.int p3), .val (.int p4), .val (.int (p1 &&& (3 : Int32))), .val (.int v101), .val (.ref v102), .val (.ref y108), .val (.int v109), .val (.int v110), .val (.int (((p3.toUInt32 >>> ((2 : Int32) &&& 31).toUInt32).toInt32) &&& (3 : Int32))), .val (.int (((p3.toUInt32 >>> ((4 : Int32) &&& 31).toUInt32).toInt32) &&& (3 : Int32))), .val (.int (p4 &&& (3 : Int32))), .val (.int v111), .val (.ref v112), .val (.ref y118), .val (.ref b119), .unset, .unset] [(.int (1 : Int32)), (.int (p4 &&& (3 : Int32)))]))
              refine OwnEnd.go (fun _ k => XS.icmpYes X181.here hx rfl (pc0 := 279) (pc' := 288) rfl (hb hby at_279) rfl (feq (by rw [hc175]; decide : ¬ (p4 &&& (3 : Int32)) = (1 : Int32))).2 (by decide) (by decide) k) ?_
              show OwnEnd p e below s _ _ _ (T181.setTop (mkF m 288 #[.val (.int p1), .val (.int p2), .val (.int p3), .val (.int p4), .val (.int (p1 &&& (3 : Int32))), .val (.int v101), .val (.ref v102), .val (.ref y108), .val (.int v109), .val (.int v110), .val (.int (((p3.toUInt32 >>> ((2 : Int32) &&& 31).toUInt32).toInt32) &&& (3 : Int32))), .val (.int (((p3.toUInt32 >>> ((4 : Int32) &&& 31).toUInt32).toInt32) &&& (3 : Int32))), .val (.int (p4 &&& (3 : Int32))), .val (.int v111), .val (.ref v112), .val (.ref y118), .val (.ref b119), .unset, .unset] []))
              refine OwnEnd.go (fun _ k => XS.iload X181.here hx rfl (hb hby at_288) rfl  k) ?_
              show OwnEnd p e below s _ _ _ (T181.setTop (mkF m 290 #[.val (.int p1), .val (.int p2), .val (.int p3), .val (.int p4), .val (.int (p1 &&& (3 : Int32))), .val (.int v101), .val (.ref v102), .val (.ref y108), .val (.int v109), .val (.int v110), .val (.int (((p3.toUInt32 >>> ((2 : Int32) &&& 31).toUInt32).toInt32) &&& (3 : Int32))), .val (.int (((p3.toUInt32 >>> ((4 : Int32) &&& 31).toUInt32).toInt32) &&& (3 : Int32))), .val (.int (p4 &&& (3 : Int32))), .val (.int v111), .val (.ref v112), .val (.ref y118), .val (.ref b119), .unset, .unset] [(.int v101)]))
              refine OwnEnd.go (fun _ k => XS.ifNo X181.here hx rfl (hb hby at_290) rfl ((if0 _ _).trans (teq hc149).2) k) ?_
              show OwnEnd p e below s _ _ _ (T181.setTop (mkF m 293 #[.val (.int p1), .val (.int p2), .val (.int p3), .val (.int p4), .val (.int (p1 &&& (3 : Int32))), .val (.int v101), .val (.ref v102), .val (.ref y108), .val (.int v109), .val (.int v110), .val (.int (((p3.toUInt32 >>> ((2 : Int32) &&& 31).toUInt32).toInt32) &&& (3 : Int32))), .val (.int (((p3.toUInt32 >>> ((4 : Int32) &&& 31).toUInt32).toInt32) &&& (3 : Int32))), .val (.int (p4 &&& (3 : Int32))), .val (.int v111), .val (.ref v112), .val (.ref y118), .val (.ref b119), .unset, .unset] []))
              refine OwnEnd.go (fun _ k => XS.iconst X181.here hx rfl (hb hby at_293) k) ?_
              show OwnEnd p e below s _ _ _ (T181.setTop (mkF m 294 #[.val (.int p1), .val (.int p2), .val (.int p3), .val (.int p4), .val (.int (p1 &&& (3 : Int32))), .val (.int v101), .val (.ref v102), .val (.ref y108), .val (.int v109), .val (.int v110), .val (.int (((p3.toUInt32 >>> ((2 : Int32) &&& 31).toUInt32).toInt32) &&& (3 : Int32))), .val (.int (((p3.toUInt32 >>> ((4 : Int32) &&& 31).toUInt32).toInt32) &&& (3 : Int32))), .val (.int (p4 &&& (3 : Int32))), .val (.int v111), .val (.ref v112), .val (.ref y118), .val (.ref b119), .unset, .unset] [(.int (0 : Int32))]))
              refine OwnEnd.go (fun _ k => XS.istore X181.here hx rfl (hb hby at_294) rfl  (l' := #[.val (.int p1), .val (.int p2), .val (.int p3), .val (.int p4), .val (.int (p1 &&& (3 : Int32))), .val (.int v101), .val (.ref v102), .val (.ref y108), .val (.int v109), .val (.int v110), .val (.int (((p3.toUInt32 >>> ((2 : Int32) &&& 31).toUInt32).toInt32) &&& (3 : Int32))), .val (.int (((p3.toUInt32 >>> ((4 : Int32) &&& 31).toUInt32).toInt32) &&& (3 : Int32))), .val (.int (p4 &&& (3 : Int32))), .val (.int v111), .val (.ref v112), .val (.ref y118), .val (.ref b119), .val (.int (0 : Int32)), .unset]) rfl k) ?_
              show OwnEnd p e below s _ _ _ (T181.setTop (mkF m 296 #[.val (.int p1), .val (.int p2), .val (.int p3), .val (.int p4), .val (.int (p1 &&& (3 : Int32))), .val (.int v101), .val (.ref v102), .val (.ref y108), .val (.int v109), .val (.int v110), .val (.int (((p3.toUInt32 >>> ((2 : Int32) &&& 31).toUInt32).toInt32) &&& (3 : Int32))), .val (.int (((p3.toUInt32 >>> ((4 : Int32) &&& 31).toUInt32).toInt32) &&& (3 : Int32))), .val (.int (p4 &&& (3 : Int32))), .val (.int v111), .val (.ref v112), .val (.ref y118), .val (.ref b119), .val (.int (0 : Int32)), .unset] []))
              refine OwnEnd.go (fun _ k => XS.goto X181.here hx rfl (pc0 := 296) (pc' := 356) rfl (hb hby at_296) (by decide) (by decide) k) ?_
              show OwnEnd p e below s _ _ _ (T181.setTop (mkF m 356 #[.val (.int p1), .val (.int p2), .val (.int p3), .val (.int p4), .val (.int (p1 &&& (3 : Int32))), .val (.int v101), .val (.ref v102), .val (.ref y108), .val (.int v109), .val (.int v110), .val (.int (((p3.toUInt32 >>> ((2 : Int32) &&& 31).toUInt32).toInt32) &&& (3 : Int32))), .val (.int (((p3.toUInt32 >>> ((4 : Int32) &&& 31).toUInt32).toInt32) &&& (3 : Int32))), .val (.int (p4 &&& (3 : Int32))), .val (.int v111), .val (.ref v112), .val (.ref y118), .val (.ref b119), .val (.int (0 : Int32)), .unset] []))
              refine OwnEnd.go (fun _ k => XS.aload X181.here hx rfl (hb hby at_356) rfl rfl k) ?_
              show OwnEnd p e below s _ _ _ (T181.setTop (mkF m 358 #[.val (.int p1), .val (.int p2), .val (.int p3), .val (.int p4), .val (.int (p1 &&& (3 : Int32))), .val (.int v101), .val (.ref v102), .val (.ref y108), .val (.int v109), .val (.int v110), .val (.int (((p3.toUInt32 >>> ((2 : Int32) &&& 31).toUInt32).toInt32) &&& (3 : Int32))), .val (.int (((p3.toUInt32 >>> ((4 : Int32) &&& 31).toUInt32).toInt32) &&& (3 : Int32))), .val (.int (p4 &&& (3 : Int32))), .val (.int v111), .val (.ref v112), .val (.ref y118), .val (.ref b119), .val (.int (0 : Int32)), .unset] [(.ref b119)]))
              obtain ⟨_, T185, L185, X185, hQ185, st185⟩ := ownCallV X181 hx hZ hown ww55 ww56 ww58 ww57 ww14 ww59 (by decide) (rm8d0 l Z a0 hw [] b119 y134 y135 ((rc2 + (((p3.toUInt32 >>> ((4 : Int32) &&& 31).toUInt32).toInt32) &&& (3 : Int32))) + (1 : Int32)) (rc2 + (((p3.toUInt32 >>> ((4 : Int32) &&& 31).toUInt32).toInt32) &&& (3 : Int32))) (0 : Int32) (0 : Int32) (0 : Int32) (rc2 + (((p3.toUInt32 >>> ((4 : Int32) &&& 31).toUInt32).toInt32) &&& (3 : Int32))) (((rc2 + (((p3.toUInt32 >>> ((4 : Int32) &&& 31).toUInt32).toInt32) &&& (3 : Int32))) + (1 : Int32)) - (rc2 + (((p3.toUInt32 >>> ((4 : Int32) &&& 31).toUInt32).toInt32) &&& (3 : Int32)))) (0 : Int32) T181.heap n0 Y181  P182) (rfl : T181.heap = T181.heap) F183 0 (by decide) (by decide) (by decide) (by decide) (g := (mkF m 358 #[.val (.int p1), .val (.int p2), .val (.int p3), .val (.int p4), .val (.int (p1 &&& (3 : Int32))), .val (.int v101), .val (.ref v102), .val (.ref y108), .val (.int v109), .val (.int v110), .val (.int (((p3.toUInt32 >>> ((2 : Int32) &&& 31).toUInt32).toInt32) &&& (3 : Int32))), .val (.int (((p3.toUInt32 >>> ((4 : Int32) &&& 31).toUInt32).toInt32) &&& (3 : Int32))), .val (.int (p4 &&& (3 : Int32))), .val (.int v111), .val (.ref v112), .val (.ref y118), .val (.ref b119), .val (.int (0 : Int32)), .unset] [(.ref b119)])) rfl (by rw [hml]; rfl) (argsL := []) (rest := []) (lenOf pd0_4 rfl) rfl rfl (by show 2 * 0 + _ ≤ _; exact Nat.le_of_eq rfl) (hb hby at_358)
              obtain ⟨rfl, N185q, e185⟩ := hQ185
              have N185 := Fr.app N181 N185q
              refine OwnEnd.go (fun _ k => st185 _ k) ?_
              show OwnEnd p e below s _ _ _ (T185.setTop (mkF m 361 #[.val (.int p1), .val (.int p2), .val (.int p3), .val (.int p4), .val (.int (p1 &&& (3 : Int32))), .val (.int v101), .val (.ref v102), .val (.ref y108), .val (.int v109), .val (.int v110), .val (.int (((p3.toUInt32 >>> ((2 : Int32) &&& 31).toUInt32).toInt32) &&& (3 : Int32))), .val (.int (((p3.toUInt32 >>> ((4 : Int32) &&& 31).toUInt32).toInt32) &&& (3 : Int32))), .val (.int (p4 &&& (3 : Int32))), .val (.int v111), .val (.ref v112), .val (.ref y118), .val (.ref b119), .val (.int (0 : Int32)), .unset] [(.int (0 : Int32))]))
              refine OwnEnd.go (fun _ k => XS.iload X185.here hx rfl (hb hby at_361) rfl  k) ?_
              show OwnEnd p e below s _ _ _ (T185.setTop (mkF m 363 #[.val (.int p1), .val (.int p2), .val (.int p3), .val (.int p4), .val (.int (p1 &&& (3 : Int32))), .val (.int v101), .val (.ref v102), .val (.ref y108), .val (.int v109), .val (.int v110), .val (.int (((p3.toUInt32 >>> ((2 : Int32) &&& 31).toUInt32).toInt32) &&& (3 : Int32))), .val (.int (((p3.toUInt32 >>> ((4 : Int32) &&& 31).toUInt32).toInt32) &&& (3 : Int32))), .val (.int (p4 &&& (3 : Int32))), .val (.int v111), .val (.ref v112), .val (.ref y118), .val (.ref b119), .val (.int (0 : Int32)), .unset] [(.int (0 : Int32)), (.int (0 : Int32))]))
              refine OwnEnd.go (fun _ k => XS.icmpNo X185.here hx rfl (hb hby at_363) rfl (teq (by decide : (0 : Int32) = (0 : Int32))).2 k) ?_
              show OwnEnd p e below s _ _ _ (T185.setTop (mkF m 366 #[.val (.int p1), .val (.int p2), .val (.int p3), .val (.int p4), .val (.int (p1 &&& (3 : Int32))), .val (.int v101), .val (.ref v102), .val (.ref y108), .val (.int v109), .val (.int v110), .val (.int (((p3.toUInt32 >>> ((2 : Int32) &&& 31).toUInt32).toInt32) &&& (3 : Int32))), .val (.int (((p3.toUInt32 >>> ((4 : Int32) &&& 31).toUInt32).toInt32) &&& (3 : Int32))), .val (.int (p4 &&& (3 : Int32))), .val (.int v111), .val (.ref v112), .val (.ref y118), .val (.ref b119), .val (.int (0 : Int32)), .unset] []))
              refine OwnEnd.go (fun _ k => XS.iconst X185.here hx rfl (hb hby at_366) k) ?_
              show OwnEnd p e below s _ _ _ (T185.setTop (mkF m 367 #[.val (.int p1), .val (.int p2), .val (.int p3), .val (.int p4), .val (.int (p1 &&& (3 : Int32))), .val (.int v101), .val (.ref v102), .val (.ref y108), .val (.int v109), .val (.int v110), .val (.int (((p3.toUInt32 >>> ((2 : Int32) &&& 31).toUInt32).toInt32) &&& (3 : Int32))), .val (.int (((p3.toUInt32 >>> ((4 : Int32) &&& 31).toUInt32).toInt32) &&& (3 : Int32))), .val (.int (p4 &&& (3 : Int32))), .val (.int v111), .val (.ref v112), .val (.ref y118), .val (.ref b119), .val (.int (0 : Int32)), .unset] [(.int (1 : Int32))]))
              refine OwnEnd.go (fun _ k => XS.goto X185.here hx rfl (pc0 := 367) (pc' := 371) rfl (hb hby at_367) (by decide) (by decide) k) ?_
              show OwnEnd p e below s _ _ _ (T185.setTop (mkF m 371 #[.val (.int p1), .val (.int p2), .val (.int p3), .val (.int p4), .val (.int (p1 &&& (3 : Int32))), .val (.int v101), .val (.ref v102), .val (.ref y108), .val (.int v109), .val (.int v110), .val (.int (((p3.toUInt32 >>> ((2 : Int32) &&& 31).toUInt32).toInt32) &&& (3 : Int32))), .val (.int (((p3.toUInt32 >>> ((4 : Int32) &&& 31).toUInt32).toInt32) &&& (3 : Int32))), .val (.int (p4 &&& (3 : Int32))), .val (.int v111), .val (.ref v112), .val (.ref y118), .val (.ref b119), .val (.int (0 : Int32)), .unset] [(.int (1 : Int32))]))
              refine ownRetZ X185 hx hlk hret (hb hby at_371) (by decide) (by decide) (1 : Int32) (by decide) ?_
              show Q0 Z p1 p2 p3 p4 a_ATTRIBUTE a_TEXT a_COMMENT a_PROCESSING_INSTRUCTION a_NAMESPACE a_ELEMENT a_DOCUMENT h0 n0 _ T185.heap _
              rw [e185]
              exact ⟨rfl, N185⟩
            · refine OwnEnd.go (fun _ k => XS.ifNo X176.here hx rfl (hb hby at_236) rfl ((if0 _ _).trans (feq hc180).1) k) ?_
              show OwnEnd p e below s _ _ _ (T176.setTop (mkF m 239 #[.val (.int p1), .val (.int p2), .val (.int p3), .val (.int p4), .val (.int (p1 &&& (3 : Int32))), .val (.int v101), .val (.ref v102), .val (.ref y108), .val (.int v109), .val (.int v110), .val (.int (((p3.toUInt32 >>> ((2 : Int32) &&& 31).toUInt32).toInt32) &&& (3 : Int32))), .val (.int (((p3.toUInt32 >>> ((4 : Int32) &&& 31).toUInt32).toInt32) &&& (3 : Int32))), .val (.int (p4 &&& (3 : Int32))), .val (.int v111), .val (.ref v112), .val (.ref y118), .val (.ref b119), .unset, .unset] []))
              refine OwnEnd.go (fun _ k => XS.aload X176.here hx rfl (hb hby at_239) rfl rfl k) ?_
              show OwnEnd p e below s _ _ _ (T176.setTop (mkF m 241 #[.val (.int p1), .val (.int p2), .val (.int p3), .val (.int p4), .val (.int (p1 &&& (3 : Int32))), .val (.int v101), .val (.ref v102), .val (.ref y108), .val (.int v109), .val (.int v110), .val (.int (((p3.toUInt32 >>> ((2 : Int32) &&& 31).toUInt32).toInt32) &&& (3 : Int32))), .val (.int (((p3.toUInt32 >>> ((4 : Int32) &&& 31).toUInt32).toInt32) &&& (3 : Int32))), .val (.int (p4 &&& (3 : Int32))), .val (.int v111), .val (.ref v112), .val (.ref y118), .val (.ref b119), .unset, .unset] [(.ref b119)]))
              obtain ⟨T186, X186, e186, st186⟩ := getS2 X176 hx hZ hown (host := "") (Or.inl ww8) Via.refl (rfl : T176.heap = T176.heap) (S_ATTRIBUTE.ext O176.2) (g := (mkF m 241 #[.val (.int p1), .val (.int p2), .val (.int p3), .val (.int p4), .val (.int (p1 &&& (3 : Int32))), .val (.int v101), .val (.ref v102), .val (.ref y108), .val (.int v109), .val (.int v110), .val (.int (((p3.toUInt32 >>> ((2 : Int32) &&& 31).toUInt32).toInt32) &&& (3 : Int32))), .val (.int (((p3.toUInt32 >>> ((4 : Int32) &&& 31).toUInt32).toInt32) &&& (3 : Int32))), .val (.int (p4 &&& (3 : Int32))), .val (.int v111), .val (.ref v112), .val (.ref y118), .val (.ref b119), .unset, .unset] [(.ref b119)])) rfl (hb hby at_241)
              refine OwnEnd.go (fun _ k => st186 _ k) ?_
              show OwnEnd p e below s _ _ _ (T186.setTop (mkF m 244 #[.val (.int p1), .val (.int p2), .val (.int p3), .val (.int p4), .val (.int (p1 &&& (3 : Int32))), .val (.int v101), .val (.ref v102), .val (.ref y108), .val (.int v109), .val (.int v110), .val (.int (((p3.toUInt32 >>> ((2 : Int32) &&& 31).toUInt32).toInt32) &&& (3 : Int32))), .val (.int (((p3.toUInt32 >>> ((4 : Int32) &&& 31).toUInt32).toInt32) &&& (3 : Int32))), .val (.int (p4 &&& (3 : Int32))), .val (.int v111), .val (.ref v112), .val (.ref y118), .val (.ref b119), .unset, .unset] [(.ref a_ATTRIBUTE), (.ref b119)]))
              obtain ⟨_, T187, L187, X187, hQ187, st187⟩ := ownCallV X186 hx hZ hown ww33 ww34 ww36 ww35 ww14 ww37 (by decide) (rm5d1attr l Z a0 hw [] b119 a_ATTRIBUTE y134 y135 ((rc2 + (((p3.toUInt32 >>> ((4 : Int32) &&& 31).toUInt32).toInt32) &&& (3 : Int32))) + (1 : Int32)) (rc2 + (((p3.toUInt32 >>> ((4 : Int32) &&& 31).toUInt32).toInt32) &&& (3 : Int32))) (0 : Int32) (0 : Int32) (0 : Int32) (0 : Int32) (0 : Int32) (0 : Int32) a_ATTRIBUTE a_ELEMENT a_DOCUMENT T176.heap n0 Y176 O176 S_ATTRIBUTE S_ELEMENT S_DOCUMENT rfl n_ATTRIBUTE_ELEMENT n_ATTRIBUTE_DOCUMENT P177) e186 F178 0 (by decide) (by decide) (by decide) (by decide) (g := (mkF m 244 #[.val (.int p1), .val (.int p2), .val (.int p3), .val (.int p4), .val (.int (p1 &&& (3 : Int32))), .val (.int v101), .val (.ref v102), .val (.ref y108), .val (.int v109), .val (.int v110), .val (.int (((p3.toUInt32 >>> ((2 : Int32) &&& 31).toUInt32).toInt32) &&& (3 : Int32))), .val (.int (((p3.toUInt32 >>> ((4 : Int32) &&& 31).toUInt32).toInt32) &&& (3 : Int32))), .val (.int (p4 &&& (3 : Int32))), .val (.int v111), .val (.ref v112), .val (.ref y118), .val (.ref b119), .unset, .unset] [(.ref a_ATTRIBUTE), (.ref b119)])) rfl (by rw [hml]; rfl) (argsL := [(.ref a_ATTRIBUTE)]) (rest := []) (lenOf pd0_3 rfl) rfl rfl (by show 2 * 0 + _ ≤ _; exact Nat.le_of_eq rfl) (hb hby at_244)
              obtain ⟨rfl, N187q, K187q, P188⟩ := hQ187
              have N187 := Fr.app N176 N187q
              have F189 := F178.keep K187q
              have K187 := K176.trans K187q (allS (Or.inr v119) (allS (Or.inr (Nat.le_trans K119.1 P131)) (allS (Or.inr (Nat.le_trans K119.1 P132)) all0)))
              have Y187 := Nat.le_trans Y176 K187q.1
              have O187 := O176.keep K187q (allS u119 (allS P129 (allS P130 all0)))
              refine OwnEnd.go (fun _ k => st187 _ k) ?_
              show OwnEnd p e below s _ _ _ (T187.setTop (mkF m 247 #[.val (.int p1), .val (.int p2), .val (.int p3), .val (.int p4), .val (.int (p1 &&& (3 : Int32))), .val (.int v101), .val (.ref v102), .val (.ref y108), .val (.int v109), .val (.int v110), .val (.int (((p3.toUInt32 >>> ((2 : Int32) &&& 31).toUInt32).toInt32) &&& (3 : Int32))), .val (.int (((p3.toUInt32 >>> ((4 : Int32) &&& 31).toUInt32).toInt32) &&& (3 : Int32))), .val (.int (p4 &&& (3 : Int32))), .val (.int v111), .val (.ref v112), .val (.ref y118), .val (.ref b119), .unset, .unset] [(.int ((rc2 + (((p3.toUInt32 >>> ((4 : Int32) &&& 31).toUInt32).toInt32) &&& (3 : Int32))) + (1 : Int32)))]))
              refine OwnEnd.go (fun _ k => XS.pop X187.here hx rfl (hb hby at_247) rfl rfl k) ?_
              show OwnEnd p e below s _ _ _ (T187.setTop (mkF m 248 #[.val (.int p1), .val (.int p2), .val (.int p3), .val (.int p4), .val (.int (p1 &&& (3 : Int32))), .val (.int v101), .val (.ref v102), .val (.ref y108), .val (.int v109), .val (.int v110), .val (.int (((p3.toUInt32 >>> ((2 : Int32) &&& 31).toUInt32).toInt32) &&& (3 : Int32))), .val (.int (((p3.toUInt32 >>> ((4 : Int32) &&& 31).toUInt32).toInt32) &&& (3 : Int32))), .val (.int (p4 &&& (3 : Int32))), .val (.int v111), .val (.ref v112), .val (.ref y118), .val (.ref b119), .unset, .unset] []))
              refine OwnEnd.go (fun _ k => XS.iload X187.here hx rfl (hb hby at_248) rfl  k) ?_
              show OwnEnd p e below s _ _ _ (T187.setTop (mkF m 250 #[.val (.int p1), .val (.int p2), .val (.int p3), .val (.int p4), .val (.int (p1 &&& (3 : Int32))), .val (.int v101), .val (.ref v102), .val (.ref y108), .val (.int v109), .val (.int v110), .val (.int (((p3.toUInt32 >>> ((2 : Int32) &&& 31).toUInt32).toInt32) &&& (3 : Int32))), .val (.int (((p3.toUInt32 >>> ((4 : Int32) &&& 31).toUInt32).toInt32) &&& (3 : Int32))), .val (.int (p4 &&& (3 : Int32))), .val (.int v111), .val (.ref v112), .val (.ref y118), .val (.ref b119), .unset, .unset] [(.int (p4 &&& (3 : Int32)))]))
              refine OwnEnd.go (fun _ k => XS.iconst X187.here hx rfl (hb hby at_250) k) ?_
              show OwnEnd p e below s _ _ _ (T187.setTop (mkF m 251 #[.val (.int p1), .val (.int p2), .val (.int p3), .val (.int p4), .val (.int (p1 &&& (3 : Int32))), .val (.int v101), .val (.ref v102), .val (.ref y108), .val (.int v109), .val (.int v110), .val (.int (((p3.toUInt32 >>> ((2 : Int32) &&& 31).toUInt32).toInt32) &&& (3 : Int32))), .val (.int (((p3.toUInt32 >>> ((4 : Int32) &&& 31).toUInt32).toInt32) &&& (3 : Int32))), .val (.int (p4 &&& (3 : Int32))), .val (.int v111), .val (.ref v112), .val (.ref y118), .val (.ref b119), .unset, .unset] [(.int (2 : Int32)), (.int (p4 &&& (3 : Int32)))]))
              refine OwnEnd.go (fun _ k => XS.icmpNo X187.here hx rfl (hb hby at_251) rfl (teq hc175).2 k) ?_
              show OwnEnd p e below s _ _ _ (T187.setTop (mkF m 254 #[.val (.int p1), .val (.int p2), .val (.int p3), .val (.int p4), .val (.int (p1 &&& (3 : Int32))), .val (.int v101), .val (.ref v102), .val (.ref y108), .val (.int v109), .val (.int v110), .val (.int (((p3.toUInt32 >>> ((2 : Int32) &&& 31).toUInt32).toInt32) &&& (3 : Int32))), .val (.int (((p3.toUInt32 >>> ((4 : Int32) &&& 31).toUInt32).toInt32) &&& (3 : Int32))), .val (.int (p4 &&& (3 : Int32))), .val (.int v111), .val (.ref v112), .val (.ref y118), .val (.ref b119), .unset, .unset] []))
              refine OwnEnd.go (fun _ k => XS.aload X187.here hx rfl (hb hby at_254) rfl rfl k) ?_
              show OwnEnd p e below s _ _ _ (T187.setTop (mkF m 256 #[.val (.int p1), .val (.int p2), .val (.int p3), .val (.int p4), .val (.int (p1 &&& (3 : Int32))), .val (.int v101), .val (.ref v102), .val (.ref y108), .val (.int v109), .val (.int v110), .val (.int (((p3.toUInt32 >>> ((2 : Int32) &&& 31).toUInt32).toInt32) &&& (3 : Int32))), .val (.int (((p3.toUInt32 >>> ((4 : Int32) &&& 31).toUInt32).toInt32) &&& (3 : Int32))), .val (.int (p4 &&& (3 : Int32))), .val (.int v111), .val (.ref v112), .val (.ref y118), .val (.ref b119), .unset, .unset] [(.ref b119)]))
              obtain ⟨_, T191, L191, X191, hQ191, st191⟩ := ownCallV X187 hx hZ hown ww60 ww61 ww63 ww62 ww14 ww64 (by decide) (rm9d1 l Z a0 hw [] b119 y134 y135 (((rc2 + (((p3.toUInt32 >>> ((4 : Int32) &&& 31).toUInt32).toInt32) &&& (3 : Int32))) + (1 : Int32)) + (1 : Int32)) (rc2 + (((p3.toUInt32 >>> ((4 : Int32) &&& 31).toUInt32).toInt32) &&& (3 : Int32))) (0 : Int32) ((0 : Int32) + (1 : Int32)) (0 : Int32) (0 : Int32) (0 : Int32) (0 : Int32) T187.heap n0 Y187  P188) (rfl : T187.heap = T187.heap) F189 0 (by decide) (by decide) (by decide) (by decide) (g := (mkF m 256 #[.val (.int p1), .val (.int p2), .val (.int p3), .val (.int p4), .val (.int (p1 &&& (3 : Int32))), .val (.int v101), .val (.ref v102), .val (.ref y108), .val (.int v109), .val (.int v110), .val (.int (((p3.toUInt32 >>> ((2 : Int32) &&& 31).toUInt32).toInt32) &&& (3 : Int32))), .val (.int (((p3.toUInt32 >>> ((4 : Int32) &&& 31).toUInt32).toInt32) &&& (3 : Int32))), .val (.int (p4 &&& (3 : Int32))), .val (.int v111), .val (.ref v112), .val (.ref y118), .val (.ref b119), .unset, .unset] [(.ref b119)])) rfl (by rw [hml]; rfl) (argsL := []) (rest := []) (lenOf pd0_1 rfl) rfl rfl (by show 2 * 0 + _ ≤ _; exact Nat.le_of_eq rfl) (hb hby at_256)
              obtain ⟨rfl, N191q, K191q, P192⟩ := hQ191
              have N191 := Fr.app N187 N191q
              have F193 := F189.keep K191q
              have K191 := K187.trans K191q (allS (Or.inr v119) (allS (Or.inr (Nat.le_trans K119.1 P131)) (allS (Or.inr (Nat.le_trans K119.1 P132)) all0)))
              have Y191 := Nat.le_trans Y187 K191q.1
              have O191 := O187.keep K191q (allS u119 (allS P129 (allS P130 all0)))
              refine OwnEnd.go (fun _ k => st191 _ k) ?_
              show OwnEnd p e below s _ _ _ (T191.setTop (mkF m 259 #[.val (.int p1), .val (.int p2), .val (.int p3), .val (.int p4), .val (.int (p1 &&& (3 : Int32))), .val (.int v101), .val (.ref v102), .val (.ref y108), .val (.int v109), .val (.int v110), .val (.int (((p3.toUInt32 >>> ((2 : Int32) &&& 31).toUInt32).toInt32) &&& (3 : Int32))), .val (.int (((p3.toUInt32 >>> ((4 : Int32) &&& 31).toUInt32).toInt32) &&& (3 : Int32))), .val (.int (p4 &&& (3 : Int32))), .val (.int v111), .val (.ref v112), .val (.ref y118), .val (.ref b119), .unset, .unset] []))
              refine OwnEnd.go (fun _ k => XS.goto X191.here hx rfl (pc0 := 259) (pc' := 276) rfl (hb hby at_259) (by decide) (by decide) k) ?_
              show OwnEnd p e below s _ _ _ (T191.setTop (mkF m 276 #[.val (.int p1), .val (.int p2), .val (.int p3), .val (.int p4), .val (.int (p1 &&& (3 : Int32))), .val (.int v101), .val (.ref v102), .val (.ref y108), .val (.int v109), .val (.int v110), .val (.int (((p3.toUInt32 >>> ((2 : Int32) &&& 31).toUInt32).toInt32) &&& (3 : Int32))), .val (.int (((p3.toUInt32 >>> ((4 : Int32) &&& 31).toUInt32).toInt32) &&& (3 : Int32))), .val (.int (p4 &&& (3 : Int32))), .val (.int v111), .val (.ref v112), .val (.ref y118), .val (.ref b119), .unset, .unset] []))
              refine OwnEnd.go (fun _ k => XS.iload X191.here hx rfl (hb hby at_276) rfl  k) ?_
              show OwnEnd p e below s _ _ _ (T191.setTop (mkF m 278 #[.val (.int p1), .val (.int p2), .val (.int p3), .val (.int p4), .val (.int (p1 &&& (3 : Int32))), .val (.int v101), .val (.ref v102), .val (.ref y108), .val (.int v109), .val (.int v110), .val (.int (((p3.toUInt32 >>> ((2 : Int32) &&& 31).toUInt32).toInt32) &&& (3 : Int32))), .val (.int (((p3.toUInt32 >>> ((4 : Int32) &&& 31).toUInt32).toInt32) &&& (3 : Int32))), .val (.int (p4 &&& (3 : Int32))), .val (.int v111), .val (.ref v112), .val (.ref y118), .val (.ref b119), .unset, .unset] [(.int (p4 &&& (3 : Int32)))]))
              refine OwnEnd.go (fun _ k => XS.iconst X191.here hx rfl (hb hby at_278) k) ?_
              show OwnEnd p e below s _ _ _ (T191.setTop (mkF m 279 #[.val (.int p1), .val (.int p2), .val (.int p3), .val (.int p4), .val (.int (p1 &&& (3 : Int32))), .val (.int v101), .val (.ref v102), .val (.ref y108), .val (.int v109), .val (.int v110), .val (.int (((p3.toUInt32 >>> ((2 : Int32) &&& 31).toUInt32).toInt32) &&& (3 : Int32))), .val (.int (((p3.toUInt32 >>> ((4 : Int32) &&& 31).toUInt32).toInt32) &&& (3 : Int32))), .val (.int (p4 &&& (3 : Int32))), .val (.int v111), .val (.ref v112), .val (.ref y118), .val (.ref b119), .unset, .unset] [(.int (1 : Int32)), (.int (p4 &&& (3 : Int32)))]))
              refine OwnEnd.go (fun _ k => XS.icmpYes X191.here hx rfl (pc0 := 279) (pc' := 288) rfl (hb hby at_279) rfl (feq (by rw [hc175]; decide : ¬ (p4 &&& (3 : Int32)) = (1 : Int32))).2 (by decide) (by decide) k) ?_
              show OwnEnd p e below s _ _ _ (T191.setTop (mkF m 288 #[.val (.int p1), .val (.int p2), .val (.int p3), .val (.int p4), .val (.int (p1 &&& (3 : Int32))), .val (.int v101), .val (.ref v102), .val (.ref y108), .val (.int v109), .val (.int v110), .val (.int (((p3.toUInt32 >>> ((2 : Int32) &&& 31).toUInt32).toInt32) &&& (3 : Int32))), .val (.int (((p3.toUInt32 >>> ((4 : Int32) &&& 31).toUInt32).toInt32) &&& (3 : Int32))), .val (.int (p4 &&& (3 : Int32))), .val (.int v111), .val (.ref v112), .val (.ref y118), .val (.ref b119), .unset, .unset] []))
              refine OwnEnd.go (fun _ k => XS.iload X191.here hx rfl (hb hby at_288) rfl  k) ?_
              show OwnEnd p e below s _ _ _ (T191.setTop (mkF m 290 #[.val (.int p1), .val (.int p2), .val (.int p3), .val (.int p4), .val (.int (p1 &&& (3 : Int32))), .val (.int v101), .val (.ref v102), .val (.ref y108), .val (.int v109), .val (.int v110), .val (.int (((p3.toUInt32 >>> ((2 : Int32) &&& 31).toUInt32).toInt32) &&& (3 : Int32))), .val (.int (((p3.toUInt32 >>> ((4 : Int32) &&& 31).toUInt32).toInt32) &&& (3 : Int32))), .val (.int (p4 &&& (3 : Int32))), .val (.int v111), .val (.ref v112), .val (.ref y118), .val (.ref b119), .unset, .unset] [(.int v101)]))
              refine OwnEnd.go (fun _ k => XS.ifNo X191.here hx rfl (hb hby at_290) rfl ((if0 _ _).trans (teq hc149).2) k) ?_
              show OwnEnd p e below s _ _ _ (T191.setTop (mkF m 293 #[.val (.int p1), .val (.int p2), .val (.int p3), .val (.int p4), .val (.int (p1 &&& (3 : Int32))), .val (.int v101), .val (.ref v102), .val (.ref y108), .val (.int v109), .val (.int v110), .val (.int (((p3.toUInt32 >>> ((2 : Int32) &&& 31).toUInt32).toInt32) &&& (3 : Int32))), .val (.int (((p3.toUInt32 >>> ((4 : Int32) &&& 31).toUInt32).toInt32) &&& (3 : Int32))), .val (.int (p4 &&& (3 : Int32))), .val (.int v111), .val (.ref v112), .val (.ref y118), .val (.ref b119), .unset, .unset] []))
              refine OwnEnd.go (fun _ k => XS.iconst X191.here hx rfl (hb hby at_293) k) ?_
              show OwnEnd p e below s _ _ _ (T191.setTop (mkF m 294 #[.val (.int p1), .val (.int p2), .val (.int p3), .val (.int p4), .val (.int (p1 &&& (3 : Int32))), .val (.int v101), .val (.ref v102), .val (.ref y108), .val (.int v109), .val (.int v110), .val (.int (((p3.toUInt32 >>> ((2 : Int32) &&& 31).toUInt32).toInt32) &&& (3 : Int32))), .val (.int (((p3.toUInt32 >>> ((4 : Int32) &&& 31).toUInt32).toInt32) &&& (3 : Int32))), .val (.int (p4 &&& (3 : Int32))), .val (.int v111), .val (.ref v112), .val (.ref y118), .val (.ref b119), .unset, .unset] [(.int (0 : Int32))]))
              refine OwnEnd.go (fun _ k => XS.istore X191.here hx rfl (hb hby at_294) rfl  (l' := #[.val (.int p1), .val (.int p2), .val (.int p3), .val (.int p4), .val (.int (p1 &&& (3 : Int32))), .val (.int v101), .val (.ref v102), .val (.ref y108), .val (.int v109), .val (.int v110), .val (.int (((p3.toUInt32 >>> ((2 : Int32) &&& 31).toUInt32).toInt32) &&& (3 : Int32))), .val (.int (((p3.toUInt32 >>> ((4 : Int32) &&& 31).toUInt32).toInt32) &&& (3 : Int32))), .val (.int (p4 &&& (3 : Int32))), .val (.int v111), .val (.ref v112), .val (.ref y118), .val (.ref b119), .val (.int (0 : Int32)), .unset]) rfl k) ?_
              show OwnEnd p e below s _ _ _ (T191.setTop (mkF m 296 #[.val (.int p1), .val (.int p2), .val (.int p3), .val (.int p4), .val (.int (p1 &&& (3 : Int32))), .val (.int v101), .val (.ref v102), .val (.ref y108), .val (.int v109), .val (.int v110), .val (.int (((p3.toUInt32 >>> ((2 : Int32) &&& 31).toUInt32).toInt32) &&& (3 : Int32))), .val (.int (((p3.toUInt32 >>> ((4 : Int32) &&& 31).toUInt32).toInt32) &&& (3 : Int32))), .val (.int (p4 &&& (3 : Int32))), .val (.int v111), .val (.ref v112), .val (.ref y118), .val (.ref b119), .val (.int (0 : Int32)), .unset] []))
              refine OwnEnd.go (fun _ k => XS.goto X191.here hx rfl (pc0 := 296) (pc' := 356) rfl (hb hby at_296) (by decide) (by decide) k) ?_
              show OwnEnd p e below s _ _ _ (T191.setTop (mkF m 356 #[.val (.int p1), .val (.int p2), .val (.int p3), .val (.int p4), .val (.int (p1 &&& (3 : Int32))), .val (.int v101), .val (.ref v102), .val (.ref y108), .val (.int v109), .val (.int v110), .val (.int (((p3.toUInt32 >>> ((2 : Int32) &&& 31).toUInt32).toInt32) &&& (3 : Int32))), .val (.int (((p3.toUInt32 >>> ((4 : Int32) &&& 31).toUInt32).toInt32) &&& (3 : Int32))), .val (.int (p4 &&& (3 : Int32))), .val (.int v111), .val (.ref v112), .val (.ref y118), .val (.ref b119), .val (.int (0 : Int32)), .unset] []))
              refine OwnEnd.go (fun _ k => XS.aload X191.here hx rfl (hb hby at_356) rfl rfl k) ?_
              show OwnEnd p e below s _ _ _ (T191.setTop (mkF m 358 #[.val (.int p1), .val (.int p2), .val (.int p3), .val (.int p4), .val (.int (p1 &&& (3 : Int32))), .val (.int v101), .val (.ref v102), .val (.ref y108), .val (.int v109), .val (.int v110), .val (.int (((p3.toUInt32 >>> ((2 : Int32) &&& 31).toUInt32).toInt32) &&& (3 : Int32))), .val (.int (((p3.toUInt32 >>> ((4 : Int32) &&& 31).toUInt32).toInt32) &&& (3 : Int32))), .val (.int (p4 &&& (3 : Int32))), .val (.int v111), .val (.ref v112), .val (.ref y118), .val (.ref b119), .val (.int (0 : Int32)), .unset] [(.ref b119)]))
              obtain ⟨_, T195, L195, X195, hQ195, st195⟩ := ownCallV X191 hx hZ hown ww55 ww56 ww58 ww57 ww14 ww59 (by decide) (rm8d0 l Z a0 hw [] b119 y134 y135 (((rc2 + (((p3.toUInt32 >>> ((4 : Int32) &&& 31).toUInt32).toInt32) &&& (3 : Int32))) + (1 : Int32)) + (1 : Int32)) (rc2 + (((p3.toUInt32 >>> ((4 : Int32) &&& 31).toUInt32).toInt32) &&& (3 : Int32))) (0 : Int32) ((0 : Int32) + (1 : Int32)) (0 : Int32) (rc2 + (((p3.toUInt32 >>> ((4 : Int32) &&& 31).toUInt32).toInt32) &&& (3 : Int32))) ((((rc2 + (((p3.toUInt32 >>> ((4 : Int32) &&& 31).toUInt32).toInt32) &&& (3 : Int32))) + (1 : Int32)) + (1 : Int32)) - (rc2 + (((p3.toUInt32 >>> ((4 : Int32) &&& 31).toUInt32).toInt32) &&& (3 : Int32)))) ((0 : Int32) + (1 : Int32)) T191.heap n0 Y191  P192) (rfl : T191.heap = T191.heap) F193 0 (by decide) (by decide) (by decide) (by decide) (g := (mkF m 358 #[.val (.int p1), .val (.int p2), .val (.int p3), .val (.int p4), .val (.int (p1 &&& (3 : Int32))), .val (.int v101), .val (.ref v102), .val (.ref y108), .val (.int v109), .val (.int v110), .val (.int (((p3.toUInt32 >>> ((2 : Int32) &&& 31).toUInt32).toInt32) &&& (3 : Int32))), .val (.int (((p3.toUInt32 >>> ((4 : Int32) &&& 31).toUInt32).toInt32) &&& (3 : Int32))), .val (.int (p4 &&& (3 : Int32))), .val (.int v111), .val (.ref v112), .val (.ref y118), .val (.ref b119), .val (.int (0 : Int32)), .unset] [(.ref b119)])) rfl (by rw [hml]; rfl) (argsL := []) (rest := []) (lenOf pd0_4 rfl) rfl rfl (by show 2 * 0 + _ ≤ _; exact Nat.le_of_eq rfl) (hb hby at_358)
              obtain ⟨rfl, N195q, e195⟩ := hQ195
              have N195 := Fr.app N191 N195q
              refine OwnEnd.go (fun _ k => st195 _ k) ?_
              show OwnEnd p e below s _ _ _ (T195.setTop (mkF m 361 #[.val (.int p1), .val (.int p2), .val (.int p3), .val (.int p4), .val (.int (p1 &&& (3 : Int32))), .val (.int v101), .val (.ref v102), .val (.ref y108), .val (.int v109), .val (.int v110), .val (.int (((p3.toUInt32 >>> ((2 : Int32) &&& 31).toUInt32).toInt32) &&& (3 : Int32))), .val (.int (((p3.toUInt32 >>> ((4 : Int32) &&& 31).toUInt32).toInt32) &&& (3 : Int32))), .val (.int (p4 &&& (3 : Int32))), .val (.int v111), .val (.ref v112), .val (.ref y118), .val (.ref b119), .val (.int (0 : Int32)), .unset] [(.int (0 : Int32))]))
              refine OwnEnd.go (fun _ k => XS.iload X195.here hx rfl (hb hby at_361) rfl  k) ?_
              show OwnEnd p e below s _ _ _ (T195.setTop (mkF m 363 #[.val (.int p1), .val (.int p2), .val (.int p3), .val (.int p4), .val (.int (p1 &&& (3 : Int32))), .val (.int v101), .val (.ref v102), .val (.ref y108), .val (.int v109), .val (.int v110), .val (.int (((p3.toUInt32 >>> ((2 : Int32) &&& 31).toUInt32).toInt32) &&& (3 : Int32))), .val (.int (((p3.toUInt32 >>> ((4 : Int32) &&& 31).toUInt32).toInt32) &&& (3 : Int32))), .val (.int (p4 &&& (3 : Int32))), .val (.int v111), .val (.ref v112), .val (.ref y118), .val (.ref b119), .val (.int (0 : Int32)), .unset] [(.int (0 : Int32)), (.int (0 : Int32))]))
              refine OwnEnd.go (fun _ k => XS.icmpNo X195.here hx rfl (hb hby at_363) rfl (teq (by decide : (0 : Int32) = (0 : Int32))).2 k) ?_
              show OwnEnd p e below s _ _ _ (T195.setTop (mkF m 366 #[.val (.int p1), .val (.int p2), .val (.int p3), .val (.int p4), .val (.int (p1 &&& (3 : Int32))), .val (.int v101), .val (.ref v102), .val (.ref y108), .val (.int v109), .val (.int v110), .val (.int (((p3.toUInt32 >>> ((2 : Int32) &&& 31).toUInt32).toInt32) &&& (3 : Int32))), .val (.int (((p3.toUInt32 >>> ((4 : Int32) &&& 31).toUInt32).toInt32) &&& (3 : Int32))), .val (.int (p4 &&& (3 : Int32))), .val (.int v111), .val (.ref v112), .val (.ref y118), .val (.ref b119), .val (.int (0 : Int32)), .unset] []))
              refine OwnEnd.go (fun _ k => XS.iconst X195.here hx rfl (hb hby at_366) k) ?_
              show OwnEnd p e below s _ _ _ (T195.setTop (mkF m 367 #[.val (.int p1), .val (.int p2), .val (.int p3), .val (.int p4), .val (.int (p1 &&& (3 : Int32))), .val (.int v101), .val (.ref v102), .val (.ref y108), .val (.int v109), .val (.int v110), .val (.int (((p3.toUInt32 >>> ((2 : Int32) &&& 31).toUInt32).toInt32) &&& (3 : Int32))), .val (.int (((p3.toUInt32 >>> ((4 : Int32) &&& 31).toUInt32).toInt32) &&& (3 : Int32))), .val (.int (p4 &&& (3 : Int32))), .val (.int v111), .val (.ref v112), .val (.ref y118), .val (.ref b119), .val (.int (0 : Int32)), .unset] [(.int (1 : Int32))]))
              refine OwnEnd.go (fun _ k => XS.goto X195.here hx rfl (pc0 := 367) (pc' := 371) rfl (hb hby at_367) (by decide) (by decide) k) ?_
              show OwnEnd p e below s _ _ _ (T195.setTop (mkF m 371 #[.val (.int p1), .val (.int p2), .val (.int p3), .val (.int p4), .val (.int (p1 &&& (3 : Int32))), .val (.int v101), .val (.ref v102), .val (.ref y108), .val (.int v109), .val (.int v110), .val (.int (((p3.toUInt32 >>> ((2 : Int32) &&& 31).toUInt32).toInt32) &&& (3 : Int32))), .val (.int (((p3.toUInt32 >>> ((4 : Int32) &&& 31).toUInt32).toInt32) &&& (3 : Int32))), .val (.int (p4 &&& (3 : Int32))), .val (.int v111), .val (.ref v112), .val (.ref y118), .val (.ref b119), .val (.int (0 : Int32)), .unset] [(.int (1 : Int32))]))
              refine ownRetZ X195 hx hlk hret (hb hby at_371) (by decide) (by decide) (1 : Int32) (by decide) ?_
              show Q0 Z p1 p2 p3 p4 a_ATTRIBUTE a_TEXT a_COMMENT a_PROCESSING_INSTRUCTION a_NAMESPACE a_ELEMENT a_DOCUMENT h0 n0 _ T195.heap _
              rw [e195]
              exact ⟨rfl, N195⟩
          · refine OwnEnd.go (fun _ k => XS.icmpYes X158.here hx rfl (pc0 := 223) (pc' := 262) rfl (hb hby at_223) rfl (feq hc175).2 (by decide) (by decide) k) ?_
            show OwnEnd p e below s _ _ _ (T158.setTop (mkF m 262 #[.val (.int p1), .val (.int p2), .val (.int p3), .val (.int p4), .val (.int (p1 &&& (3 : Int32))), .val (.int v101), .val (.ref v102), .val (.ref y108), .val (.int v109), .val (.int v110), .val (.int (((p3.toUInt32 >>> ((2 : Int32) &&& 31).toUInt32).toInt32) &&& (3 : Int32))), .val (.int (((p3.toUInt32 >>> ((4 : Int32) &&& 31).toUInt32).toInt32) &&& (3 : Int32))), .val (.int (p4 &&& (3 : Int32))), .val (.int v111), .val (.ref v112), .val (.ref y118), .val (.ref b119), .unset, .unset] []))
            refine OwnEnd.go (fun _ k => XS.iload X158.here hx rfl (hb hby at_262) rfl  k) ?_
            show OwnEnd p e below s _ _ _ (T158.setTop (mkF m 264 #[.val (.int p1), .val (.int p2), .val (.int p3), .val (.int p4), .val (.int (p1 &&& (3 : Int32))), .val (.int v101), .val (.ref v102), .val (.ref y108), .val (.int v109), .val (.int v110), .val (.int (((p3.toUInt32 >>> ((2 : Int32) &&& 31).toUInt32).toInt32) &&& (3 : Int32))), .val (.int (((p3.toUInt32 >>> ((4 : Int32) &&& 31).toUInt32).toInt32) &&& (3 : Int32))), .val (.int (p4 &&& (3 : Int32))), .val (.int v111), .val (.ref v112), .val (.ref y118), .val (.ref b119), .unset, .unset] [(.int (p4 &&& (3 : Int32)))]))
            refine OwnEnd.go (fun _ k => XS.iconst X158.here hx rfl (hb hby at_264) k) ?_
            show OwnEnd p e below s _ _ _ (T158.setTop (mkF m 265 #[.val (.int p1), .val (.int p2), .val (.int p3), .val (.int p4), .val (.int (p1 &&& (3 : Int32))), .val (.int v101), .val (.ref v102), .val (.ref y108), .val (.int v109), .val (.int v110), .val (.int (((p3.toUInt32 >>> ((2 : Int32) &&& 31).toUInt32).toInt32) &&& (3 : Int32))), .val (.int (((p3.toUInt32 >>> ((4 : Int32) &&& 31).toUInt32).toInt32) &&& (3 : Int32))), .val (.int (p4 &&& (3 : Int32))), .val (.int v111), .val (.ref v112), .val (.ref y118), .val (.ref b119), .unset, .unset] [(.int (3 : Int32)), (.int (p4 &&& (3 : Int32)))]))
            by_cases hc196 : (p4 &&& (3 : Int32)) = (3 : Int32)
            · refine OwnEnd.go (fun _ k => XS.icmpNo X158.here hx rfl (hb hby at_265) rfl (teq hc196).2 k) ?_
              show OwnEnd p e below s _ _ _ (T158.setTop (mkF m 268 #[.val (.int p1), .val (.int p2), .val (.int p3), .val (.int p4), .val (.int (p1 &&& (3 : Int32))), .val (.int v101), .val (.ref v102), .val (.ref y108), .val (.int v109), .val (.int v110), .val (.int (((p3.toUInt32 >>> ((2 : Int32) &&& 31).toUInt32).toInt32) &&& (3 : Int32))), .val (.int (((p3.toUInt32 >>> ((4 : Int32) &&& 31).toUInt32).toInt32) &&& (3 : Int32))), .val (.int (p4 &&& (3 : Int32))), .val (.int v111), .val (.ref v112), .val (.ref y118), .val (.ref b119), .unset, .unset] []))
              refine OwnEnd.go (fun _ k => XS.aload X158.here hx rfl (hb hby at_268) rfl rfl k) ?_
              show OwnEnd p e below s _ _ _ (T158.setTop (mkF m 270 #[.val (.int p1), .val (.int p2), .val (.int p3), .val (.int p4), .val (.int (p1 &&& (3 : Int32))), .val (.int v101), .val (.ref v102), .val (.ref y108), .val (.int v109), .val (.int v110), .val (.int (((p3.toUInt32 >>> ((2 : Int32) &&& 31).toUInt32).toInt32) &&& (3 : Int32))), .val (.int (((p3.toUInt32 >>> ((4 : Int32) &&& 31).toUInt32).toInt32) &&& (3 : Int32))), .val (.int (p4 &&& (3 : Int32))), .val (.int v111), .val (.ref v112), .val (.ref y118), .val (.ref b119), .unset, .unset] [(.ref b119)]))
              refine OwnEnd.go (fun _ k => XS.aload X158.here hx rfl (hb hby at_270) rfl rfl k) ?_
              show OwnEnd p e below s _ _ _ (T158.setTop (mkF m 272 #[.val (.int p1), .val (.int p2), .val (.int p3), .val (.int p4), .val (.int (p1 &&& (3 : Int32))), .val (.int v101), .val (.ref v102), .val (.ref y108), .val (.int v109), .val (.int v110), .val (.int (((p3.toUInt32 >>> ((2 : Int32) &&& 31).toUInt32).toInt32) &&& (3 : Int32))), .val (.int (((p3.toUInt32 >>> ((4 : Int32) &&& 31).toUInt32).toInt32) &&& (3 : Int32))), .val (.int (p4 &&& (3 : Int32))), .val (.int v111), .val (.ref v112), .val (.ref y118), .val (.ref b119), .unset, .unset] [(.ref y118), (.ref b119)]))
              obtain ⟨_, T197, L197, X197, hQ197, st197⟩ := ownCallV X158 hx hZ hown ww33 ww34 ww36 ww35 ww14 ww37 (by decide) (rm5d0leaf l Z a0 hw [] b119 y118 y134 y135 (rc2 + (((p3.toUInt32 >>> ((4 : Int32) &&& 31).toUInt32).toInt32) &&& (3 : Int32))) (0 : Int32) (0 : Int32) (0 : Int32) (0 : Int32) (0 : Int32) (0 : Int32) (0 : Int32) a_ATTRIBUTE a_ELEMENT a_DOCUMENT T158.heap n0 Y158 O158 S_ATTRIBUTE S_ELEMENT S_DOCUMENT P116 P117 P159) (rfl : T158.heap = T158.heap) F161 0 (by decide) (by decide) (by decide) (by decide) (g := (mkF m 272 #[.val (.int p1), .val (.int p2), .val (.int p3), .val (.int p4), .val (.int (p1 &&& (3 : Int32))), .val (.int v101), .val (.ref v102), .val (.ref y108), .val (.int v109), .val (.int v110), .val (.int (((p3.toUInt32 >>> ((2 : Int32) &&& 31).toUInt32).toInt32) &&& (3 : Int32))), .val (.int (((p3.toUInt32 >>> ((4 : Int32) &&& 31).toUInt32).toInt32) &&& (3 : Int32))), .val (.int (p4 &&& (3 : Int32))), .val (.int v111), .val (.ref v112), .val (.ref y118), .val (.ref b119), .unset, .unset] [(.ref y118), (.ref b119)])) rfl (by rw [hml]; rfl) (argsL := [(.ref y118)]) (rest := []) (lenOf pd0_3 rfl) rfl rfl (by show 2 * 0 + _ ≤ _; exact Nat.le_of_eq rfl) (hb hby at_272)
              obtain ⟨rfl, N197q, K197q, P198⟩ := hQ197
              have N197 := Fr.app N158 N197q
              have F199 := F161.keep K197q
              have K197 := K158.trans K197q (allS (Or.inr v119) (allS (Or.inr (Nat.le_trans K119.1 P131)) (allS (Or.inr (Nat.le_trans K119.1 P132)) all0)))
              have Y197 := Nat.le_trans Y158 K197q.1
              have O197 := O158.keep K197q (allS u119 (allS P129 (allS P130 all0)))
              refine OwnEnd.go (fun _ k => st197 _ k) ?_
              show OwnEnd p e below s _ _ _ (T197.setTop (mkF m 275 #[.val (.int p1), .val (.int p2), .val (.int p3), .val (.int p4), .val (.int (p1 &&& (3 : Int32))), .val (.int v101), .val (.ref v102), .val (.ref y108), .val (.int v109), .val (.int v110), .val (.int (((p3.toUInt32 >>> ((2 : Int32) &&& 31).toUInt32).toInt32) &&& (3 : Int32))), .val (.int (((p3.toUInt32 >>> ((4 : Int32) &&& 31).toUInt32).toInt32) &&& (3 : Int32))), .val (.int (p4 &&& (3 : Int32))), .val (.int v111), .val (.ref v112), .val (.ref y118), .val (.ref b119), .unset, .unset] [(.int (rc2 + (((p3.toUInt32 >>> ((4 : Int32) &&& 31).toUInt32).toInt32) &&& (3 : Int32))))]))
              refine OwnEnd.go (fun _ k => XS.pop X197.here hx rfl (hb hby at_275) rfl rfl k) ?_
              show OwnEnd p e below s _ _ _ (T197.setTop (mkF m 276 #[.val (.int p1), .val (.int p2), .val (.int p3), .val (.int p4), .val (.int (p1 &&& (3 : Int32))), .val (.int v101), .val (.ref v102), .val (.ref y108), .val (.int v109), .val (.int v110), .val (.int (((p3.toUInt32 >>> ((2 : Int32) &&& 31).toUInt32).toInt32) &&& (3 : Int32))), .val (.int (((p3.toUInt32 >>> ((4 : Int32) &&& 31).toUInt32).toInt32) &&& (3 : Int32))), .val (.int (p4 &&& (3 : Int32))), .val (.int v111), .val (.ref v112), .val (.ref y118), .val (.ref b119), .unset, .unset] []))
              refine OwnEnd.go (fun _ k => XS.iload X197.here hx rfl (hb hby at_276) rfl  k) ?_
              show OwnEnd p e below s _ _ _ (T197.setTop (mkF m 278 #[.val (.int p1), .val (.int p2), .val (.int p3), .val (.int p4), .val (.int (p1 &&& (3 : Int32))), .val (.int v101), .val (.ref v102), .val (.ref y108), .val (.int v109), .val (.int v110), .val (.int (((p3.toUInt32 >>> ((2 : Int32) &&& 31).toUInt32).toInt32) &&& (3 : Int32))), .val (.int (((p3.toUInt32 >>> ((4 : Int32) &&& 31).toUInt32).toInt32) &&& (3 : Int32))), .val (.int (p4 &&& (3 : Int32))), .val (.int v111), .val (.ref v112), .val (.ref y118), .val (.ref b119), .unset, .unset] [(.int (p4 &&& (3 : Int32)))]))
              refine OwnEnd.go (fun _ k => XS.iconst X197.here hx rfl (hb hby at_278) k) ?_
              show OwnEnd p e below s _ _ _ (T197.setTop (mkF m 279 #[.val (.int p1), .val (.int p2), .val (.int p3), .val (.int p4), .val (.int (p1 &&& (3 : Int32))), .val (.int v101), .val (.ref v102), .val (.ref y108), .val (.int v109), .val (.int v110), .val (.int (((p3.toUInt32 >>> ((2 : Int32) &&& 31).toUInt32).toInt32) &&& (3 : Int32))), .val (.int (((p3.toUInt32 >>> ((4 : Int32) &&& 31).toUInt32).toInt32) &&& (3 : Int32))), .val (.int (p4 &&& (3 : Int32))), .val (.int v111), .val (.ref v112), .val (.ref y118), .val (.ref b119), .unset, .unset] [(.int (1 : Int32)), (.int (p4 &&& (3 : Int32)))]))
              refine OwnEnd.go (fun _ k => XS.icmpYes X197.here hx rfl (pc0 := 279) (pc' := 288) rfl (hb hby at_279) rfl (feq (by rw [hc196]; decide : ¬ (p4 &&& (3 : Int32)) = (1 : Int32))).2 (by decide) (by decide) k) ?_
              show OwnEnd p e below s _ _ _ (T197.setTop (mkF m 288 #[.val (.int p1), .val (.int p2), .val (.int p3), .val (.int p4), .val (.int (p1 &&& (3 : Int32))), .val (.int v101), .val (.ref v102), .val (.ref y108), .val (.int v109), .val (.int v110), .val (.int (((p3.toUInt32 >>> ((2 : Int32) &&& 31).toUInt32).toInt32) &&& (3 : Int32))), .val (.int (((p3.toUInt32 >>> ((4 : Int32) &&& 31).toUInt32).toInt32) &&& (3 : Int32))), .val (.int (p4 &&& (3 : Int32))), .val (.int v111), .val (.ref v112), .val (.ref y118), .val (.ref b119), .unset, .unset] []))
              refine OwnEnd.go (fun _ k => XS.iload X197.here hx rfl (hb hby at_288) rfl  k) ?_
              show OwnEnd p e below s _ _ _ (T197.setTop (mkF m 290 #[.val (.int p1), .val (.int p2), .val (.int p3), .val (.int p4), .val (.int (p1 &&& (3 : Int32))), .val (.int v101), .val (.ref v102), .val (.ref y108), .val (.int v109), .val (.int v110), .val (.int (((p3.toUInt32 >>> ((2 : Int32) &&& 31).toUInt32).toInt32) &&& (3 : Int32))), .val (.int (((p3.toUInt32 >>> ((4 : Int32) &&& 31).toUInt32).toInt32) &&& (3 : Int32))), .val (.int (p4 &&& (3 : Int32))), .val (.int v111), .val (.ref v112), .val (.ref y118), .val (.ref b119), .unset, .unset] [(.int v101)]))
              refine OwnEnd.go (fun _ k => XS.ifNo X197.here hx rfl (hb hby at_290) rfl ((if0 _ _).trans (teq hc149).2) k) ?_
              show OwnEnd p e below s _ _ _ (T197.setTop (mkF m 293 #[.val (.int p1), .val (.int p2), .val (.int p3), .val (.int p4), .val (.int (p1 &&& (3 : Int32))), .val (.int v101), .val (.ref v102), .val (.ref y108), .val (.int v109), .val (.int v110), .val (.int (((p3.toUInt32 >>> ((2 : Int32) &&& 31).toUInt32).toInt32) &&& (3 : Int32))), .val (.int (((p3.toUInt32 >>> ((4 : Int32) &&& 31).toUInt32).toInt32) &&& (3 : Int32))), .val (.int (p4 &&& (3 : Int32))), .val (.int v111), .val (.ref v112), .val (.ref y118), .val (.ref b119), .unset, .unset] []))
              refine OwnEnd.go (fun _ k => XS.iconst X197.here hx rfl (hb hby at_293) k) ?_
              show OwnEnd p e below s _ _ _ (T197.setTop (mkF m 294 #[.val (.int p1), .val (.int p2), .val (.int p3), .val (.int p4), .val (.int (p1 &&& (3 : Int32))), .val (.int v101), .val (.ref v102), .val (.ref y108), .val (.int v109), .val (.int v110), .val (.int (((p3.toUInt32 >>> ((2 : Int32) &&& 31).toUInt32).toInt32) &&& (3 : Int32))), .val (.int (((p3.toUInt32 >>> ((4 : Int32) &&& 31).toUInt32).toInt32) &&& (3 : Int32))), .val (.int (p4 &&& (3 : Int32))), .val (.int v111), .val (.ref v112), .val (.ref y118), .val (.ref b119), .unset, .unset] [(.int (0 : Int32))]))
              refine OwnEnd.go (fun _ k => XS.istore X197.here hx rfl (hb hby at_294) rfl  (l' := #[.val (.int p1), .val (.int p2), .val (.int p3), .val (.int p4), .val (.int (p1 &&& (3 : Int32))), .val (.int v101), .val (.ref v102), .val (.ref y108), .val (.int v109), .val (.int v110), .val (.int (((p3.toUInt32 >>> ((2 : Int32) &&& 31).toUInt32).toInt32) &&& (3 : Int32))), .val (.int (((p3.toUInt32 >>> ((4 : Int32) &&& 31).toUInt32).toInt32) &&& (3 : Int32))), .val (.int (p4 &&& (3 : Int32))), .val (.int v111), .val (.ref v112), .val (.ref y118), .val (.ref b119), .val (.int (0 : Int32)), .unset]) rfl k) ?_
              show OwnEnd p e below s _ _ _ (T197.setTop (mkF m 296 #[.val (.int p1), .val (.int p2), .val (.int p3), .val (.int p4), .val (.int (p1 &&& (3 : Int32))), .val (.int v101), .val (.ref v102), .val (.ref y108), .val (.int v109), .val (.int v110), .val (.int (((p3.toUInt32 >>> ((2 : Int32) &&& 31).toUInt32).toInt32) &&& (3 : Int32))), .val (.int (((p3.toUInt32 >>> ((4 : Int32) &&& 31).toUInt32).toInt32) &&& (3 : Int32))), .val (.int (p4 &&& (3 : Int32))), .val (.int v111), .val (.ref v112), .val (.ref y118), .val (.ref b119), .val (.int (0 : Int32)), .unset] []))
              refine OwnEnd.go (fun _ k => XS.goto X197.here hx rfl (pc0 := 296) (pc' := 356) rfl (hb hby at_296) (by decide) (by decide) k) ?_
              show OwnEnd p e below s _ _ _ (T197.setTop (mkF m 356 #[.val (.int p1), .val (.int p2), .val (.int p3), .val (.int p4), .val (.int (p1 &&& (3 : Int32))), .val (.int v101), .val (.ref v102), .val (.ref y108), .val (.int v109), .val (.int v110), .val (.int (((p3.toUInt32 >>> ((2 : Int32) &&& 31).toUInt32).toInt32) &&& (3 : Int32))), .val (.int (((p3.toUInt32 >>> ((4 : Int32) &&& 31).toUInt32).toInt32) &&& (3 : Int32))), .val (.int (p4 &&& (3 : Int32))), .val (.int v111), .val (.ref v112), .val (.ref y118), .val (.ref b119), .val (.int (0 : Int32)), .unset] []))
              refine OwnEnd.go (fun _ k => XS.aload X197.here hx rfl (hb hby at_356) rfl rfl k) ?_
              show OwnEnd p e below s _ _ _ (T197.setTop (mkF m 358 #[.val (.int p1), .val (.int p2), .val (.int p3), .val (.int p4), .val (.int (p1 &&& (3 : Int32))), .val (.int v101), .val (.ref v102), .val (.ref y108), .val (.int v109), .val (.int v110), .val (.int (((p3.toUInt32 >>> ((2 : Int32) &&& 31).toUInt32).toInt32) &&& (3 : Int32))), .val (.int (((p3.toUInt32 >>> ((4 : Int32) &&& 31).toUInt32).toInt32) &&& (3 : Int32))), .val (.int (p4 &&& (3 : Int32))), .val (.int v111), .val (.ref v112), .val (.ref y118), .val (.ref b119), .val (.int (0 : Int32)), .unset] [(.ref b119)]))
              obtain ⟨_, T201, L201, X201, hQ201, st201⟩ := ownCallV X197 hx hZ hown ww55 ww56 ww58 ww57 ww14 ww59 (by decide) (rm8d0 l Z a0 hw [] b119 y134 y135 ((rc2 + (((p3.toUInt32 >>> ((4 : Int32) &&& 31).toUInt32).toInt32) &&& (3 : Int32))) + (1 : Int32)) (0 : Int32) (0 : Int32) (0 : Int32) (0 : Int32) (0 : Int32) (0 : Int32) (0 : Int32) T197.heap n0 Y197  P198) (rfl : T197.heap = T197.heap) F199 0 (by decide) (by decide) (by decide) (by decide) (g := (mkF m 358 #[.val (.int p1), .val (.int p2), .val (.int p3), .val (.int p4), .val (.int (p1 &&& (3 : Int32))), .val (.int v101), .val (.ref v102), .val (.ref y108), .val (.int v109), .val (.int v110), .val (.int (((p3.toUInt32 >>> ((2 : Int32) &&& 31).toUInt32).toInt32) &&& (3 : Int32))), .val (.int (((p3.toUInt32 >>> ((4 : Int32) &&& 31).toUInt32).toInt32) &&& (3 : Int32))), .val (.int (p4 &&& (3 : Int32))), .val (.int v111), .val (.ref v112), .val (.ref y118), .val (.ref b119), .val (.int (0 : Int32)), .unset] [(.ref b119)])) rfl (by rw [hml]; rfl) (argsL := []) (rest := []) (lenOf pd0_4 rfl) rfl rfl (by show 2 * 0 + _ ≤ _; exact Nat.le_of_eq rfl) (hb hby at_358)
              obtain ⟨rfl, N201q, e201⟩ := hQ201
              have N201 := Fr.app N197 N201q
              refine OwnEnd.go (fun _ k => st201 _ k) ?_
              show OwnEnd p e below s _ _ _ (T201.setTop (mkF m 361 #[.val (.int p1), .val (.int p2), .val (.int p3), .val (.int p4), .val (.int (p1 &&& (3 : Int32))), .val (.int v101), .val (.ref v102), .val (.ref y108), .val (.int v109), .val (.int v110), .val (.int (((p3.toUInt32 >>> ((2 : Int32) &&& 31).toUInt32).toInt32) &&& (3 : Int32))), .val (.int (((p3.toUInt32 >>> ((4 : Int32) &&& 31).toUInt32).toInt32) &&& (3 : Int32))), .val (.int (p4 &&& (3 : Int32))), .val (.int v111), .val (.ref v112), .val (.ref y118), .val (.ref b119), .val (.int (0 : Int32)), .unset] [(.int (0 : Int32))]))
              refine OwnEnd.go (fun _ k => XS.iload X201.here hx rfl (hb hby at_361) rfl  k) ?_
              show OwnEnd p e below s _ _ _ (T201.setTop (mkF m 363 #[.val (.int p1), .val (.int p2), .val (.int p3), .val (.int p4), .val (.int (p1 &&& (3 : Int32))), .val (.int v101), .val (.ref v102), .val (.ref y108), .val (.int v109), .val (.int v110), .val (.int (((p3.toUInt32 >>> ((2 : Int32) &&& 31).toUInt32).toInt32) &&& (3 : Int32))), .val (.int (((p3.toUInt32 >>> ((4 : Int32) &&& 31).toUInt32).toInt32) &&& (3 : Int32))), .val (.int (p4 &&& (3 : Int32))), .val (.int v111), .val (.ref v112), .val (.ref y118), .val (.ref b119), .val (.int (0 : Int32)), .unset] [(.int (0 : Int32)), (.int (0 : Int32))]))
              refine OwnEnd.go (fun _ k => XS.icmpNo X201.here hx rfl (hb hby at_363) rfl (teq (by decide : (0 : Int32) = (0 : Int32))).2 k) ?_
              show OwnEnd p e below s _ _ _ (T201.setTop (mkF m 366 #[.val (.int p1), .val (.int p2), .val (.int p3), .val (.int p4), .val (.int (p1 &&& (3 : Int32))), .val (.int v101), .val (.ref v102), .val (.ref y108), .val (.int v109), .val (.int v110), .val (.int (((p3.toUInt32 >>> ((2 : Int32) &&& 31).toUInt32).toInt32) &&& (3 : Int32))), .val (.int (((p3.toUInt32 >>> ((4 : Int32) &&& 31).toUInt32).toInt32) &&& (3 : Int32))), .val (.int (p4 &&& (3 : Int32))), .val (.int v111), .val (.ref v112), .val (.ref y118), .val (.ref b119), .val (.int (0 : Int32)), .unset] []))
              refine OwnEnd.go (fun _ k => XS.iconst X201.here hx rfl (hb hby at_366) k) ?_
              show OwnEnd p e below s _ _ _ (T201.setTop (mkF m 367 #[.val (.int p1), .val (.int p2), .val (.int p3), .val (.int p4), .val (.int (p1 &&& (3 : Int32))), .val (.int v101), .val (.ref v102), .val (.ref y108), .val (.int v109), .val (.int v110), .val (.int (((p3.toUInt32 >>> ((2 : Int32) &&& 31).toUInt32).toInt32) &&& (3 : Int32))), .val (.int (((p3.toUInt32 >>> ((4 : Int32) &&& 31).toUInt32).toInt32) &&& (3 : Int32))), .val (.int (p4 &&& (3 : Int32))), .val (.int v111), .val (.ref v112), .val (.ref y118), .val (.ref b119), .val (.int (0 : Int32)), .unset] [(.int (1 : Int32))]))
              refine OwnEnd.go (fun _ k => XS.goto X201.here hx rfl (pc0 := 367) (pc' := 371) rfl (hb hby at_367) (by decide) (by decide) k) ?_
              show OwnEnd p e below s _ _ _ (T201.setTop (mkF m 371 #[.val (.int p1), .val (.int p2), .val (.int p3), .val (.int p4), .val (.int (p1 &&& (3 : Int32))), .val (.int v101), .val (.ref v102), .val (.ref y108), .val (.int v109), .val (.int v110), .val (.int (((p3.toUInt32 >>> ((2 : Int32) &&& 31).toUInt32).toInt32) &&& (3 : Int32))), .val (.int (((p3.toUInt32 >>> ((4 : Int32) &&& 31).toUInt32).toInt32) &&& (3 : Int32))), .val (.int (p4 &&& (3 : Int32))), .val (.int v111), .val (.ref v112), .val (.ref y118), .val (.ref b119), .val (.int (0 : Int32)), .unset] [(.int (1 : Int32))]))
              refine ownRetZ X201 hx hlk hret (hb hby at_371) (by decide) (by decide) (1 : Int32) (by decide) ?_
              show Q0 Z p1 p2 p3 p4 a_ATTRIBUTE a_TEXT a_COMMENT a_PROCESSING_INSTRUCTION a_NAMESPACE a_ELEMENT a_DOCUMENT h0 n0 _ T201.heap _
              rw [e201]
              exact ⟨rfl, N201⟩
            · refine OwnEnd.go (fun _ k => XS.icmpYes X158.here hx rfl (pc0 := 265) (pc' := 276) rfl (hb hby at_265) rfl (feq hc196).2 (by decide) (by decide) k) ?_
              show OwnEnd p e below s _ _ _ (T158.setTop (mkF m 276 #[.val (.int p1), .val (.int p2), .val (.int p3), .val (.int p4), .val (.int (p1 &&& (3 : Int32))), .val (.int v101), .val (.ref v102), .val (.ref y108), .val (.int v109), .val (.int v110), .val (.int (((p3.toUInt32 >>> ((2 : Int32) &&& 31).toUInt32).toInt32) &&& (3 : Int32))), .val (.int (((p3.toUInt32 >>> ((4 : Int32) &&& 31).toUInt32).toInt32) &&& (3 : Int32))), .val (.int (p4 &&& (3 : Int32))), .val (.int v111), .val (.ref v112), .val (.ref y118), .val (.ref b119), .unset, .unset] []))
              refine OwnEnd.go (fun _ k => XS.iload X158.here hx rfl (hb hby at_276) rfl  k) ?_
              show OwnEnd p e below s _ _ _ (T158.setTop (mkF m 278 #[.val (.int p1), .val (.int p2), .val (.int p3), .val (.int p4), .val (.int (p1 &&& (3 : Int32))), .val (.int v101), .val (.ref v102), .val (.ref y108), .val (.int v109), .val (.int v110), .val (.int (((p3.toUInt32 >>> ((2 : Int32) &&& 31).toUInt32).toInt32) &&& (3 : Int32))), .val (.int (((p3.toUInt32 >>> ((4 : Int32) &&& 31).toUInt32).toInt32) &&& (3 : Int32))), .val (.int (p4 &&& (3 : Int32))), .val (.int v111), .val (.ref v112), .val (.ref y118), .val (.ref b119), .unset, .unset] [(.int (p4 &&& (3 : Int32)))]))
              refine OwnEnd.go (fun _ k => XS.iconst X158.here hx rfl (hb hby at_278) k) ?_
              show OwnEnd p e below s _ _ _ (T158.setTop (mkF m 279 #[.val (.int p1), .val (.int p2), .val (.int p3), .val (.int p4), .val (.int (p1 &&& (3 : Int32))), .val (.int v101), .val (.ref v102), .val (.ref y108), .val (.int v109), .val (.int v110), .val (.int (((p3.toUInt32 >>> ((2 : Int32) &&& 31).toUInt32).toInt32) &&& (3 : Int32))), .val (.int (((p3.toUInt32 >>> ((4 : Int32) &&& 31).toUInt32).toInt32) &&& (3 : Int32))), .val (.int (p4 &&& (3 : Int32))), .val (.int v111), .val (.ref v112), .val (.ref y118), .val (.ref b119), .unset, .unset] [(.int (1 : Int32)), (.int (p4 &&& (3 : Int32)))]))
              refine OwnEnd.go (fun _ k => XS.icmpYes X158.here hx rfl (pc0 := 279) (pc' := 288) rfl (hb hby at_279) rfl (feq hc162).2 (by decide) (by decide) k) ?_
              show OwnEnd p e below s _ _ _ (T158.setTop (mkF m 288 #[.val (.int p1), .val (.int p2), .val (.int p3), .val (.int p4), .val (.int (p1 &&& (3 : Int32))), .val (.int v101), .val (.ref v102), .val (.ref y108), .val (.int v109), .val (.int v110), .val (.int (((p3.toUInt32 >>> ((2 : Int32) &&& 31).toUInt32).toInt32) &&& (3 : Int32))), .val (.int (((p3.toUInt32 >>> ((4 : Int32) &&& 31).toUInt32).toInt32) &&& (3 : Int32))), .val (.int (p4 &&& (3 : Int32))), .val (.int v111), .val (.ref v112), .val (.ref y118), .val (.ref b119), .unset, .unset] []))
              refine OwnEnd.go (fun _ k => XS.iload X158.here hx rfl (hb hby at_288) rfl  k) ?_
              show OwnEnd p e below s _ _ _ (T158.setTop (mkF m 290 #[.val (.int p1), .val (.int p2), .val (.int p3), .val (.int p4), .val (.int (p1 &&& (3 : Int32))), .val (.int v101), .val (.ref v102), .val (.ref y108), .val (.int v109), .val (.int v110), .val (.int (((p3.toUInt32 >>> ((2 : Int32) &&& 31).toUInt32).toInt32) &&& (3 : Int32))), .val (.int (((p3.toUInt32 >>> ((4 : Int32) &&& 31).toUInt32).toInt32) &&& (3 : Int32))), .val (.int (p4 &&& (3 : Int32))), .val (.int v111), .val (.ref v112), .val (.ref y118), .val (.ref b119), .unset, .unset] [(.int v101)]))
              refine OwnEnd.go (fun _ k => XS.ifNo X158.here hx rfl (hb hby at_290) rfl ((if0 _ _).trans (teq hc149).2) k) ?_
              show OwnEnd p e below s _ _ _ (T158.setTop (mkF m 293 #[.val (.int p1), .val (.int p2), .val (.int p3), .val (.int p4), .val (.int (p1 &&& (3 : Int32))), .val (.int v101), .val (.ref v102), .val (.ref y108), .val (.int v109), .val (.int v110), .val (.int (((p3.toUInt32 >>> ((2 : Int32) &&& 31).toUInt32).toInt32) &&& (3 : Int32))), .val (.int (((p3.toUInt32 >>> ((4 : Int32) &&& 31).toUInt32).toInt32) &&& (3 : Int32))), .val (.int (p4 &&& (3 : Int32))), .val (.int v111), .val (.ref v112), .val (.ref y118), .val (.ref b119), .unset, .unset] []))
              refine OwnEnd.go (fun _ k => XS.iconst X158.here hx rfl (hb hby at_293) k) ?_
              show OwnEnd p e below s _ _ _ (T158.setTop (mkF m 294 #[.val (.int p1), .val (.int p2), .val (.int p3), .val (.int p4), .val (.int (p1 &&& (3 : Int32))), .val (.int v101), .val (.ref v102), .val (.ref y108), .val (.int v109), .val (.int v110), .val (.int (((p3.toUInt32 >>> ((2 : Int32) &&& 31).toUInt32).toInt32) &&& (3 : Int32))), .val (.int (((p3.toUInt32 >>> ((4 : Int32) &&& 31).toUInt32).toInt32) &&& (3 : Int32))), .val (.int (p4 &&& (3 : Int32))), .val (.int v111), .val (.ref v112), .val (.ref y118), .val (.ref b119), .unset, .unset] [(.int (0 : Int32))]))
              refine OwnEnd.go (fun _ k => XS.istore X158.here hx rfl (hb hby at_294) rfl  (l' := #[.val (.int p1), .val (.int p2), .val (.int p3), .val (.int p4), .val (.int (p1 &&& (3 : Int32))), .val (.int v101), .val (.ref v102), .val (.ref y108), .val (.int v109), .val (.int v110), .val (.int (((p3.toUInt32 >>> ((2 : Int32) &&& 31).toUInt32).toInt32) &&& (3 : Int32))), .val (.int (((p3.toUInt32 >>> ((4 : Int32) &&& 31).toUInt32).toInt32) &&& (3 : Int32))), .val (.int (p4 &&& (3 : Int32))), .val (.int v111), .val (.ref v112), .val (.ref y118), .val (.ref b119), .val (.int (0 : Int32)), .unset]) rfl k) ?_
              show OwnEnd p e below s _ _ _ (T158.setTop (mkF m 296 #[.val (.int p1), .val (.int p2), .val (.int p3), .val (.int p4), .val (.int (p1 &&& (3 : Int32))), .val (.int v101), .val (.ref v102), .val (.ref y108), .val (.int v109), .val (.int v110), .val (.int (((p3.toUInt32 >>> ((2 : Int32) &&& 31).toUInt32).toInt32) &&& (3 : Int32))), .val (.int (((p3.toUInt32 >>> ((4 : Int32) &&& 31).toUInt32).toInt32) &&& (3 : Int32))), .val (.int (p4 &&& (3 : Int32))), .val (.int v111), .val (.ref v112), .val (.ref y118), .val (.ref b119), .val (.int (0 : Int32)), .unset] []))
              refine OwnEnd.go (fun _ k => XS.goto X158.here hx rfl (pc0 := 296) (pc' := 356) rfl (hb hby at_296) (by decide) (by decide) k) ?_
              show OwnEnd p e below s _ _ _ (T158.setTop (mkF m 356 #[.val (.int p1), .val (.int p2), .val (.int p3), .val (.int p4), .val (.int (p1 &&& (3 : Int32))), .val (.int v101), .val (.ref v102), .val (.ref y108), .val (.int v109), .val (.int v110), .val (.int (((p3.toUInt32 >>> ((2 : Int32) &&& 31).toUInt32).toInt32) &&& (3 : Int32))), .val (.int (((p3.toUInt32 >>> ((4 : Int32) &&& 31).toUInt32).toInt32) &&& (3 : Int32))), .val (.int (p4 &&& (3 : Int32))), .val (.int v111), .val (.ref v112), .val (.ref y118), .val (.ref b119), .val (.int (0 : Int32)), .unset] []))
              refine OwnEnd.go (fun _ k => XS.aload X158.here hx rfl (hb hby at_356) rfl rfl k) ?_
              show OwnEnd p e below s _ _ _ (T158.setTop (mkF m 358 #[.val (.int p1), .val (.int p2), .val (.int p3), .val (.int p4), .val (.int (p1 &&& (3 : Int32))), .val (.int v101), .val (.ref v102), .val (.ref y108), .val (.int v109), .val (.int v110), .val (.int (((p3.toUInt32 >>> ((2 : Int32) &&& 31).toUInt32).toInt32) &&& (3 : Int32))), .val (.int (((p3.toUInt32 >>> ((4 : Int32) &&& 31).toUInt32).toInt32) &&& (3 : Int32))), .val (.int (p4 &&& (3 : Int32))), .val (.int v111), .val (.ref v112), .val (.ref y118), .val (.ref b119), .val (.int (0 : Int32)), .unset] [(.ref b119)]))
              obtain ⟨_, T202, L202, X202, hQ202, st202⟩ := ownCallV X158 hx hZ hown ww55 ww56 ww58 ww57 ww14 ww59 (by decide) (rm8d0 l Z a0 hw [] b119 y134 y135 (rc2 + (((p3.toUInt32 >>> ((4 : Int32) &&& 31).toUInt32).toInt32) &&& (3 : Int32))) (0 : Int32) (0 : Int32) (0 : Int32) (0 : Int32) (0 : Int32) (0 : Int32) (0 : Int32) T158.heap n0 Y158  P159) (rfl : T158.heap = T158.heap) F161 0 (by decide) (by decide) (by decide) (by decide) (g := (mkF m 358 #[.val (.int p1), .val (.int p2), .val (.int p3), .val (.int p4), .val (.int (p1 &&& (3 : Int32))), .val (.int v101), .val (.ref v102), .val (.ref y108), .val (.int v109), .val (.int v110), .val (.int (((p3.toUInt32 >>> ((2 : Int32) &&& 31).toUInt32).toInt32) &&& (3 : Int32))), .val (.int (((p3.toUInt32 >>> ((4 : Int32) &&& 31).toUInt32).toInt32) &&& (3 : Int32))), .val (.int (p4 &&& (3 : Int32))), .val (.int v111), .val (.ref v112), .val (.ref y118), .val (.ref b119), .val (.int (0 : Int32)), .unset] [(.ref b119)])) rfl (by rw [hml]; rfl) (argsL := []) (rest := []) (lenOf pd0_4 rfl) rfl rfl (by show 2 * 0 + _ ≤ _; exact Nat.le_of_eq rfl) (hb hby at_358)
              obtain ⟨rfl, N202q, e202⟩ := hQ202
              have N202 := Fr.app N158 N202q
              refine OwnEnd.go (fun _ k => st202 _ k) ?_
              show OwnEnd p e below s _ _ _ (T202.setTop (mkF m 361 #[.val (.int p1), .val (.int p2), .val (.int p3), .val (.int p4), .val (.int (p1 &&& (3 : Int32))), .val (.int v101), .val (.ref v102), .val (.ref y108), .val (.int v109), .val (.int v110), .val (.int (((p3.toUInt32 >>> ((2 : Int32) &&& 31).toUInt32).toInt32) &&& (3 : Int32))), .val (.int (((p3.toUInt32 >>> ((4 : Int32) &&& 31).toUInt32).toInt32) &&& (3 : Int32))), .val (.int (p4 &&& (3 : Int32))), .val (.int v111), .val (.ref v112), .val (.ref y118), .val (.ref b119), .val (.int (0 : Int32)), .unset] [(.int (0 : Int32))]))
              refine OwnEnd.go (fun _ k => XS.iload X202.here hx rfl (hb hby at_361) rfl  k) ?_
              show OwnEnd p e below s _ _ _ (T202.setTop (mkF m 363 #[.val (.int p1), .val (.int p2), .val (.int p3), .val (.int p4), .val (.int (p1 &&& (3 : Int32))), .val (.int v101), .val (.ref v102), .val (.ref y108), .val (.int v109), .val (.int v110), .val (.int (((p3.toUInt32 >>> ((2 : Int32) &&& 31).toUInt32).toInt32) &&& (3 : Int32))), .val (.int (((p3.toUInt32 >>> ((4 : Int32) &&& 31).toUInt32).toInt32) &&& (3 : Int32))), .val (.int (p4 &&& (3 : Int32))), .val (.int v111), .val (.ref v112), .val (.ref y118), .val (.ref b119), .val (.int (0 : Int32)), .unset] [(.int (0 : Int32)), (.int (0 : Int32))]))
              refine OwnEnd.go (fun _ k => XS.icmpNo X202.here hx rfl (hb hby at_363) rfl (teq (by decide : (0 : Int32) = (0 : Int32))).2 k) ?_
              show OwnEnd p e below s _ _ _ (T202.setTop (mkF m 366 #[.val (.int p1), .val (.int p2), .val (.int p3), .val (.int p4), .val (.int (p1 &&& (3 : Int32))), .val (.int v101), .val (.ref v102), .val (.ref y108), .val (.int v109), .val (.int v110), .val (.int (((p3.toUInt32 >>> ((2 : Int32) &&& 31).toUInt32).toInt32) &&& (3 : Int32))), .val (.int (((p3.toUInt32 >>> ((4 : Int32) &&& 31).toUInt32).toInt32) &&& (3 : Int32))), .val (.int (p4 &&& (3 : Int32))), .val (.int v111), .val (.ref v112), .val (.ref y118), .val (.ref b119), .val (.int (0 : Int32)), .unset] []))
              refine OwnEnd.go (fun _ k => XS.iconst X202.here hx rfl (hb hby at_366) k) ?_
              show OwnEnd p e below s _ _ _ (T202.setTop (mkF m 367 #[.val (.int p1), .val (.int p2), .val (.int p3), .val (.int p4), .val (.int (p1 &&& (3 : Int32))), .val (.int v101), .val (.ref v102), .val (.ref y108), .val (.int v109), .val (.int v110), .val (.int (((p3.toUInt32 >>> ((2 : Int32) &&& 31).toUInt32).toInt32) &&& (3 : Int32))), .val (.int (((p3.toUInt32 >>> ((4 : Int32) &&& 31).toUInt32).toInt32) &&& (3 : Int32))), .val (.int (p4 &&& (3 : Int32))), .val (.int v111), .val (.ref v112), .val (.ref y118), .val (.ref b119), .val (.int (0 : Int32)), .unset] [(.int (1 : Int32))]))
              refine OwnEnd.go (fun _ k => XS.goto X202.here hx rfl (pc0 := 367) (pc' := 371) rfl (hb hby at_367) (by decide) (by decide) k) ?_
              show OwnEnd p e below s _ _ _ (T202.setTop (mkF m 371 #[.val (.int p1), .val (.int p2), .val (.int p3), .val (.int p4), .val (.int (p1 &&& (3 : Int32))), .val (.int v101), .val (.ref v102), .val (.ref y108), .val (.int v109), .val (.int v110), .val (.int (((p3.toUInt32 >>> ((2 : Int32) &&& 31).toUInt32).toInt32) &&& (3 : Int32))), .val (.int (((p3.toUInt32 >>> ((4 : Int32) &&& 31).toUInt32).toInt32) &&& (3 : Int32))), .val (.int (p4 &&& (3 : Int32))), .val (.int v111), .val (.ref v112), .val (.ref y118), .val (.ref b119), .val (.int (0 : Int32)), .unset] [(.int (1 : Int32))]))
              refine ownRetZ X202 hx hlk hret (hb hby at_371) (by decide) (by decide) (1 : Int32) (by decide) ?_
              show Q0 Z p1 p2 p3 p4 a_ATTRIBUTE a_TEXT a_COMMENT a_PROCESSING_INSTRUCTION a_NAMESPACE a_ELEMENT a_DOCUMENT h0 n0 _ T202.heap _
              rw [e202]
              exact ⟨rfl, N202⟩
      by_cases hc203 : v110 = (0 : Int32)
      · refine OwnEnd.go (fun _ k => XS.ifYes X154.here hx rfl (pc0 := 183) (pc' := 195) rfl (hb hby at_183) rfl ((if0 _ _).trans (teq hc203).1) (by decide) (by decide) k) ?_
        show OwnEnd p e below s _ _ _ (T154.setTop (mkF m 195 #[.val (.int p1), .val (.int p2), .val (.int p3), .val (.int p4), .val (.int (p1 &&& (3 : Int32))), .val (.int v101), .val (.ref v102), .val (.ref y108), .val (.int v109), .val (.int v110), .val (.int (((p3.toUInt32 >>> ((2 : Int32) &&& 31).toUInt32).toInt32) &&& (3 : Int32))), .val (.int (((p3.toUInt32 >>> ((4 : Int32) &&& 31).toUInt32).toInt32) &&& (3 : Int32))), .val (.int (p4 &&& (3 : Int32))), .val (.int v111), .val (.ref v112), .val (.ref y118), .val (.ref b119), .unset, .unset] []))
        exact J156 _ _ rc1 X154 N154 K154 Y154 O154 B154 trivial
      · refine OwnEnd.go (fun _ k => XS.ifNo X154.here hx rfl (hb hby at_183) rfl ((if0 _ _).trans (feq hc203).1) k) ?_
        show OwnEnd p e below s _ _ _ (T154.setTop (mkF m 186 #[.val (.int p1), .val (.int p2), .val (.int p3), .val (.int p4), .val (.int (p1 &&& (3 : Int32))), .val (.int v101), .val (.ref v102), .val (.ref y108), .val (.int v109), .val (.int v110), .val (.int (((p3.toUInt32 >>> ((2 : Int32) &&& 31).toUInt32).toInt32) &&& (3 : Int32))), .val (.int (((p3.toUInt32 >>> ((4 : Int32) &&& 31).toUInt32).toInt32) &&& (3 : Int32))), .val (.int (p4 &&& (3 : Int32))), .val (.int v111), .val (.ref v112), .val (.ref y118), .val (.ref b119), .unset, .unset] []))
        refine OwnEnd.go (fun _ k => XS.aload X154.here hx rfl (hb hby at_186) rfl rfl k) ?_
        show OwnEnd p e below s _ _ _ (T154.setTop (mkF m 188 #[.val (.int p1), .val (.int p2), .val (.int p3), .val (.int p4), .val (.int (p1 &&& (3 : Int32))), .val (.int v101), .val (.ref v102), .val (.ref y108), .val (.int v109), .val (.int v110), .val (.int (((p3.toUInt32 >>> ((2 : Int32) &&& 31).toUInt32).toInt32) &&& (3 : Int32))), .val (.int (((p3.toUInt32 >>> ((4 : Int32) &&& 31).toUInt32).toInt32) &&& (3 : Int32))), .val (.int (p4 &&& (3 : Int32))), .val (.int v111), .val (.ref v112), .val (.ref y118), .val (.ref b119), .unset, .unset] [(.ref b119)]))
        obtain ⟨T204, X204, e204, st204⟩ := getS2 X154 hx hZ hown (host := "") (Or.inl ww8) Via.refl (rfl : T154.heap = T154.heap) (S_ATTRIBUTE.ext O154.2) (g := (mkF m 188 #[.val (.int p1), .val (.int p2), .val (.int p3), .val (.int p4), .val (.int (p1 &&& (3 : Int32))), .val (.int v101), .val (.ref v102), .val (.ref y108), .val (.int v109), .val (.int v110), .val (.int (((p3.toUInt32 >>> ((2 : Int32) &&& 31).toUInt32).toInt32) &&& (3 : Int32))), .val (.int (((p3.toUInt32 >>> ((4 : Int32) &&& 31).toUInt32).toInt32) &&& (3 : Int32))), .val (.int (p4 &&& (3 : Int32))), .val (.int v111), .val (.ref v112), .val (.ref y118), .val (.ref b119), .unset, .unset] [(.ref b119)])) rfl (hb hby at_188)
        refine OwnEnd.go (fun _ k => st204 _ k) ?_
        show OwnEnd p e below s _ _ _ (T204.setTop (mkF m 191 #[.val (.int p1), .val (.int p2), .val (.int p3), .val (.int p4), .val (.int (p1 &&& (3 : Int32))), .val (.int v101), .val (.ref v102), .val (.ref y108), .val (.int v109), .val (.int v110), .val (.int (((p3.toUInt32 >>> ((2 : Int32) &&& 31).toUInt32).toInt32) &&& (3 : Int32))), .val (.int (((p3.toUInt32 >>> ((4 : Int32) &&& 31).toUInt32).toInt32) &&& (3 : Int32))), .val (.int (p4 &&& (3 : Int32))), .val (.int v111), .val (.ref v112), .val (.ref y118), .val (.ref b119), .unset, .unset] [(.ref a_ATTRIBUTE), (.ref b119)]))
        obtain ⟨_, T205, L205, X205, hQ205, st205⟩ := ownCallV X204 hx hZ hown ww33 ww34 ww36 ww35 ww14 ww37 (by decide) (rm5d0attr l Z a0 hw [] b119 a_ATTRIBUTE y134 y135 rc1 (0 : Int32) (0 : Int32) (0 : Int32) (0 : Int32) (0 : Int32) (0 : Int32) (0 : Int32) a_ATTRIBUTE a_ELEMENT a_DOCUMENT T154.heap n0 Y154 O154 S_ATTRIBUTE S_ELEMENT S_DOCUMENT rfl n_ATTRIBUTE_ELEMENT n_ATTRIBUTE_DOCUMENT B154) e204 EA155 0 (by decide) (by decide) (by decide) (by decide) (g := (mkF m 191 #[.val (.int p1), .val (.int p2), .val (.int p3), .val (.int p4), .val (.int (p1 &&& (3 : Int32))), .val (.int v101), .val (.ref v102), .val (.ref y108), .val (.int v109), .val (.int v110), .val (.int (((p3.toUInt32 >>> ((2 : Int32) &&& 31).toUInt32).toInt32) &&& (3 : Int32))), .val (.int (((p3.toUInt32 >>> ((4 : Int32) &&& 31).toUInt32).toInt32) &&& (3 : Int32))), .val (.int (p4 &&& (3 : Int32))), .val (.int v111), .val (.ref v112), .val (.ref y118), .val (.ref b119), .unset, .unset] [(.ref a_ATTRIBUTE), (.ref b119)])) rfl (by rw [hml]; rfl) (argsL := [(.ref a_ATTRIBUTE)]) (rest := []) (lenOf pd0_3 rfl) rfl rfl (by show 2 * 0 + _ ≤ _; exact Nat.le_of_eq rfl) (hb hby at_191)
        obtain ⟨rfl, N205q, K205q, P206⟩ := hQ205
        have N205 := Fr.app N154 N205q
        have F208 := EA155.keep K205q
        have K205 := K154.trans K205q (allS (Or.inr v119) (allS (Or.inr (Nat.le_trans K119.1 P131)) (allS (Or.inr (Nat.le_trans K119.1 P132)) all0)))
        have Y205 := Nat.le_trans Y154 K205q.1
        have O205 := O154.keep K205q (allS u119 (allS P129 (allS P130 all0)))
        refine OwnEnd.go (fun _ k => st205 _ k) ?_
        show OwnEnd p e below s _ _ _ (T205.setTop (mkF m 194 #[.val (.int p1), .val (.int p2), .val (.int p3), .val (.int p4), .val (.int (p1 &&& (3 : Int32))), .val (.int v101), .val (.ref v102), .val (.ref y108), .val (.int v109), .val (.int v110), .val (.int (((p3.toUInt32 >>> ((2 : Int32) &&& 31).toUInt32).toInt32) &&& (3 : Int32))), .val (.int (((p3.toUInt32 >>> ((4 : Int32) &&& 31).toUInt32).toInt32) &&& (3 : Int32))), .val (.int (p4 &&& (3 : Int32))), .val (.int v111), .val (.ref v112), .val (.ref y118), .val (.ref b119), .unset, .unset] [(.int rc1)]))
        refine OwnEnd.go (fun _ k => XS.pop X205.here hx rfl (hb hby at_194) rfl rfl k) ?_
        show OwnEnd p e below s _ _ _ (T205.setTop (mkF m 195 #[.val (.int p1), .val (.int p2), .val (.int p3), .val (.int p4), .val (.int (p1 &&& (3 : Int32))), .val (.int v101), .val (.ref v102), .val (.ref y108), .val (.int v109), .val (.int v110), .val (.int (((p3.toUInt32 >>> ((2 : Int32) &&& 31).toUInt32).toInt32) &&& (3 : Int32))), .val (.int (((p3.toUInt32 >>> ((4 : Int32) &&& 31).toUInt32).toInt32) &&& (3 : Int32))), .val (.int (p4 &&& (3 : Int32))), .val (.int v111), .val (.ref v112), .val (.ref y118), .val (.ref b119), .unset, .unset] []))
        exact J156 _ _ (rc1 + (1 : Int32)) X205 N205 K205 Y205 O205 P206 trivial
    by_cases hc209 : v109 = (0 : Int32)
    · refine OwnEnd.go (fun _ k => XS.ifYes X150.here hx rfl (pc0 := 169) (pc' := 181) rfl (hb hby at_169) rfl ((if0 _ _).trans (teq hc209).1) (by decide) (by decide) k) ?_
      show OwnEnd p e below s _ _ _ (T150.setTop (mkF m 181 #[.val (.int p1), .val (.int p2), .val (.int p3), .val (.int p4), .val (.int (p1 &&& (3 : Int32))), .val (.int v101), .val (.ref v102), .val (.ref y108), .val (.int v109), .val (.int v110), .val (.int (((p3.toUInt32 >>> ((2 : Int32) &&& 31).toUInt32).toInt32) &&& (3 : Int32))), .val (.int (((p3.toUInt32 >>> ((4 : Int32) &&& 31).toUInt32).toInt32) &&& (3 : Int32))), .val (.int (p4 &&& (3 : Int32))), .val (.int v111), .val (.ref v112), .val (.ref y118), .val (.ref b119), .unset, .unset] []))
      exact J154 _ _ (((0 : Int32) + (p1 &&& (3 : Int32))) + (1 : Int32)) X150 N150 K150 Y150 O150 P151 trivial
    · refine OwnEnd.go (fun _ k => XS.ifNo X150.here hx rfl (hb hby at_169) rfl ((if0 _ _).trans (feq hc209).1) k) ?_
      show OwnEnd p e below s _ _ _ (T150.setTop (mkF m 172 #[.val (.int p1), .val (.int p2), .val (.int p3), .val (.int p4), .val (.int (p1 &&& (3 : Int32))), .val (.int v101), .val (.ref v102), .val (.ref y108), .val (.int v109), .val (.int v110), .val (.int (((p3.toUInt32 >>> ((2 : Int32) &&& 31).toUInt32).toInt32) &&& (3 : Int32))), .val (.int (((p3.toUInt32 >>> ((4 : Int32) &&& 31).toUInt32).toInt32) &&& (3 : Int32))), .val (.int (p4 &&& (3 : Int32))), .val (.int v111), .val (.ref v112), .val (.ref y118), .val (.ref b119), .unset, .unset] []))
      refine OwnEnd.go (fun _ k => XS.aload X150.here hx rfl (hb hby at_172) rfl rfl k) ?_
      show OwnEnd p e below s _ _ _ (T150.setTop (mkF m 174 #[.val (.int p1), .val (.int p2), .val (.int p3), .val (.int p4), .val (.int (p1 &&& (3 : Int32))), .val (.int v101), .val (.ref v102), .val (.ref y108), .val (.int v109), .val (.int v110), .val (.int (((p3.toUInt32 >>> ((2 : Int32) &&& 31).toUInt32).toInt32) &&& (3 : Int32))), .val (.int (((p3.toUInt32 >>> ((4 : Int32) &&& 31).toUInt32).toInt32) &&& (3 : Int32))), .val (.int (p4 &&& (3 : Int32))), .val (.int v111), .val (.ref v112), .val (.ref y118), .val (.ref b119), .unset, .unset] [(.ref b119)]))
      obtain ⟨T210, X210, e210, st210⟩ := getS2 X150 hx hZ hown (host := "") (Or.inl ww8) Via.refl (rfl : T150.heap = T150.heap) (S_ATTRIBUTE.ext O150.2) (g := (mkF m 174 #[.val (.int p1), .val (.int p2), .val (.int p3), .val (.int p4), .val (.int (p1 &&& (3 : Int32))), .val (.int v101), .val (.ref v102), .val (.ref y108), .val (.int v109), .val (.int v110), .val (.int (((p3.toUInt32 >>> ((2 : Int32) &&& 31).toUInt32).toInt32) &&& (3 : Int32))), .val (.int (((p3.toUInt32 >>> ((4 : Int32) &&& 31).toUInt32).toInt32) &&& (3 : Int32))), .val (.int (p4 &&& (3 : Int32))), .val (.int v111), .val (.ref v112), .val (.ref y118), .val (.ref b119), .unset, .unset] [(.ref b119)])) rfl (hb hby at_174)
      refine OwnEnd.go (fun _ k => st210 _ k) ?_
      show OwnEnd p e below s _ _ _ (T210.setTop (mkF m 177 #[.val (.int p1), .val (.int p2), .val (.int p3), .val (.int p4), .val (.int (p1 &&& (3 : Int32))), .val (.int v101), .val (.ref v102), .val (.ref y108), .val (.int v109), .val (.int v110), .val (.int (((p3.toUInt32 >>> ((2 : Int32) &&& 31).toUInt32).toInt32) &&& (3 : Int32))), .val (.int (((p3.toUInt32 >>> ((4 : Int32) &&& 31).toUInt32).toInt32) &&& (3 : Int32))), .val (.int (p4 &&& (3 : Int32))), .val (.int v111), .val (.ref v112), .val (.ref y118), .val (.ref b119), .unset, .unset] [(.ref a_ATTRIBUTE), (.ref b119)]))
      obtain ⟨_, T211, L211, X211, hQ211, st211⟩ := ownCallV X210 hx hZ hown ww33 ww34 ww36 ww35 ww14 ww37 (by decide) (rm5d0attr l Z a0 hw [] b119 a_ATTRIBUTE y134 y135 (((0 : Int32) + (p1 &&& (3 : Int32))) + (1 : Int32)) (0 : Int32) (0 : Int32) (0 : Int32) (0 : Int32) (0 : Int32) (0 : Int32) (0 : Int32) a_ATTRIBUTE a_ELEMENT a_DOCUMENT T150.heap n0 Y150 O150 S_ATTRIBUTE S_ELEMENT S_DOCUMENT rfl n_ATTRIBUTE_ELEMENT n_ATTRIBUTE_DOCUMENT P151) e210 F152 0 (by decide) (by decide) (by decide) (by decide) (g := (mkF m 177 #[.val (.int p1), .val (.int p2), .val (.int p3), .val (.int p4), .val (.int (p1 &&& (3 : Int32))), .val (.int v101), .val (.ref v102), .val (.ref y108), .val (.int v109), .val (.int v110), .val (.int (((p3.toUInt32 >>> ((2 : Int32) &&& 31).toUInt32).toInt32) &&& (3 : Int32))), .val (.int (((p3.toUInt32 >>> ((4 : Int32) &&& 31).toUInt32).toInt32) &&& (3 : Int32))), .val (.int (p4 &&& (3 : Int32))), .val (.int v111), .val (.ref v112), .val (.ref y118), .val (.ref b119), .unset, .unset] [(.ref a_ATTRIBUTE), (.ref b119)])) rfl (by rw [hml]; rfl) (argsL := [(.ref a_ATTRIBUTE)]) (rest := []) (lenOf pd0_3 rfl) rfl rfl (by show 2 * 0 + _ ≤ _; exact Nat.le_of_eq rfl) (hb hby at_177)
      obtain ⟨rfl, N211q, K211q, P212⟩ := hQ211
      have N211 := Fr.app N150 N211q
      have F213 := F152.keep K211q
      have K211 := K150.trans K211q (allS (Or.inr v119) (allS (Or.inr (Nat.le_trans K119.1 P131)) (allS (Or.inr (Nat.le_trans K119.1 P132)) all0)))
      have Y211 := Nat.le_trans Y150 K211q.1
      have O211 := O150.keep K211q (allS u119 (allS P129 (allS P130 all0)))
      refine OwnEnd.go (fun _ k => st211 _ k) ?_
      show OwnEnd p e below s _ _ _ (T211.setTop (mkF m 180 #[.val (.int p1), .val (.int p2), .val (.int p3), .val (.int p4), .val (.int (p1 &&& (3 : Int32))), .val (.int v101), .val (.ref v102), .val (.ref y108), .val (.int v109), .val (.int v110), .val (.int (((p3.toUInt32 >>> ((2 : Int32) &&& 31).toUInt32).toInt32) &&& (3 : Int32))), .val (.int (((p3.toUInt32 >>> ((4 : Int32) &&& 31).toUInt32).toInt32) &&& (3 : Int32))), .val (.int (p4 &&& (3 : Int32))), .val (.int v111), .val (.ref v112), .val (.ref y118), .val (.ref b119), .unset, .unset] [(.int (((0 : Int32) + (p1 &&& (3 : Int32))) + (1 : Int32)))]))
      refine OwnEnd.go (fun _ k => XS.pop X211.here hx rfl (hb hby at_180) rfl rfl k) ?_
      show OwnEnd p e below s _ _ _ (T211.setTop (mkF m 181 #[.val (.int p1), .val (.int p2), .val (.int p3), .val (.int p4), .val (.int (p1 &&& (3 : Int32))), .val (.int v101), .val (.ref v102), .val (.ref y108), .val (.int v109), .val (.int v110), .val (.int (((p3.toUInt32 >>> ((2 : Int32) &&& 31).toUInt32).toInt32) &&& (3 : Int32))), .val (.int (((p3.toUInt32 >>> ((4 : Int32) &&& 31).toUInt32).toInt32) &&& (3 : Int32))), .val (.int (p4 &&& (3 : Int32))), .val (.int v111), .val (.ref v112), .val (.ref y118), .val (.ref b119), .unset, .unset] []))
      exact J154 _ _ ((((0 : Int32) + (p1 &&& (3 : Int32))) + (1 : Int32)) + (1 : Int32)) X211 N211 K211 Y211 O211 P212 trivial
  · refine OwnEnd.go (fun _ k => XS.ifNo X145.here hx rfl (hb hby at_145) rfl ((if0 _ _).trans (feq hc149).1) k) ?_
    show OwnEnd p e below s _ _ _ (T145.setTop (mkF m 148 #[.val (.int p1), .val (.int p2), .val (.int p3), .val (.int p4), .val (.int (p1 &&& (3 : Int32))), .val (.int v101), .val (.ref v102), .val (.ref y108), .val (.int v109), .val (.int v110), .val (.int (((p3.toUInt32 >>> ((2 : Int32) &&& 31).toUInt32).toInt32) &&& (3 : Int32))), .val (.int (((p3.toUInt32 >>> ((4 : Int32) &&& 31).toUInt32).toInt32) &&& (3 : Int32))), .val (.int (p4 &&& (3 : Int32))), .val (.int v111), .val (.ref v112), .val (.ref y118), .val (.ref b119), .unset, .unset] []))
    refine OwnEnd.go (fun _ k => XS.aload X145.here hx rfl (hb hby at_148) rfl rfl k) ?_
    show OwnEnd p e below s _ _ _ (T145.setTop (mkF m 150 #[.val (.int p1), .val (.int p2), .val (.int p3), .val (.int p4), .val (.int (p1 &&& (3 : Int32))), .val (.int v101), .val (.ref v102), .val (.ref y108), .val (.int v109), .val (.int v110), .val (.int (((p3.toUInt32 >>> ((2 : Int32) &&& 31).toUInt32).toInt32) &&& (3 : Int32))), .val (.int (((p3.toUInt32 >>> ((4 : Int32) &&& 31).toUInt32).toInt32) &&& (3 : Int32))), .val (.int (p4 &&& (3 : Int32))), .val (.int v111), .val (.ref v112), .val (.ref y118), .val (.ref b119), .unset, .unset] [(.ref b119)]))
    refine OwnEnd.go (fun _ k => XS.aload X145.here hx rfl (hb hby at_150) rfl rfl k) ?_
    show OwnEnd p e below s _ _ _ (T145.setTop (mkF m 152 #[.val (.int p1), .val (.int p2), .val (.int p3), .val (.int p4), .val (.int (p1 &&& (3 : Int32))), .val (.int v101), .val (.ref v102), .val (.ref y108), .val (.int v109), .val (.int v110), .val (.int (((p3.toUInt32 >>> ((2 : Int32) &&& 31).toUInt32).toInt32) &&& (3 : Int32))), .val (.int (((p3.toUInt32 >>> ((4 : Int32) &&& 31).toUInt32).toInt32) &&& (3 : Int32))), .val (.int (p4 &&& (3 : Int32))), .val (.int v111), .val (.ref v112), .val (.ref y118), .val (.ref b119), .unset, .unset] [(.ref v102), (.ref b119)]))
    obtain ⟨_, T215, L215, X215, hQ215, st215⟩ := ownCallV X145 hx hZ hown ww33 ww34 ww36 ww35 ww14 ww37 (by decide) (rm5d0open l Z a0 hw [] b119 v102 y134 y135 ((0 : Int32) + (p1 &&& (3 : Int32))) (0 : Int32) (0 : Int32) (0 : Int32) (0 : Int32) (0 : Int32) (0 : Int32) (0 : Int32) a_ATTRIBUTE a_ELEMENT a_DOCUMENT T145.heap n0 Y145 O145 S_ATTRIBUTE S_ELEMENT S_DOCUMENT nk102 P102 P146) (rfl : T145.heap = T145.heap) F147 0 (by decide) (by decide) (by decide) (by decide) (g := (mkF m 152 #[.val (.int p1), .val (.int p2), .val (.int p3), .val (.int p4), .val (.int (p1 &&& (3 : Int32))), .val (.int v101), .val (.ref v102), .val (.ref y108), .val (.int v109), .val (.int v110), .val (.int (((p3.toUInt32 >>> ((2 : Int32) &&& 31).toUInt32).toInt32) &&& (3 : Int32))), .val (.int (((p3.toUInt32 >>> ((4 : Int32) &&& 31).toUInt32).toInt32) &&& (3 : Int32))), .val (.int (p4 &&& (3 : Int32))), .val (.int v111), .val (.ref v112), .val (.ref y118), .val (.ref b119), .unset, .unset] [(.ref v102), (.ref b119)])) rfl (by rw [hml]; rfl) (argsL := [(.ref v102)]) (rest := []) (lenOf pd0_3 rfl) rfl rfl (by show 2 * 0 + _ ≤ _; exact Nat.le_of_eq rfl) (hb hby at_152)
    obtain ⟨rfl, N215q, K215q, P216⟩ := hQ215
    have N215 := Fr.app N145 N215q
    have F217 := F147.keep K215q
    have K215 := K145.trans K215q (allS (Or.inr v119) (allS (Or.inr (Nat.le_trans K119.1 P131)) (allS (Or.inr (Nat.le_trans K119.1 P132)) all0)))
    have Y215 := Nat.le_trans Y145 K215q.1
    have O215 := O145.keep K215q (allS u119 (allS P129 (allS P130 all0)))
    refine OwnEnd.go (fun _ k => st215 _ k) ?_
    show OwnEnd p e below s _ _ _ (T215.setTop (mkF m 155 #[.val (.int p1), .val (.int p2), .val (.int p3), .val (.int p4), .val (.int (p1 &&& (3 : Int32))), .val (.int v101), .val (.ref v102), .val (.ref y108), .val (.int v109), .val (.int v110), .val (.int (((p3.toUInt32 >>> ((2 : Int32) &&& 31).toUInt32).toInt32) &&& (3 : Int32))), .val (.int (((p3.toUInt32 >>> ((4 : Int32) &&& 31).toUInt32).toInt32) &&& (3 : Int32))), .val (.int (p4 &&& (3 : Int32))), .val (.int v111), .val (.ref v112), .val (.ref y118), .val (.ref b119), .unset, .unset] [(.int ((0 : Int32) + (p1 &&& (3 : Int32))))]))
    refine OwnEnd.go (fun _ k => XS.pop X215.here hx rfl (hb hby at_155) rfl rfl k) ?_
    show OwnEnd p e below s _ _ _ (T215.setTop (mkF m 156 #[.val (.int p1), .val (.int p2), .val (.int p3), .val (.int p4), .val (.int (p1 &&& (3 : Int32))), .val (.int v101), .val (.ref v102), .val (.ref y108), .val (.int v109), .val (.int v110), .val (.int (((p3.toUInt32 >>> ((2 : Int32) &&& 31).toUInt32).toInt32) &&& (3 : Int32))), .val (.int (((p3.toUInt32 >>> ((4 : Int32) &&& 31).toUInt32).toInt32) &&& (3 : Int32))), .val (.int (p4 &&& (3 : Int32))), .val (.int v111), .val (.ref v112), .val (.ref y118), .val (.ref b119), .unset, .unset] []))
    refine OwnEnd.go (fun _ k => XS.goto X215.here hx rfl (pc0 := 156) (pc' := 167) rfl (hb hby at_156) (by decide) (by decide) k) ?_
    show OwnEnd p e below s _ _ _ (T215.setTop (mkF m 167 #[.val (.int p1), .val (.int p2), .val (.int p3), .val (.int p4), .val (.int (p1 &&& (3 : Int32))), .val (.int v101), .val (.ref v102), .val (.ref y108), .val (.int v109), .val (.int v110), .val (.int (((p3.toUInt32 >>> ((2 : Int32) &&& 31).toUInt32).toInt32) &&& (3 : Int32))), .val (.int (((p3.toUInt32 >>> ((4 : Int32) &&& 31).toUInt32).toInt32) &&& (3 : Int32))), .val (.int (p4 &&& (3 : Int32))), .val (.int v111), .val (.ref v112), .val (.ref y118), .val (.ref b119), .unset, .unset] []))
    refine OwnEnd.go (fun _ k => XS.iload X215.here hx rfl (hb hby at_167) rfl  k) ?_
    show OwnEnd p e below s _ _ _ (T215.setTop (mkF m 169 #[.val (.int p1), .val (.int p2), .val (.int p3), .val (.int p4), .val (.int (p1 &&& (3 : Int32))), .val (.int v101), .val (.ref v102), .val (.ref y108), .val (.int v109), .val (.int v110), .val (.int (((p3.toUInt32 >>> ((2 : Int32) &&& 31).toUInt32).toInt32) &&& (3 : Int32))), .val (.int (((p3.toUInt32 >>> ((4 : Int32) &&& 31).toUInt32).toInt32) &&& (3 : Int32))), .val (.int (p4 &&& (3 : Int32))), .val (.int v111), .val (.ref v112), .val (.ref y118), .val (.ref b119), .unset, .unset] [(.int v109)]))
    have J219 : ∀ (T219 : State) (L : List Loc) (rc1 : Int32) (tt1 : Int32), Stand p l e room_1 s m #[(.int p1), (.int p2), (.int p3), (.int p4)] below meth c T219 L 3 24 → Fr n0 L → Keep h0 T219.heap [] → n0 ≤ T219.heap.size → Old Z n0 T219.heap → ownTS Z T219.heap n0 b119 y134 y135 rc1 (1 : Int32) ((0 : Int32) + (p1 &&& (3 : Int32))) (0 : Int32) tt1 (0 : Int32) (0 : Int32) (0 : Int32) (0 : Int32) → rc1 = ((0 : Int32) + (p1 &&& (3 : Int32))) + (1 : Int32) + tt1 → OwnEnd p e below s (Q0 Z p1 p2 p3 p4 a_ATTRIBUTE a_TEXT a_COMMENT a_PROCESSING_INSTRUCTION a_NAMESPACE a_ELEMENT a_DOCUMENT h0 n0) room_1.cells room_1.slots (T219.setTop (mkF m 181 #[.val (.int p1), .val (.int p2), .val (.int p3), .val (.int p4), .val (.int (p1 &&& (3 : Int32))), .val (.int v101), .val (.ref v102), .val (.ref y108), .val (.int v109), .val (.int v110), .val (.int (((p3.toUInt32 >>> ((2 : Int32) &&& 31).toUInt32).toInt32) &&& (3 : Int32))), .val (.int (((p3.toUInt32 >>> ((4 : Int32) &&& 31).toUInt32).toInt32) &&& (3 : Int32))), .val (.int (p4 &&& (3 : Int32))), .val (.int v111), .val (.ref v112), .val (.ref y118), .val (.ref b119), .unset, .unset] [])) := by
      intro T219 L rc1 tt1 X219 N219 K219 Y219 O219 B219 hy219
      have EA220 := B219.2.2.2.2.2.2.1
      show OwnEnd p e below s _ _ _ (T219.setTop (mkF m 181 #[.val (.int p1), .val (.int p2), .val (.int p3), .val (.int p4), .val (.int (p1 &&& (3 : Int32))), .val (.int v101), .val (.ref v102), .val (.ref y108), .val (.int v109), .val (.int v110), .val (.int (((p3.toUInt32 >>> ((2 : Int32) &&& 31).toUInt32).toInt32) &&& (3 : Int32))), .val (.int (((p3.toUInt32 >>> ((4 : Int32) &&& 31).toUInt32).toInt32) &&& (3 : Int32))), .val (.int (p4 &&& (3 : Int32))), .val (.int v111), .val (.ref v112), .val (.ref y118), .val (.ref b119), .unset, .unset] []))
      refine OwnEnd.go (fun _ k => XS.iload X219.here hx rfl (hb hby at_181) rfl  k) ?_
      show OwnEnd p e below s _ _ _ (T219.setTop (mkF m 183 #[.val (.int p1), .val (.int p2), .val (.int p3), .val (.int p4), .val (.int (p1 &&& (3 : Int32))), .val (.int v101), .val (.ref v102), .val (.ref y108), .val (.int v109), .val (.int v110), .val (.int (((p3.toUInt32 >>> ((2 : Int32) &&& 31).toUInt32).toInt32) &&& (3 : Int32))), .val (.int (((p3.toUInt32 >>> ((4 : Int32) &&& 31).toUInt32).toInt32) &&& (3 : Int32))), .val (.int (p4 &&& (3 : Int32))), .val (.int v111), .val (.ref v112), .val (.ref y118), .val (.ref b119), .unset, .unset] [(.int v110)]))
      have J221 : ∀ (T221 : State) (L : List Loc) (rc2 : Int32) (tt2 : Int32), Stand p l e room_1 s m #[(.int p1), (.int p2), (.int p3), (.int p4)] below meth c T221 L 3 24 → Fr n0 L → Keep h0 T221.heap [] → n0 ≤ T221.heap.size → Old Z n0 T221.heap → ownTS Z T221.heap n0 b119 y134 y135 rc2 (1 : Int32) ((0 : Int32) + (p1 &&& (3 : Int32))) (0 : Int32) tt2 (0 : Int32) (0 : Int32) (0 : Int32) (0 : Int32) → rc2 = ((0 : Int32) + (p1 &&& (3 : Int32))) + (1 : Int32) + tt2 → OwnEnd p e below s (Q0 Z p1 p2 p3 p4 a_ATTRIBUTE a_TEXT a_COMMENT a_PROCESSING_INSTRUCTION a_NAMESPACE a_ELEMENT a_DOCUMENT h0 n0) room_1.cells room_1.slots (T221.setTop (mkF m 195 #[.val (.int p1), .val (.int p2), .val (.int p3), .val (.int p4), .val (.int (p1 &&& (3 : Int32))), .val (.int v101), .val (.ref v102), .val (.ref y108), .val (.int v109), .val (.int v110), .val (.int (((p3.toUInt32 >>> ((2 : Int32) &&& 31).toUInt32).toInt32) &&& (3 : Int32))), .val (.int (((p3.toUInt32 >>> ((4 : Int32) &&& 31).toUInt32).toInt32) &&& (3 : Int32))), .val (.int (p4 &&& (3 : Int32))), .val (.int v111), .val (.ref v112), .val (.ref y118), .val (.ref b119), .unset, .unset] [])) := by
        intro T221 L rc2 tt2 X221 N221 K221 Y221 O221 B221 hy221
        have EA222 := B221.2.2.2.2.2.2.1
        show OwnEnd p e below s _ _ _ (T221.setTop (mkF m 195 #[.val (.int p1), .val (.int p2), .val (.int p3), .val (.int p4), .val (.int (p1 &&& (3 : Int32))), .val (.int v101), .val (.ref v102), .val (.ref y108), .val (.int v109), .val (.int v110), .val (.int (((p3.toUInt32 >>> ((2 : Int32) &&& 31).toUInt32).toInt32) &&& (3 : Int32))), .val (.int (((p3.toUInt32 >>> ((4 : Int32) &&& 31).toUInt32).toInt32) &&& (3 : Int32))), .val (.int (p4 &&& (3 : Int32))), .val (.int v111), .val (.ref v112), .val (.ref y118), .val (.ref b119), .unset, .unset] []))
        refine OwnEnd.go (fun _ k => XS.iload X221.here hx rfl (hb hby at_195) rfl  k) ?_
        show OwnEnd p e below s _ _ _ (T221.setTop (mkF m 197 #[.val (.int p1), .val (.int p2), .val (.int p3), .val (.int p4), .val (.int (p1 &&& (3 : Int32))), .val (.int v101), .val (.ref v102), .val (.ref y108), .val (.int v109), .val (.int v110), .val (.int (((p3.toUInt32 >>> ((2 : Int32) &&& 31).toUInt32).toInt32) &&& (3 : Int32))), .val (.int (((p3.toUInt32 >>> ((4 : Int32) &&& 31).toUInt32).toInt32) &&& (3 : Int32))), .val (.int (p4 &&& (3 : Int32))), .val (.int v111), .val (.ref v112), .val (.ref y118), .val (.ref b119), .unset, .unset] [(.int v101)]))
        refine OwnEnd.go (fun _ k => XS.ifNo X221.here hx rfl (hb hby at_197) rfl ((if0 _ _).trans (feq hc149).1) k) ?_
        show OwnEnd p e below s _ _ _ (T221.setTop (mkF m 200 #[.val (.int p1), .val (.int p2), .val (.int p3), .val (.int p4), .val (.int (p1 &&& (3 : Int32))), .val (.int v101), .val (.ref v102), .val (.ref y108), .val (.int v109), .val (.int v110), .val (.int (((p3.toUInt32 >>> ((2 : Int32) &&& 31).toUInt32).toInt32) &&& (3 : Int32))), .val (.int (((p3.toUInt32 >>> ((4 : Int32) &&& 31).toUInt32).toInt32) &&& (3 : Int32))), .val (.int (p4 &&& (3 : Int32))), .val (.int v111), .val (.ref v112), .val (.ref y118), .val (.ref b119), .unset, .unset] []))
        refine OwnEnd.go (fun _ k => XS.aload X221.here hx rfl (hb hby at_200) rfl rfl k) ?_
        show OwnEnd p e below s _ _ _ (T221.setTop (mkF m 202 #[.val (.int p1), .val (.int p2), .val (.int p3), .val (.int p4), .val (.int (p1 &&& (3 : Int32))), .val (.int v101), .val (.ref v102), .val (.ref y108), .val (.int v109), .val (.int v110), .val (.int (((p3.toUInt32 >>> ((2 : Int32) &&& 31).toUInt32).toInt32) &&& (3 : Int32))), .val (.int (((p3.toUInt32 >>> ((4 : Int32) &&& 31).toUInt32).toInt32) &&& (3 : Int32))), .val (.int (p4 &&& (3 : Int32))), .val (.int v111), .val (.ref v112), .val (.ref y118), .val (.ref b119), .unset, .unset] [(.ref b119)]))
        refine OwnEnd.go (fun _ k => XS.iload X221.here hx rfl (hb hby at_202) rfl  k) ?_
        show OwnEnd p e below s _ _ _ (T221.setTop (mkF m 204 #[.val (.int p1), .val (.int p2), .val (.int p3), .val (.int p4), .val (.int (p1 &&& (3 : Int32))), .val (.int v101), .val (.ref v102), .val (.ref y108), .val (.int v109), .val (.int v110), .val (.int (((p3.toUInt32 >>> ((2 : Int32) &&& 31).toUInt32).toInt32) &&& (3 : Int32))), .val (.int (((p3.toUInt32 >>> ((4 : Int32) &&& 31).toUInt32).toInt32) &&& (3 : Int32))), .val (.int (p4 &&& (3 : Int32))), .val (.int v111), .val (.ref v112), .val (.ref y118), .val (.ref b119), .unset, .unset] [(.int (((p3.toUInt32 >>> ((2 : Int32) &&& 31).toUInt32).toInt32) &&& (3 : Int32))), (.ref b119)]))
        obtain ⟨_, T223, L223, X223, hQ223, st223⟩ := ownCallV X221 hx hZ hown ww50 ww51 ww53 ww52 ww14 ww54 (by decide) (rm7d1 l Z a0 hw [] b119 (((p3.toUInt32 >>> ((2 : Int32) &&& 31).toUInt32).toInt32) &&& (3 : Int32)) y134 y135 rc2 ((0 : Int32) + (p1 &&& (3 : Int32))) (0 : Int32) tt2 (0 : Int32) (0 : Int32) (0 : Int32) (0 : Int32) T221.heap n0 Y221  B221) (rfl : T221.heap = T221.heap) EA222 0 (by decide) (by decide) (by decide) (by decide) (g := (mkF m 204 #[.val (.int p1), .val (.int p2), .val (.int p3), .val (.int p4), .val (.int (p1 &&& (3 : Int32))), .val (.int v101), .val (.ref v102), .val (.ref y108), .val (.int v109), .val (.int v110), .val (.int (((p3.toUInt32 >>> ((2 : Int32) &&& 31).toUInt32).toInt32) &&& (3 : Int32))), .val (.int (((p3.toUInt32 >>> ((4 : Int32) &&& 31).toUInt32).toInt32) &&& (3 : Int32))), .val (.int (p4 &&& (3 : Int32))), .val (.int v111), .val (.ref v112), .val (.ref y118), .val (.ref b119), .unset, .unset] [(.int (((p3.toUInt32 >>> ((2 : Int32) &&& 31).toUInt32).toInt32) &&& (3 : Int32))), (.ref b119)])) rfl (by rw [hml]; rfl) (argsL := [(.int (((p3.toUInt32 >>> ((2 : Int32) &&& 31).toUInt32).toInt32) &&& (3 : Int32)))]) (rest := []) (lenOf pd0_2 rfl) rfl rfl (by show 2 * 0 + _ ≤ _; exact Nat.le_of_eq rfl) (hb hby at_204)
        obtain ⟨rfl, N223q, K223q, P224⟩ := hQ223
        have N223 := Fr.app N221 N223q
        have F226 := EA222.keep K223q
        have K223 := K221.trans K223q (allS (Or.inr v119) (allS (Or.inr (Nat.le_trans K119.1 P131)) (allS (Or.inr (Nat.le_trans K119.1 P132)) all0)))
        have Y223 := Nat.le_trans Y221 K223q.1
        have O223 := O221.keep K223q (allS u119 (allS P129 (allS P130 all0)))
        refine OwnEnd.go (fun _ k => st223 _ k) ?_
        show OwnEnd p e below s _ _ _ (T223.setTop (mkF m 207 #[.val (.int p1), .val (.int p2), .val (.int p3), .val (.int p4), .val (.int (p1 &&& (3 : Int32))), .val (.int v101), .val (.ref v102), .val (.ref y108), .val (.int v109), .val (.int v110), .val (.int (((p3.toUInt32 >>> ((2 : Int32) &&& 31).toUInt32).toInt32) &&& (3 : Int32))), .val (.int (((p3.toUInt32 >>> ((4 : Int32) &&& 31).toUInt32).toInt32) &&& (3 : Int32))), .val (.int (p4 &&& (3 : Int32))), .val (.int v111), .val (.ref v112), .val (.ref y118), .val (.ref b119), .unset, .unset] []))
        refine OwnEnd.go (fun _ k => XS.aload X223.here hx rfl (hb hby at_207) rfl rfl k) ?_
        show OwnEnd p e below s _ _ _ (T223.setTop (mkF m 209 #[.val (.int p1), .val (.int p2), .val (.int p3), .val (.int p4), .val (.int (p1 &&& (3 : Int32))), .val (.int v101), .val (.ref v102), .val (.ref y108), .val (.int v109), .val (.int v110), .val (.int (((p3.toUInt32 >>> ((2 : Int32) &&& 31).toUInt32).toInt32) &&& (3 : Int32))), .val (.int (((p3.toUInt32 >>> ((4 : Int32) &&& 31).toUInt32).toInt32) &&& (3 : Int32))), .val (.int (p4 &&& (3 : Int32))), .val (.int v111), .val (.ref v112), .val (.ref y118), .val (.ref b119), .unset, .unset] [(.ref b119)]))
        refine OwnEnd.go (fun _ k => XS.iload X223.here hx rfl (hb hby at_209) rfl  k) ?_
        show OwnEnd p e below s _ _ _ (T223.setTop (mkF m 211 #[.val (.int p1), .val (.int p2), .val (.int p3), .val (.int p4), .val (.int (p1 &&& (3 : Int32))), .val (.int v101), .val (.ref v102), .val (.ref y108), .val (.int v109), .val (.int v110), .val (.int (((p3.toUInt32 >>> ((2 : Int32) &&& 31).toUInt32).toInt32) &&& (3 : Int32))), .val (.int (((p3.toUInt32 >>> ((4 : Int32) &&& 31).toUInt32).toInt32) &&& (3 : Int32))), .val (.int (p4 &&& (3 : Int32))), .val (.int v111), .val (.ref v112), .val (.ref y118), .val (.ref b119), .unset, .unset] [(.int (((p3.toUInt32 >>> ((4 : Int32) &&& 31).toUInt32).toInt32) &&& (3 : Int32))), (.ref b119)]))
        obtain ⟨_, T227, L227, X227, hQ227, st227⟩ := ownCallV X223 hx hZ hown ww26 ww27 ww29 ww28 ww14 ww30 (by decide) (rm4 l Z a0 hw [] b119 (((p3.toUInt32 >>> ((4 : Int32) &&& 31).toUInt32).toInt32) &&& (3 : Int32)) y134 y135 rc2 ((0 : Int32) + (p1 &&& (3 : Int32))) (0 : Int32) (tt2 + (((p3.toUInt32 >>> ((2 : Int32) &&& 31).toUInt32).toInt32) &&& (3 : Int32))) (0 : Int32) (0 : Int32) (0 : Int32) (0 : Int32) (1 : Int32) T223.heap n0 Y223  P224) (rfl : T223.heap = T223.heap) F226 0 (by decide) (by decide) (by decide) (by decide) (g := (mkF m 211 #[.val (.int p1), .val (.int p2), .val (.int p3), .val (.int p4), .val (.int (p1 &&& (3 : Int32))), .val (.int v101), .val (.ref v102), .val (.ref y108), .val (.int v109), .val (.int v110), .val (.int (((p3.toUInt32 >>> ((2 : Int32) &&& 31).toUInt32).toInt32) &&& (3 : Int32))), .val (.int (((p3.toUInt32 >>> ((4 : Int32) &&& 31).toUInt32).toInt32) &&& (3 : Int32))), .val (.int (p4 &&& (3 : Int32))), .val (.int v111), .val (.ref v112), .val (.ref y118), .val (.ref b119), .unset, .unset] [(.int (((p3.toUInt32 >>> ((4 : Int32) &&& 31).toUInt32).toInt32) &&& (3 : Int32))), (.ref b119)])) rfl (by rw [hml]; rfl) (argsL := [(.int (((p3.toUInt32 >>> ((4 : Int32) &&& 31).toUInt32).toInt32) &&& (3 : Int32)))]) (rest := []) (lenOf pd0_2 rfl) rfl rfl (by show 2 * 0 + _ ≤ _; exact Nat.le_of_eq rfl) (hb hby at_211)
        obtain ⟨rfl, N227q, K227q, P228⟩ := hQ227
        have N227 := Fr.app N223 N227q
        have F229 := F226.keep K227q
        have K227 := K223.trans K227q (allS (Or.inr v119) (allS (Or.inr (Nat.le_trans K119.1 P131)) (allS (Or.inr (Nat.le_trans K119.1 P132)) all0)))
        have Y227 := Nat.le_trans Y223 K227q.1
        have O227 := O223.keep K227q (allS u119 (allS P129 (allS P130 all0)))
        refine OwnEnd.go (fun _ k => st227 _ k) ?_
        show OwnEnd p e below s _ _ _ (T227.setTop (mkF m 214 #[.val (.int p1), .val (.int p2), .val (.int p3), .val (.int p4), .val (.int (p1 &&& (3 : Int32))), .val (.int v101), .val (.ref v102), .val (.ref y108), .val (.int v109), .val (.int v110), .val (.int (((p3.toUInt32 >>> ((2 : Int32) &&& 31).toUInt32).toInt32) &&& (3 : Int32))), .val (.int (((p3.toUInt32 >>> ((4 : Int32) &&& 31).toUInt32).toInt32) &&& (3 : Int32))), .val (.int (p4 &&& (3 : Int32))), .val (.int v111), .val (.ref v112), .val (.ref y118), .val (.ref b119), .unset, .unset] []))
        refine OwnEnd.go (fun _ k => XS.iload X227.here hx rfl (hb hby at_214) rfl  k) ?_
        show OwnEnd p e below s _ _ _ (T227.setTop (mkF m 216 #[.val (.int p1), .val (.int p2), .val (.int p3), .val (.int p4), .val (.int (p1 &&& (3 : Int32))), .val (.int v101), .val (.ref v102), .val (.ref y108), .val (.int v109), .val (.int v110), .val (.int (((p3.toUInt32 >>> ((2 : Int32) &&& 31).toUInt32).toInt32) &&& (3 : Int32))), .val (.int (((p3.toUInt32 >>> ((4 : Int32) &&& 31).toUInt32).toInt32) &&& (3 : Int32))), .val (.int (p4 &&& (3 : Int32))), .val (.int v111), .val (.ref v112), .val (.ref y118), .val (.ref b119), .unset, .unset] [(.int (p4 &&& (3 : Int32)))]))
        refine OwnEnd.go (fun _ k => XS.iconst X227.here hx rfl (hb hby at_216) k) ?_
        show OwnEnd p e below s _ _ _ (T227.setTop (mkF m 217 #[.val (.int p1), .val (.int p2), .val (.int p3), .val (.int p4), .val (.int (p1 &&& (3 : Int32))), .val (.int v101), .val (.ref v102), .val (.ref y108), .val (.int v109), .val (.int v110), .val (.int (((p3.toUInt32 >>> ((2 : Int32) &&& 31).toUInt32).toInt32) &&& (3 : Int32))), .val (.int (((p3.toUInt32 >>> ((4 : Int32) &&& 31).toUInt32).toInt32) &&& (3 : Int32))), .val (.int (p4 &&& (3 : Int32))), .val (.int v111), .val (.ref v112), .val (.ref y118), .val (.ref b119), .unset, .unset] [(.int (1 : Int32)), (.int (p4 &&& (3 : Int32)))]))
        by_cases hc231 : (p4 &&& (3 : Int32)) = (1 : Int32)
        · refine OwnEnd.go (fun _ k => XS.icmpYes X227.here hx rfl (pc0 := 217) (pc' := 226) rfl (hb hby at_217) rfl (teq hc231).1 (by decide) (by decide) k) ?_
          show OwnEnd p e below s _ _ _ (T227.setTop (mkF m 226 #[.val (.int p1), .val (.int p2), .val (.int p3), .val (.int p4), .val (.int (p1 &&& (3 : Int32))), .val (.int v101), .val (.ref v102), .val (.ref y108), .val (.int v109), .val (.int v110), .val (.int (((p3.toUInt32 >>> ((2 : Int32) &&& 31).toUInt32).toInt32) &&& (3 : Int32))), .val (.int (((p3.toUInt32 >>> ((4 : Int32) &&& 31).toUInt32).toInt32) &&& (3 : Int32))), .val (.int (p4 &&& (3 : Int32))), .val (.int v111), .val (.ref v112), .val (.ref y118), .val (.ref b119), .unset, .unset] []))
          refine OwnEnd.go (fun _ k => XS.aload X227.here hx rfl (hb hby at_226) rfl rfl k) ?_
          show OwnEnd p e below s _ _ _ (T227.setTop (mkF m 228 #[.val (.int p1), .val (.int p2), .val (.int p3), .val (.int p4), .val (.int (p1 &&& (3 : Int32))), .val (.int v101), .val (.ref v102), .val (.ref y108), .val (.int v109), .val (.int v110), .val (.int (((p3.toUInt32 >>> ((2 : Int32) &&& 31).toUInt32).toInt32) &&& (3 : Int32))), .val (.int (((p3.toUInt32 >>> ((4 : Int32) &&& 31).toUInt32).toInt32) &&& (3 : Int32))), .val (.int (p4 &&& (3 : Int32))), .val (.int v111), .val (.ref v112), .val (.ref y118), .val (.ref b119), .unset, .unset] [(.ref b119)]))
          refine OwnEnd.go (fun _ k => XS.aload X227.here hx rfl (hb hby at_228) rfl rfl k) ?_
          show OwnEnd p e below s _ _ _ (T227.setTop (mkF m 230 #[.val (.int p1), .val (.int p2), .val (.int p3), .val (.int p4), .val (.int (p1 &&& (3 : Int32))), .val (.int v101), .val (.ref v102), .val (.ref y108), .val (.int v109), .val (.int v110), .val (.int (((p3.toUInt32 >>> ((2 : Int32) &&& 31).toUInt32).toInt32) &&& (3 : Int32))), .val (.int (((p3.toUInt32 >>> ((4 : Int32) &&& 31).toUInt32).toInt32) &&& (3 : Int32))), .val (.int (p4 &&& (3 : Int32))), .val (.int v111), .val (.ref v112), .val (.ref y118), .val (.ref b119), .unset, .unset] [(.ref v112), (.ref b119)]))
          obtain ⟨_, T232, L232, X232, hQ232, st232⟩ := ownCallV X227 hx hZ hown ww33 ww34 ww36 ww35 ww14 ww37 (by decide) (rm5d1open l Z a0 hw [] b119 v112 y134 y135 (rc2 + (((p3.toUInt32 >>> ((4 : Int32) &&& 31).toUInt32).toInt32) &&& (3 : Int32))) ((0 : Int32) + (p1 &&& (3 : Int32))) (0 : Int32) (tt2 + (((p3.toUInt32 >>> ((2 : Int32) &&& 31).toUInt32).toInt32) &&& (3 : Int32))) (0 : Int32) (0 : Int32) (0 : Int32) (0 : Int32) a_ATTRIBUTE a_ELEMENT a_DOCUMENT T227.heap n0 Y227 O227 S_ATTRIBUTE S_ELEMENT S_DOCUMENT nk112 P112 P228) (rfl : T227.heap = T227.heap) F229 0 (by decide) (by decide) (by decide) (by decide) (g := (mkF m 230 #[.val (.int p1), .val (.int p2), .val (.int p3), .val (.int p4), .val (.int (p1 &&& (3 : Int32))), .val (.int v101), .val (.ref v102), .val (.ref y108), .val (.int v109), .val (.int v110), .val (.int (((p3.toUInt32 >>> ((2 : Int32) &&& 31).toUInt32).toInt32) &&& (3 : Int32))), .val (.int (((p3.toUInt32 >>> ((4 : Int32) &&& 31).toUInt32).toInt32) &&& (3 : Int32))), .val (.int (p4 &&& (3 : Int32))), .val (.int v111), .val (.ref v112), .val (.ref y118), .val (.ref b119), .unset, .unset] [(.ref v112), (.ref b119)])) rfl (by rw [hml]; rfl) (argsL := [(.ref v112)]) (rest := []) (lenOf pd0_3 rfl) rfl rfl (by show 2 * 0 + _ ≤ _; exact Nat.le_of_eq rfl) (hb hby at_230)
          obtain ⟨rfl, N232q, K232q, P233⟩ := hQ232
          have N232 := Fr.app N227 N232q
          have F234 := F229.keep K232q
          have K232 := K227.trans K232q (allS (Or.inr v119) (allS (Or.inr (Nat.le_trans K119.1 P131)) (allS (Or.inr (Nat.le_trans K119.1 P132)) all0)))
          have Y232 := Nat.le_trans Y227 K232q.1
          have O232 := O227.keep K232q (allS u119 (allS P129 (allS P130 all0)))
          refine OwnEnd.go (fun _ k => st232 _ k) ?_
          show OwnEnd p e below s _ _ _ (T232.setTop (mkF m 233 #[.val (.int p1), .val (.int p2), .val (.int p3), .val (.int p4), .val (.int (p1 &&& (3 : Int32))), .val (.int v101), .val (.ref v102), .val (.ref y108), .val (.int v109), .val (.int v110), .val (.int (((p3.toUInt32 >>> ((2 : Int32) &&& 31).toUInt32).toInt32) &&& (3 : Int32))), .val (.int (((p3.toUInt32 >>> ((4 : Int32) &&& 31).toUInt32).toInt32) &&& (3 : Int32))), .val (.int (p4 &&& (3 : Int32))), .val (.int v111), .val (.ref v112), .val (.ref y118), .val (.ref b119), .unset, .unset] [(.int (rc2 + (((p3.toUInt32 >>> ((4 : Int32) &&& 31).toUInt32).toInt32) &&& (3 : Int32))))]))
          refine OwnEnd.go (fun _ k => XS.pop X232.here hx rfl (hb hby at_233) rfl rfl k) ?_
          show OwnEnd p e below s _ _ _ (T232.setTop (mkF m 234 #[.val (.int p1), .val (.int p2), .val (.int p3), .val (.int p4), .val (.int (p1 &&& (3 : Int32))), .val (.int v101), .val (.ref v102), .val (.ref y108), .val (.int v109), .val (.int v110), .val (.int (((p3.toUInt32 >>> ((2 : Int32) &&& 31).toUInt32).toInt32) &&& (3 : Int32))), .val (.int (((p3.toUInt32 >>> ((4 : Int32) &&& 31).toUInt32).toInt32) &&& (3 : Int32))), .val (.int (p4 &&& (3 : Int32))), .val (.int v111), .val (.ref v112), .val (.ref y118), .val (.ref b119), .unset, .unset] []))
          refine OwnEnd.go (fun _ k => XS.iload X232.here hx rfl (hb hby at_234) rfl  k) ?_
          show OwnEnd p e below s _ _ _ (T232.setTop (mkF m 236 #[.val (.int p1), .val (.int p2), .val (.int p3), .val (.int p4), .val (.int (p1 &&& (3 : Int32))), .val (.int v101), .val (.ref v102), .val (.ref y108), .val (.int v109), .val (.int v110), .val (.int (((p3.toUInt32 >>> ((2 : Int32) &&& 31).toUInt32).toInt32) &&& (3 : Int32))), .val (.int (((p3.toUInt32 >>> ((4 : Int32) &&& 31).toUInt32).toInt32) &&& (3 : Int32))), .val (.int (p4 &&& (3 : Int32))), .val (.int v111), .val (.ref v112), .val (.ref y118), .val (.ref b119), .unset, .unset] [(.int v111)]))
          by_cases hc236 : v111 = (0 : Int32)
          · refine OwnEnd.go (fun _ k => XS.ifYes X232.here hx rfl (pc0 := 236) (pc' := 248) rfl (hb hby at_236) rfl ((if0 _ _).trans (teq hc236).1) (by decide) (by decide) k) ?_
            show OwnEnd p e below s _ _ _ (T232.setTop (mkF m 248 #[.val (.int p1), .val (.int p2), .val (.int p3), .val (.int p4), .val (.int (p1 &&& (3 : Int32))), .val (.int v101), .val (.ref v102), .val (.ref y108), .val (.int v109), .val (.int v110), .val (.int (((p3.toUInt32 >>> ((2 : Int32) &&& 31).toUInt32).toInt32) &&& (3 : Int32))), .val (.int (((p3.toUInt32 >>> ((4 : Int32) &&& 31).toUInt32).toInt32) &&& (3 : Int32))), .val (.int (p4 &&& (3 : Int32))), .val (.int v111), .val (.ref v112), .val (.ref y118), .val (.ref b119), .unset, .unset] []))
            refine OwnEnd.go (fun _ k => XS.iload X232.here hx rfl (hb hby at_248) rfl  k) ?_
            show OwnEnd p e below s _ _ _ (T232.setTop (mkF m 250 #[.val (.int p1), .val (.int p2), .val (.int p3), .val (.int p4), .val (.int (p1 &&& (3 : Int32))), .val (.int v101), .val (.ref v102), .val (.ref y108), .val (.int v109), .val (.int v110), .val (.int (((p3.toUInt32 >>> ((2 : Int32) &&& 31).toUInt32).toInt32) &&& (3 : Int32))), .val (.int (((p3.toUInt32 >>> ((4 : Int32) &&& 31).toUInt32).toInt32) &&& (3 : Int32))), .val (.int (p4 &&& (3 : Int32))), .val (.int v111), .val (.ref v112), .val (.ref y118), .val (.ref b119), .unset, .unset] [(.int (p4 &&& (3 : Int32)))]))
            refine OwnEnd.go (fun _ k => XS.iconst X232.here hx rfl (hb hby at_250) k) ?_
            show OwnEnd p e below s _ _ _ (T232.setTop (mkF m 251 #[.val (.int p1), .val (.int p2), .val (.int p3), .val (.int p4), .val (.int (p1 &&& (3 : Int32))), .val (.int v101), .val (.ref v102), .val (.ref y108), .val (.int v109), .val (.int v110), .val (.int (((p3.toUInt32 >>> ((2 : Int32) &&& 31).toUInt32).toInt32) &&& (3 : Int32))), .val (.int (((p3.toUInt32 >>> ((4 : Int32) &&& 31).toUInt32).toInt32) &&& (3 : Int32))), .val (.int (p4 &&& (3 : Int32))), .val (.int v111), .val (.ref v112), .val (.ref y118), .val (.ref b119), .unset, .unset] [(.int (2 : Int32)), (.int (p4 &&& (3 : Int32)))]))
            refine OwnEnd.go (fun _ k => XS.icmpYes X232.here hx rfl (pc0 := 251) (pc' := 276) rfl (hb hby at_251) rfl (feq (by rw [hc231]; decide : ¬ (p4 &&& (3 : Int32)) = (2 : Int32))).2 (by decide) (by decide) k) ?_
            show OwnEnd p e below s _ _ _ (T232.setTop (mkF m 276 #[.val (.int p1), .val (.int p2), .val (.int p3), .val (.int p4), .val (.int (p1 &&& (3 : Int32))), .val (.int v101), .val (.ref v102), .val (.ref y108), .val (.int v109), .val (.int v110), .val (.int (((p3.toUInt32 >>> ((2 : Int32) &&& 31).toUInt32).toInt32) &&& (3 : Int32))), .val (.int (((p3.toUInt32 >>> ((4 : Int32) &&& 31).toUInt32).toInt32) &&& (3 : Int32))), .val (.int (p4 &&& (3 : Int32))), .val (.int v111), .val (.ref v112), .val (.ref y118), .val (.ref b119), .unset, .unset] []))
            refine OwnEnd.go (fun _ k => XS.iload X232.here hx rfl (hb hby at_276) rfl  k) ?_
            show OwnEnd p e below s _ _ _ (T232.setTop (mkF m 278 #[.val (.int p1), .val (.int p2), .val (.int p3), .val (.int p4), .val (.int (p1 &&& (3 : Int32))), .val (.int v101), .val (.ref v102), .val (.ref y108), .val (.int v109), .val (.int v110), .val (.int (((p3.toUInt32 >>> ((2 : Int32) &&& 31).toUInt32).toInt32) &&& (3 : Int32))), .val (.int (((p3.toUInt32 >>> ((4 : Int32) &&& 31).toUInt32).toInt32) &&& (3 : Int32))), .val (.int (p4 &&& (3 : Int32))), .val (.int v111), .val (.ref v112), .val (.ref y118), .val (.ref b119), .unset, .unset] [(.int (p4 &&& (3 : Int32)))]))
            refine OwnEnd.go (fun _ k => XS.iconst X232.here hx rfl (hb hby at_278) k) ?_
            show OwnEnd p e below s _ _ _ (T232.setTop (mkF m 279 #[.val (.int p1), .val (.int p2), .val (.int p3), .val (.int p4), .val (.int (p1 &&& (3 : Int32))), .val (.int v101), .val (.ref v102), .val (.ref y108), .val (.int v109), .val (.int v110), .val (.int (((p3.toUInt32 >>> ((2 : Int32) &&& 31).toUInt32).toInt32) &&& (3 : Int32))), .val (.int (((p3.toUInt32 >>> ((4 : Int32) &&& 31).toUInt32).toInt32) &&& (3 : Int32))), .val (.int (p4 &&& (3 : Int32))), .val (.int v111), .val (.ref v112), .val (.ref y118), .val (.ref b119), .unset, .unset] [(.int (1 : Int32)), (.int (p4 &&& (3 : Int32)))]))
            refine OwnEnd.go (fun _ k => XS.icmpNo X232.here hx rfl (hb hby at_279) rfl (teq hc231).2 k) ?_
            show OwnEnd p e below s _ _ _ (T232.setTop (mkF m 282 #[.val (.int p1), .val (.int p2), .val (.int p3), .val (.int p4), .val (.int (p1 &&& (3 : Int32))), .val (.int v101), .val (.ref v102), .val (.ref y108), .val (.int v109), .val (.int v110), .val (.int (((p3.toUInt32 >>> ((2 : Int32) &&& 31).toUInt32).toInt32) &&& (3 : Int32))), .val (.int (((p3.toUInt32 >>> ((4 : Int32) &&& 31).toUInt32).toInt32) &&& (3 : Int32))), .val (.int (p4 &&& (3 : Int32))), .val (.int v111), .val (.ref v112), .val (.ref y118), .val (.ref b119), .unset, .unset] []))
            refine OwnEnd.go (fun _ k => XS.iconst X232.here hx rfl (hb hby at_282) k) ?_
            show OwnEnd p e below s _ _ _ (T232.setTop (mkF m 283 #[.val (.int p1), .val (.int p2), .val (.int p3), .val (.int p4), .val (.int (p1 &&& (3 : Int32))), .val (.int v101), .val (.ref v102), .val (.ref y108), .val (.int v109), .val (.int v110), .val (.int (((p3.toUInt32 >>> ((2 : Int32) &&& 31).toUInt32).toInt32) &&& (3 : Int32))), .val (.int (((p3.toUInt32 >>> ((4 : Int32) &&& 31).toUInt32).toInt32) &&& (3 : Int32))), .val (.int (p4 &&& (3 : Int32))), .val (.int v111), .val (.ref v112), .val (.ref y118), .val (.ref b119), .unset, .unset] [(.int (1 : Int32))]))
            refine OwnEnd.go (fun _ k => XS.istore X232.here hx rfl (hb hby at_283) rfl  (l' := #[.val (.int p1), .val (.int p2), .val (.int p3), .val (.int p4), .val (.int (p1 &&& (3 : Int32))), .val (.int v101), .val (.ref v102), .val (.ref y108), .val (.int v109), .val (.int v110), .val (.int (((p3.toUInt32 >>> ((2 : Int32) &&& 31).toUInt32).toInt32) &&& (3 : Int32))), .val (.int (((p3.toUInt32 >>> ((4 : Int32) &&& 31).toUInt32).toInt32) &&& (3 : Int32))), .val (.int (p4 &&& (3 : Int32))), .val (.int v111), .val (.ref v112), .val (.ref y118), .val (.ref b119), .val (.int (1 : Int32)), .unset]) rfl k) ?_
            show OwnEnd p e below s _ _ _ (T232.setTop (mkF m 285 #[.val (.int p1), .val (.int p2), .val (.int p3), .val (.int p4), .val (.int (p1 &&& (3 : Int32))), .val (.int v101), .val (.ref v102), .val (.ref y108), .val (.int v109), .val (.int v110), .val (.int (((p3.toUInt32 >>> ((2 : Int32) &&& 31).toUInt32).toInt32) &&& (3 : Int32))), .val (.int (((p3.toUInt32 >>> ((4 : Int32) &&& 31).toUInt32).toInt32) &&& (3 : Int32))), .val (.int (p4 &&& (3 : Int32))), .val (.int v111), .val (.ref v112), .val (.ref y118), .val (.ref b119), .val (.int (1 : Int32)), .unset] []))
            refine OwnEnd.go (fun _ k => XS.goto X232.here hx rfl (pc0 := 285) (pc' := 356) rfl (hb hby at_285) (by decide) (by decide) k) ?_
            show OwnEnd p e below s _ _ _ (T232.setTop (mkF m 356 #[.val (.int p1), .val (.int p2), .val (.int p3), .val (.int p4), .val (.int (p1 &&& (3 : Int32))), .val (.int v101), .val (.ref v102), .val (.ref y108), .val (.int v109), .val (.int v110), .val (.int (((p3.toUInt32 >>> ((2 : Int32) &&& 31).toUInt32).toInt32) &&& (3 : Int32))), .val (.int (((p3.toUInt32 >>> ((4 : Int32) &&& 31).toUInt32).toInt32) &&& (3 : Int32))), .val (.int (p4 &&& (3 : Int32))), .val (.int v111), .val (.ref v112), .val (.ref y118), .val (.ref b119), .val (.int (1 : Int32)), .unset] []))
            refine OwnEnd.go (fun _ k => XS.aload X232.here hx rfl (hb hby at_356) rfl rfl k) ?_
            show OwnEnd p e below s _ _ _ (T232.setTop (mkF m 358 #[.val (.int p1), .val (.int p2), .val (.int p3), .val (.int p4), .val (.int (p1 &&& (3 : Int32))), .val (.int v101), .val (.ref v102), .val (.ref y108), .val (.int v109), .val (.int v110), .val (.int (((p3.toUInt32 >>> ((2 : Int32) &&& 31).toUInt32).toInt32) &&& (3 : Int32))), .val (.int (((p3.toUInt32 >>> ((4 : Int32) &&& 31).toUInt32).toInt32) &&& (3 : Int32))), .val (.int (p4 &&& (3 : Int32))), .val (.int v111), .val (.ref v112), .val (.ref y118), .val (.ref b119), .val (.int (1 : Int32)), .unset] [(.ref b119)]))
            obtain ⟨_, T237, L237, X237, hQ237, st237⟩ := ownCallV X232 hx hZ hown ww55 ww56 ww58 ww57 ww14 ww59 (by decide) (rm8d2 l Z a0 hw [] b119 y134 y135 ((rc2 + (((p3.toUInt32 >>> ((4 : Int32) &&& 31).toUInt32).toInt32) &&& (3 : Int32))) + (1 : Int32)) ((0 : Int32) + (p1 &&& (3 : Int32))) (rc2 + (((p3.toUInt32 >>> ((4 : Int32) &&& 31).toUInt32).toInt32) &&& (3 : Int32))) (tt2 + (((p3.toUInt32 >>> ((2 : Int32) &&& 31).toUInt32).toInt32) &&& (3 : Int32))) (0 : Int32) (0 : Int32) (0 : Int32) (0 : Int32) T232.heap n0 Y232  P233) (rfl : T232.heap = T232.heap) F234 0 (by decide) (by decide) (by decide) (by decide) (g := (mkF m 358 #[.val (.int p1), .val (.int p2), .val (.int p3), .val (.int p4), .val (.int (p1 &&& (3 : Int32))), .val (.int v101), .val (.ref v102), .val (.ref y108), .val (.int v109), .val (.int v110), .val (.int (((p3.toUInt32 >>> ((2 : Int32) &&& 31).toUInt32).toInt32) &&& (3 : Int32))), .val (.int (((p3.toUInt32 >>> ((4 : Int32) &&& 31).toUInt32).toInt32) &&& (3 : Int32))), .val (.int (p4 &&& (3 : Int32))), .val (.int v111), .val (.ref v112), .val (.ref y118), .val (.ref b119), .val (.int (1 : Int32)), .unset] [(.ref b119)])) rfl (by rw [hml]; rfl) (argsL := []) (rest := []) (lenOf pd0_4 rfl) rfl rfl (by show 2 * 0 + _ ≤ _; exact Nat.le_of_eq rfl) (hb hby at_358)
            obtain ⟨rfl, N237q, e237⟩ := hQ237
            have N237 := Fr.app N232 N237q
            refine OwnEnd.go (fun _ k => st237 _ k) ?_
            show OwnEnd p e below s _ _ _ (T237.setTop (mkF m 361 #[.val (.int p1), .val (.int p2), .val (.int p3), .val (.int p4), .val (.int (p1 &&& (3 : Int32))), .val (.int v101), .val (.ref v102), .val (.ref y108), .val (.int v109), .val (.int v110), .val (.int (((p3.toUInt32 >>> ((2 : Int32) &&& 31).toUInt32).toInt32) &&& (3 : Int32))), .val (.int (((p3.toUInt32 >>> ((4 : Int32) &&& 31).toUInt32).toInt32) &&& (3 : Int32))), .val (.int (p4 &&& (3 : Int32))), .val (.int v111), .val (.ref v112), .val (.ref y118), .val (.ref b119), .val (.int (1 : Int32)), .unset] [(.int (own_isat ((rc2 + (((p3.toUInt32 >>> ((4 : Int32) &&& 31).toUInt32).toInt32) &&& (3 : Int32))) + (1 : Int32)) (rc2 + (((p3.toUInt32 >>> ((4 : Int32) &&& 31).toUInt32).toInt32) &&& (3 : Int32))) (0 : Int32)))]))
            refine OwnEnd.go (fun _ k => XS.iload X237.here hx rfl (hb hby at_361) rfl  k) ?_
            show OwnEnd p e below s _ _ _ (T237.setTop (mkF m 363 #[.val (.int p1), .val (.int p2), .val (.int p3), .val (.int p4), .val (.int (p1 &&& (3 : Int32))), .val (.int v101), .val (.ref v102), .val (.ref y108), .val (.int v109), .val (.int v110), .val (.int (((p3.toUInt32 >>> ((2 : Int32) &&& 31).toUInt32).toInt32) &&& (3 : Int32))), .val (.int (((p3.toUInt32 >>> ((4 : Int32) &&& 31).toUInt32).toInt32) &&& (3 : Int32))), .val (.int (p4 &&& (3 : Int32))), .val (.int v111), .val (.ref v112), .val (.ref y118), .val (.ref b119), .val (.int (1 : Int32)), .unset] [(.int (1 : Int32)), (.int (own_isat ((rc2 + (((p3.toUInt32 >>> ((4 : Int32) &&& 31).toUInt32).toInt32) &&& (3 : Int32))) + (1 : Int32)) (rc2 + (((p3.toUInt32 >>> ((4 : Int32) &&& 31).toUInt32).toInt32) &&& (3 : Int32))) (0 : Int32)))]))
            refine OwnEnd.go (fun _ k => XS.icmpNo X237.here hx rfl (hb hby at_363) rfl (teq (own_isat_t (own_h0 _))).2 k) ?_
            show OwnEnd p e below s _ _ _ (T237.setTop (mkF m 366 #[.val (.int p1), .val (.int p2), .val (.int p3), .val (.int p4), .val (.int (p1 &&& (3 : Int32))), .val (.int v101), .val (.ref v102), .val (.ref y108), .val (.int v109), .val (.int v110), .val (.int (((p3.toUInt32 >>> ((2 : Int32) &&& 31).toUInt32).toInt32) &&& (3 : Int32))), .val (.int (((p3.toUInt32 >>> ((4 : Int32) &&& 31).toUInt32).toInt32) &&& (3 : Int32))), .val (.int (p4 &&& (3 : Int32))), .val (.int v111), .val (.ref v112), .val (.ref y118), .val (.ref b119), .val (.int (1 : Int32)), .unset] []))
            refine OwnEnd.go (fun _ k => XS.iconst X237.here hx rfl (hb hby at_366) k) ?_
            show OwnEnd p e below s _ _ _ (T237.setTop (mkF m 367 #[.val (.int p1), .val (.int p2), .val (.int p3), .val (.int p4), .val (.int (p1 &&& (3 : Int32))), .val (.int v101), .val (.ref v102), .val (.ref y108), .val (.int v109), .val (.int v110), .val (.int (((p3.toUInt32 >>> ((2 : Int32) &&& 31).toUInt32).toInt32) &&& (3 : Int32))), .val (.int (((p3.toUInt32 >>> ((4 : Int32) &&& 31).toUInt32).toInt32) &&& (3 : Int32))), .val (.int (p4 &&& (3 : Int32))), .val (.int v111), .val (.ref v112), .val (.ref y118), .val (.ref b119), .val (.int (1 : Int32)), .unset] [(.int (1 : Int32))]))
            refine OwnEnd.go (fun _ k => XS.goto X237.here hx rfl (pc0 := 367) (pc' := 371) rfl (hb hby at_367) (by decide) (by decide) k) ?_
            show OwnEnd p e below s _ _ _ (T237.setTop (mkF m 371 #[.val (.int p1), .val (.int p2), .val (.int p3), .val (.int p4), .val (.int (p1 &&& (3 : Int32))), .val (.int v101), .val (.ref v102), .val (.ref y108), .val (.int v109), .val (.int v110), .val (.int (((p3.toUInt32 >>> ((2 : Int32) &&& 31).toUInt32).toInt32) &&& (3 : Int32))), .val (.int (((p3.toUInt32 >>> ((4 : Int32) &&& 31).toUInt32).toInt32) &&& (3 : Int32))), .val (.int (p4 &&& (3 : Int32))), .val (.int v111), .val (.ref v112), .val (.ref y118), .val (.ref b119), .val (.int (1 : Int32)), .unset] [(.int (1 : Int32))]))
            refine ownRetZ X237 hx hlk hret (hb hby at_371) (by decide) (by decide) (1 : Int32) (by decide) ?_
            show Q0 Z p1 p2 p3 p4 a_ATTRIBUTE a_TEXT a_COMMENT a_PROCESSING_INSTRUCTION a_NAMESPACE a_ELEMENT a_DOCUMENT h0 n0 _ T237.heap _
            rw [e237]
            exact ⟨rfl, N237⟩
          · refine OwnEnd.go (fun _ k => XS.ifNo X232.here hx rfl (hb hby at_236) rfl ((if0 _ _).trans (feq hc236).1) k) ?_
            show OwnEnd p e below s _ _ _ (T232.setTop (mkF m 239 #[.val (.int p1), .val (.int p2), .val (.int p3), .val (.int p4), .val (.int (p1 &&& (3 : Int32))), .val (.int v101), .val (.ref v102), .val (.ref y108), .val (.int v109), .val (.int v110), .val (.int (((p3.toUInt32 >>> ((2 : Int32) &&& 31).toUInt32).toInt32) &&& (3 : Int32))), .val (.int (((p3.toUInt32 >>> ((4 : Int32) &&& 31).toUInt32).toInt32) &&& (3 : Int32))), .val (.int (p4 &&& (3 : Int32))), .val (.int v111), .val (.ref v112), .val (.ref y118), .val (.ref b119), .unset, .unset] []))
            refine OwnEnd.go (fun _ k => XS.aload X232.here hx rfl (hb hby at_239) rfl rfl k) ?_
            show OwnEnd p e below s _ _ _ (T232.setTop (mkF m 241 #[.val (.int p1), .val (.int p2), .val (.int p3), .val (.int p4), .val (.int (p1 &&& (3 : Int32))), .val (.int v101), .val (.ref v102), .val (.ref y108), .val (.int v109), .val (.int v110), .val (.int (((p3.toUInt32 >>> ((2 : Int32) &&& 31).toUInt32).toInt32) &&& (3 : Int32))), .val (.int (((p3.toUInt32 >>> ((4 : Int32) &&& 31).toUInt32).toInt32) &&& (3 : Int32))), .val (.int (p4 &&& (3 : Int32))), .val (.int v111), .val (.ref v112), .val (.ref y118), .val (.ref b119), .unset, .unset] [(.ref b119)]))
            obtain ⟨T238, X238, e238, st238⟩ := getS2 X232 hx hZ hown (host := "") (Or.inl ww8) Via.refl (rfl : T232.heap = T232.heap) (S_ATTRIBUTE.ext O232.2) (g := (mkF m 241 #[.val (.int p1), .val (.int p2), .val (.int p3), .val (.int p4), .val (.int (p1 &&& (3 : Int32))), .val (.int v101), .val (.ref v102), .val (.ref y108), .val (.int v109), .val (.int v110), .val (.int (((p3.toUInt32 >>> ((2 : Int32) &&& 31).toUInt32).toInt32) &&& (3 : Int32))), .val (.int (((p3.toUInt32 >>> ((4 : Int32) &&& 31).toUInt32).toInt32) &&& (3 : Int32))), .val (.int (p4 &&& (3 : Int32))), .val (.int v111), .val (.ref v112), .val (.ref y118), .val (.ref b119), .unset, .unset] [(.ref b119)])) rfl (hb hby at_241)
            refine OwnEnd.go (fun _ k => st238 _ k) ?_
            show OwnEnd p e below s _ _ _ (T238.setTop (mkF m 244 #[.val (.int p1), .val (.int p2), .val (.int p3), .val (.int p4), .val (.int (p1 &&& (3 : Int32))), .val (.int v101), .val (.ref v102), .val (.ref y108), .val (.int v109), .val (.int v110), .val (.int (((p3.toUInt32 >>> ((2 : Int32) &&& 31).toUInt32).toInt32) &&& (3 : Int32))), .val (.int (((p3.toUInt32 >>> ((4 : Int32) &&& 31).toUInt32).toInt32) &&& (3 : Int32))), .val (.int (p4 &&& (3 : Int32))), .val (.int v111), .val (.ref v112), .val (.ref y118), .val (.ref b119), .unset, .unset] [(.ref a_ATTRIBUTE), (.ref b119)]))
            obtain ⟨_, T239, L239, X239, hQ239, st239⟩ := ownCallV X238 hx hZ hown ww33 ww34 ww36 ww35 ww14 ww37 (by decide) (rm5d2attr l Z a0 hw [] b119 a_ATTRIBUTE y134 y135 ((rc2 + (((p3.toUInt32 >>> ((4 : Int32) &&& 31).toUInt32).toInt32) &&& (3 : Int32))) + (1 : Int32)) ((0 : Int32) + (p1 &&& (3 : Int32))) (rc2 + (((p3.toUInt32 >>> ((4 : Int32) &&& 31).toUInt32).toInt32) &&& (3 : Int32))) (tt2 + (((p3.toUInt32 >>> ((2 : Int32) &&& 31).toUInt32).toInt32) &&& (3 : Int32))) (0 : Int32) (0 : Int32) (0 : Int32) (0 : Int32) a_ATTRIBUTE a_ELEMENT a_DOCUMENT T232.heap n0 Y232 O232 S_ATTRIBUTE S_ELEMENT S_DOCUMENT rfl n_ATTRIBUTE_ELEMENT n_ATTRIBUTE_DOCUMENT P233) e238 F234 0 (by decide) (by decide) (by decide) (by decide) (g := (mkF m 244 #[.val (.int p1), .val (.int p2), .val (.int p3), .val (.int p4), .val (.int (p1 &&& (3 : Int32))), .val (.int v101), .val (.ref v102), .val (.ref y108), .val (.int v109), .val (.int v110), .val (.int (((p3.toUInt32 >>> ((2 : Int32) &&& 31).toUInt32).toInt32) &&& (3 : Int32))), .val (.int (((p3.toUInt32 >>> ((4 : Int32) &&& 31).toUInt32).toInt32) &&& (3 : Int32))), .val (.int (p4 &&& (3 : Int32))), .val (.int v111), .val (.ref v112), .val (.ref y118), .val (.ref b119), .unset, .unset] [(.ref a_ATTRIBUTE), (.ref b119)])) rfl (by rw [hml]; rfl) (argsL := [(.ref a_ATTRIBUTE)]) (rest := []) (lenOf pd0_3 rfl) rfl rfl (by show 2 * 0 + _ ≤ _; exact Nat.le_of_eq rfl) (hb hby at_244)
            obtain ⟨rfl, N239q, K239q, P240⟩ := hQ239
            have N239 := Fr.app N232 N239q
            have F241 := F234.keep K239q
            have K239 := K232.trans K239q (allS (Or.inr v119) (allS (Or.inr (Nat.le_trans K119.1 P131)) (allS (Or.inr (Nat.le_trans K119.1 P132)) all0)))
            have Y239 := Nat.le_trans Y232 K239q.1
            have O239 := O232.keep K239q (allS u119 (allS P129 (allS P130 all0)))
            refine OwnEnd.go (fun _ k => st239 _ k) ?_
            show OwnEnd p e below s _ _ _ (T239.setTop (mkF m 247 #[.val (.int p1), .val (.int p2), .val (.int p3), .val (.int p4), .val (.int (p1 &&& (3 : Int32))), .val (.int v101), .val (.ref v102), .val (.ref y108), .val (.int v109), .val (.int v110), .val (.int (((p3.toUInt32 >>> ((2 : Int32) &&& 31).toUInt32).toInt32) &&& (3 : Int32))), .val (.int (((p3.toUInt32 >>> ((4 : Int32) &&& 31).toUInt32).toInt32) &&& (3 : Int32))), .val (.int (p4 &&& (3 : Int32))), .val (.int v111), .val (.ref v112), .val (.ref y118), .val (.ref b119), .unset, .unset] [(.int ((rc2 + (((p3.toUInt32 >>> ((4 : Int32) &&& 31).toUInt32).toInt32) &&& (3 : Int32))) + (1 : Int32)))]))
            refine OwnEnd.go (fun _ k => XS.pop X239.here hx rfl (hb hby at_247) rfl rfl k) ?_
            show OwnEnd p e below s _ _ _ (T239.setTop (mkF m 248 #[.val (.int p1), .val (.int p2), .val (.int p3), .val (.int p4), .val (.int (p1 &&& (3 : Int32))), .val (.int v101), .val (.ref v102), .val (.ref y108), .val (.int v109), .val (.int v110), .val (.int (((p3.toUInt32 >>> ((2 : Int32) &&& 31).toUInt32).toInt32) &&& (3 : Int32))), .val (.int (((p3.toUInt32 >>> ((4 : Int32) &&& 31).toUInt32).toInt32) &&& (3 : Int32))), .val (.int (p4 &&& (3 : Int32))), .val (.int v111), .val (.ref v112), .val (.ref y118), .val (.ref b119), .unset, .unset] []))
            refine OwnEnd.go (fun _ k => XS.iload X239.here hx rfl (hb hby at_248) rfl  k) ?_
            show OwnEnd p e below s _ _ _ (T239.setTop (mkF m 250 #[.val (.int p1), .val (.int p2), .val (.int p3), .val (.int p4), .val (.int (p1 &&& (3 : Int32))), .val (.int v101), .val (.ref v102), .val (.ref y108), .val (.int v109), .val (.int v110), .val (.int (((p3.toUInt32 >>> ((2 : Int32) &&& 31).toUInt32).toInt32) &&& (3 : Int32))), .val (.int (((p3.toUInt32 >>> ((4 : Int32) &&& 31).toUInt32).toInt32) &&& (3 : Int32))), .val (.int (p4 &&& (3 : Int32))), .val (.int v111), .val (.ref v112), .val (.ref y118), .val (.ref b119), .unset, .unset] [(.int (p4 &&& (3 : Int32)))]))
            refine OwnEnd.go (fun _ k => XS.iconst X239.here hx rfl (hb hby at_250) k) ?_
            show OwnEnd p e below s _ _ _ (T239.setTop (mkF m 251 #[.val (.int p1), .val (.int p2), .val (.int p3), .val (.int p4), .val (.int (p1 &&& (3 : Int32))), .val (.int v101), .val (.ref v102), .val (.ref y108), .val (.int v109), .val (.int v110), .val (.int (((p3.toUInt32 >>> ((2 : Int32) &&& 31).toUInt32).toInt32) &&& (3 : Int32))), .val (.int (((p3.toUInt32 >>> ((4 : Int32) &&& 31).toUInt32).toInt32) &&& (3 : Int32))), .val (.int (p4 &&& (3 : Int32))), .val (.int v111), .val (.ref v112), .val (.ref y118), .val (.ref b119), .unset, .unset] [(.int (2 : Int32)), (.int (p4 &&& (3 : Int32)))]))
            refine OwnEnd.go (fun _ k => XS.icmpYes X239.here hx rfl (pc0 := 251) (pc' := 276) rfl (hb hby at_251) rfl (feq (by rw [hc231]; decide : ¬ (p4 &&& (3 : Int32)) = (2 : Int32))).2 (by decide) (by decide) k) ?_
            show OwnEnd p e below s _ _ _ (T239.setTop (mkF m 276 #[.val (.int p1), .val (.int p2), .val (.int p3), .val (.int p4), .val (.int (p1 &&& (3 : Int32))), .val (.int v101), .val (.ref v102), .val (.ref y108), .val (.int v109), .val (.int v110), .val (.int (((p3.toUInt32 >>> ((2 : Int32) &&& 31).toUInt32).toInt32) &&& (3 : Int32))), .val (.int (((p3.toUInt32 >>> ((4 : Int32) &&& 31).toUInt32).toInt32) &&& (3 : Int32))), .val (.int (p4 &&& (3 : Int32))), .val (.int v111), .val (.ref v112), .val (.ref y118), .val (.ref b119), .unset, .unset] []))
            refine OwnEnd.go (fun _ k => XS.iload X239.here hx rfl (hb hby at_276) rfl  k) ?_
            show OwnEnd p e below s _ _ _ (T239.setTop (mkF m 278 #[.val (.int p1), .val (.int p2), .val (.int p3), .val (.int p4), .val (.int (p1 &&& (3 : Int32))), .val (.int v101), .val (.ref v102), .val (.ref y108), .val (.int v109), .val (.int v110), .val (.int (((p3.toUInt32 >>> ((2 : Int32) &&& 31).toUInt32).toInt32) &&& (3 : Int32))), .val (.int (((p3.toUInt32 >>> ((4 : Int32) &&& 31).toUInt32).toInt32) &&& (3 : Int32))), .val (.int (p4 &&& (3 : Int32))), .val (.int v111), .val (.ref v112), .val (.ref y118), .val (.ref b119), .unset, .unset] [(.int (p4 &&& (3 : Int32)))]))
            refine OwnEnd.go (fun _ k => XS.iconst X239.here hx rfl (hb hby at_278) k) ?_
            show OwnEnd p e below s _ _ _ (T239.setTop (mkF m 279 #[.val (.int p1), .val (.int p2), .val (.int p3), .val (.int p4), .val (.int (p1 &&& (3 : Int32))), .val (.int v101), .val (.ref v102), .val (.ref y108), .val (.int v109), .val (.int v110), .val (.int (((p3.toUInt32 >>> ((2 : Int32) &&& 31).toUInt32).toInt32) &&& (3 : Int32))), .val (.int (((p3.toUInt32 >>> ((4 : Int32) &&& 31).toUInt32).toInt32) &&& (3 : Int32))), .val (.int (p4 &&& (3 : Int32))), .val (.int v111), .val (.ref v112), .val (.ref y118), .val (.ref b119), .unset, .unset] [(.int (1 : Int32)), (.int (p4 &&& (3 : Int32)))]))
            refine OwnEnd.go (fun _ k => XS.icmpNo X239.here hx rfl (hb hby at_279) rfl (teq hc231).2 k) ?_
            show OwnEnd p e below s _ _ _ (T239.setTop (mkF m 282 #[.val (.int p1), .val (.int p2), .val (.int p3), .val (.int p4), .val (.int (p1 &&& (3 : Int32))), .val (.int v101), .val (.ref v102), .val (.ref y108), .val (.int v109), .val (.int v110), .val (.int (((p3.toUInt32 >>> ((2 : Int32) &&& 31).toUInt32).toInt32) &&& (3 : Int32))), .val (.int (((p3.toUInt32 >>> ((4 : Int32) &&& 31).toUInt32).toInt32) &&& (3 : Int32))), .val (.int (p4 &&& (3 : Int32))), .val (.int v111), .val (.ref v112), .val (.ref y118), .val (.ref b119), .unset, .unset] []))
            refine OwnEnd.go (fun _ k => XS.iconst X239.here hx rfl (hb hby at_282) k) ?_
            show OwnEnd p e below s _ _ _ (T239.setTop (mkF m 283 #[.val (.int p1), .val (.int p2), .val (.int p3), .val (.int p4), .val (.int (p1 &&& (3 : Int32))), .val (.int v101), .val (.ref v102), .val (.ref y108), .val (.int v109), .val (.int v110), .val (.int (((p3.toUInt32 >>> ((2 : Int32) &&& 31).toUInt32).toInt32) &&& (3 : Int32))), .val (.int (((p3.toUInt32 >>> ((4 : Int32) &&& 31).toUInt32).toInt32) &&& (3 : Int32))), .val (.int (p4 &&& (3 : Int32))), .val (.int v111), .val (.ref v112), .val (.ref y118), .val (.ref b119), .unset, .unset] [(.int (1 : Int32))]))
            refine OwnEnd.go (fun _ k => XS.istore X239.here hx rfl (hb hby at_283) rfl  (l' := #[.val (.int p1), .val (.int p2), .val (.int p3), .val (.int p4), .val (.int (p1 &&& (3 : Int32))), .val (.int v101), .val (.ref v102), .val (.ref y108), .val (.int v109), .val (.int v110), .val (.int (((p3.toUInt32 >>> ((2 : Int32) &&& 31).toUInt32).toInt32) &&& (3 : Int32))), .val (.int (((p3.toUInt32 >>> ((4 : Int32) &&& 31).toUInt32).toInt32) &&& (3 : Int32))), .val (.int (p4 &&& (3 : Int32))), .val (.int v111), .val (.ref v112), .val (.ref y118), .val (.ref b119), .val (.int (1 : Int32)), .unset]) rfl k) ?_
            show OwnEnd p e below s _ _ _ (T239.setTop (mkF m 285 #[.val (.int p1), .val (.int p2), .val (.int p3), .val (.int p4), .val (.int (p1 &&& (3 : Int32))), .val (.int v101), .val (.ref v102), .val (.ref y108), .val (.int v109), .val (.int v110), .val (.int (((p3.toUInt32 >>> ((2 : Int32) &&& 31).toUInt32).toInt32) &&& (3 : Int32))), .val (.int (((p3.toUInt32 >>> ((4 : Int32) &&& 31).toUInt32).toInt32) &&& (3 : Int32))), .val (.int (p4 &&& (3 : Int32))), .val (.int v111), .val (.ref v112), .val (.ref y118), .val (.ref b119), .val (.int (1 : Int32)), .unset] []))
            refine OwnEnd.go (fun _ k => XS.goto X239.here hx rfl (pc0 := 285) (pc' := 356) rfl (hb hby at_285) (by decide) (by decide) k) ?_
            show OwnEnd p e below s _ _ _ (T239.setTop (mkF m 356 #[.val (.int p1), .val (.int p2), .val (.int p3), .val (.int p4), .val (.int (p1 &&& (3 : Int32))), .val (.int v101), .val (.ref v102), .val (.ref y108), .val (.int v109), .val (.int v110), .val (.int (((p3.toUInt32 >>> ((2 : Int32) &&& 31).toUInt32).toInt32) &&& (3 : Int32))), .val (.int (((p3.toUInt32 >>> ((4 : Int32) &&& 31).toUInt32).toInt32) &&& (3 : Int32))), .val (.int (p4 &&& (3 : Int32))), .val (.int v111), .val (.ref v112), .val (.ref y118), .val (.ref b119), .val (.int (1 : Int32)), .unset] []))
            refine OwnEnd.go (fun _ k => XS.aload X239.here hx rfl (hb hby at_356) rfl rfl k) ?_
            show OwnEnd p e below s _ _ _ (T239.setTop (mkF m 358 #[.val (.int p1), .val (.int p2), .val (.int p3), .val (.int p4), .val (.int (p1 &&& (3 : Int32))), .val (.int v101), .val (.ref v102), .val (.ref y108), .val (.int v109), .val (.int v110), .val (.int (((p3.toUInt32 >>> ((2 : Int32) &&& 31).toUInt32).toInt32) &&& (3 : Int32))), .val (.int (((p3.toUInt32 >>> ((4 : Int32) &&& 31).toUInt32).toInt32) &&& (3 : Int32))), .val (.int (p4 &&& (3 : Int32))), .val (.int v111), .val (.ref v112), .val (.ref y118), .val (.ref b119), .val (.int (1 : Int32)), .unset] [(.ref b119)]))
            obtain ⟨_, T243, L243, X243, hQ243, st243⟩ := ownCallV X239 hx hZ hown ww55 ww56 ww58 ww57 ww14 ww59 (by decide) (rm8d2 l Z a0 hw [] b119 y134 y135 (((rc2 + (((p3.toUInt32 >>> ((4 : Int32) &&& 31).toUInt32).toInt32) &&& (3 : Int32))) + (1 : Int32)) + (1 : Int32)) ((0 : Int32) + (p1 &&& (3 : Int32))) (rc2 + (((p3.toUInt32 >>> ((4 : Int32) &&& 31).toUInt32).toInt32) &&& (3 : Int32))) (tt2 + (((p3.toUInt32 >>> ((2 : Int32) &&& 31).toUInt32).toInt32) &&& (3 : Int32))) ((0 : Int32) + (1 : Int32)) (0 : Int32) (0 : Int32) (0 : Int32) T239.heap n0 Y239  P240) (rfl : T239.heap = T239.heap) F241 0 (by decide) (by decide) (by decide) (by decide) (g := (mkF m 358 #[.val (.int p1), .val (.int p2), .val (.int p3), .val (.int p4), .val (.int (p1 &&& (3 : Int32))), .val (.int v101), .val (.ref v102), .val (.ref y108), .val (.int v109), .val (.int v110), .val (.int (((p3.toUInt32 >>> ((2 : Int32) &&& 31).toUInt32).toInt32) &&& (3 : Int32))), .val (.int (((p3.toUInt32 >>> ((4 : Int32) &&& 31).toUInt32).toInt32) &&& (3 : Int32))), .val (.int (p4 &&& (3 : Int32))), .val (.int v111), .val (.ref v112), .val (.ref y118), .val (.ref b119), .val (.int (1 : Int32)), .unset] [(.ref b119)])) rfl (by rw [hml]; rfl) (argsL := []) (rest := []) (lenOf pd0_4 rfl) rfl rfl (by show 2 * 0 + _ ≤ _; exact Nat.le_of_eq rfl) (hb hby at_358)
            obtain ⟨rfl, N243q, e243⟩ := hQ243
            have N243 := Fr.app N239 N243q
            refine OwnEnd.go (fun _ k => st243 _ k) ?_
            show OwnEnd p e below s _ _ _ (T243.setTop (mkF m 361 #[.val (.int p1), .val (.int p2), .val (.int p3), .val (.int p4), .val (.int (p1 &&& (3 : Int32))), .val (.int v101), .val (.ref v102), .val (.ref y108), .val (.int v109), .val (.int v110), .val (.int (((p3.toUInt32 >>> ((2 : Int32) &&& 31).toUInt32).toInt32) &&& (3 : Int32))), .val (.int (((p3.toUInt32 >>> ((4 : Int32) &&& 31).toUInt32).toInt32) &&& (3 : Int32))), .val (.int (p4 &&& (3 : Int32))), .val (.int v111), .val (.ref v112), .val (.ref y118), .val (.ref b119), .val (.int (1 : Int32)), .unset] [(.int (own_isat (((rc2 + (((p3.toUInt32 >>> ((4 : Int32) &&& 31).toUInt32).toInt32) &&& (3 : Int32))) + (1 : Int32)) + (1 : Int32)) (rc2 + (((p3.toUInt32 >>> ((4 : Int32) &&& 31).toUInt32).toInt32) &&& (3 : Int32))) ((0 : Int32) + (1 : Int32))))]))
            refine OwnEnd.go (fun _ k => XS.iload X243.here hx rfl (hb hby at_361) rfl  k) ?_
            show OwnEnd p e below s _ _ _ (T243.setTop (mkF m 363 #[.val (.int p1), .val (.int p2), .val (.int p3), .val (.int p4), .val (.int (p1 &&& (3 : Int32))), .val (.int v101), .val (.ref v102), .val (.ref y108), .val (.int v109), .val (.int v110), .val (.int (((p3.toUInt32 >>> ((2 : Int32) &&& 31).toUInt32).toInt32) &&& (3 : Int32))), .val (.int (((p3.toUInt32 >>> ((4 : Int32) &&& 31).toUInt32).toInt32) &&& (3 : Int32))), .val (.int (p4 &&& (3 : Int32))), .val (.int v111), .val (.ref v112), .val (.ref y118), .val (.ref b119), .val (.int (1 : Int32)), .unset] [(.int (1 : Int32)), (.int (own_isat (((rc2 + (((p3.toUInt32 >>> ((4 : Int32) &&& 31).toUInt32).toInt32) &&& (3 : Int32))) + (1 : Int32)) + (1 : Int32)) (rc2 + (((p3.toUInt32 >>> ((4 : Int32) &&& 31).toUInt32).toInt32) &&& (3 : Int32))) ((0 : Int32) + (1 : Int32))))]))
            refine OwnEnd.go (fun _ k => XS.icmpNo X243.here hx rfl (hb hby at_363) rfl (teq (own_isat_t (own_h1 (own_h0 _)))).2 k) ?_
            show OwnEnd p e below s _ _ _ (T243.setTop (mkF m 366 #[.val (.int p1), .val (.int p2), .val (.int p3), .val (.int p4), .val (.int (p1 &&& (3 : Int32))), .val (.int v101), .val (.ref v102), .val (.ref y108), .val (.int v109), .val (.int v110), .val (.int (((p3.toUInt32 >>> ((2 : Int32) &&& 31).toUInt32).toInt32) &&& (3 : Int32))), .val (.int (((p3.toUInt32 >>> ((4 : Int32) &&& 31).toUInt32).toInt32) &&& (3 : Int32))), .val (.int (p4 &&& (3 : Int32))), .val (.int v111), .val (.ref v112), .val (.ref y118), .val (.ref b119), .val (.int (1 : Int32)), .unset] []))
            refine OwnEnd.go (fun _ k => XS.iconst X243.here hx rfl (hb hby at_366) k) ?_
            show OwnEnd p e below s _ _ _ (T243.setTop (mkF m 367 #[.val (.int p1), .val (.int p2), .val (.int p3), .val (.int p4), .val (.int (p1 &&& (3 : Int32))), .val (.int v101), .val (.ref v102), .val (.ref y108), .val (.int v109), .val (.int v110), .val (.int (((p3.toUInt32 >>> ((2 : Int32) &&& 31).toUInt32).toInt32) &&& (3 : Int32))), .val (.int (((p3.toUInt32 >>> ((4 : Int32) &&& 31).toUInt32).toInt32) &&& (3 : Int32))), .val (.int (p4 &&& (3 : Int32))), .val (.int v111), .val (.ref v112), .val (.ref y118), .val (.ref b119), .val (.int (1 : Int32)), .unset] [(.int (1 : Int32))]))
            refine OwnEnd.go (fun _ k => XS.goto X243.here hx rfl (pc0 := 367) (pc' := 371) rfl (hb hby at_367) (by decide) (by decide) k) ?_
            show OwnEnd p e below s _ _ _ (T243.setTop (mkF m 371 #[.val (.int p1), .val (.int p2), .val (.int p3), .val (.int p4), .val (.int (p1 &&& (3 : Int32))), .val (.int v101), .val (.ref v102), .val (.ref y108), .val (.int v109), .val (.int v110), .val (.int (((p3.toUInt32 >>> ((2 : Int32) &&& 31).toUInt32).toInt32) &&& (3 : Int32))), .val (.int (((p3.toUInt32 >>> ((4 : Int32) &&& 31).toUInt32).toInt32) &&& (3 : Int32))), .val (.int (p4 &&& (3 : Int32))), .val (.int v111), .val (.ref v112), .val (.ref y118), .val (.ref b119), .val (.int (1 : Int32)), .unset] [(.int (1 : Int32))]))
            refine ownRetZ X243 hx hlk hret (hb hby at_371) (by decide) (by decide) (1 : Int32) (by decide) ?_
            show Q0 Z p1 p2 p3 p4 a_ATTRIBUTE a_TEXT a_COMMENT a_PROCESSING_INSTRUCTION a_NAMESPACE a_ELEMENT a_DOCUMENT h0 n0 _ T243.heap _
            rw [e243]
            exact ⟨rfl, N243⟩
        · refine OwnEnd.go (fun _ k => XS.icmpNo X227.here hx rfl (hb hby at_217) rfl (feq hc231).1 k) ?_
          show OwnEnd p e below s _ _ _ (T227.setTop (mkF m 220 #[.val (.int p1), .val (.int p2), .val (.int p3), .val (.int p4), .val (.int (p1 &&& (3 : Int32))), .val (.int v101), .val (.ref v102), .val (.ref y108), .val (.int v109), .val (.int v110), .val (.int (((p3.toUInt32 >>> ((2 : Int32) &&& 31).toUInt32).toInt32) &&& (3 : Int32))), .val (.int (((p3.toUInt32 >>> ((4 : Int32) &&& 31).toUInt32).toInt32) &&& (3 : Int32))), .val (.int (p4 &&& (3 : Int32))), .val (.int v111), .val (.ref v112), .val (.ref y118), .val (.ref b119), .unset, .unset] []))
          refine OwnEnd.go (fun _ k => XS.iload X227.here hx rfl (hb hby at_220) rfl  k) ?_
          show OwnEnd p e below s _ _ _ (T227.setTop (mkF m 222 #[.val (.int p1), .val (.int p2), .val (.int p3), .val (.int p4), .val (.int (p1 &&& (3 : Int32))), .val (.int v101), .val (.ref v102), .val (.ref y108), .val (.int v109), .val (.int v110), .val (.int (((p3.toUInt32 >>> ((2 : Int32) &&& 31).toUInt32).toInt32) &&& (3 : Int32))), .val (.int (((p3.toUInt32 >>> ((4 : Int32) &&& 31).toUInt32).toInt32) &&& (3 : Int32))), .val (.int (p4 &&& (3 : Int32))), .val (.int v111), .val (.ref v112), .val (.ref y118), .val (.ref b119), .unset, .unset] [(.int (p4 &&& (3 : Int32)))]))
          refine OwnEnd.go (fun _ k => XS.iconst X227.here hx rfl (hb hby at_222) k) ?_
          show OwnEnd p e below s _ _ _ (T227.setTop (mkF m 223 #[.val (.int p1), .val (.int p2), .val (.int p3), .val (.int p4), .val (.int (p1 &&& (3 : Int32))), .val (.int v101), .val (.ref v102), .val (.ref y108), .val (.int v109), .val (.int v110), .val (.int (((p3.toUInt32 >>> ((2 : Int32) &&& 31).toUInt32).toInt32) &&& (3 : Int32))), .val (.int (((p3.toUInt32 >>> ((4 : Int32) &&& 31).toUInt32).toInt32) &&& (3 : Int32))), .val (.int (p4 &&& (3 : Int32))), .val (.int v111), .val (.ref v112), .val (.ref y118), .val (.ref b119), .unset, .unset] [(.int (2 : Int32)), (.int (p4 &&& (3 : Int32)))]))
          by_cases hc244 : (p4 &&& (3 : Int32)) = (2 : Int32)
          · refine OwnEnd.go (fun _ k => XS.icmpNo X227.here hx rfl (hb hby at_223) rfl (teq hc244).2 k) ?_
            show OwnEnd p e below s _ _ _ (T227.setTop (mkF m 226 #[.val (.int p1), .val (.int p2), .val (.int p3), .val (.int p4), .val (.int (p1 &&& (3 : Int32))), .val (.int v101), .val (.ref v102), .val (.ref y108), .val (.int v109), .val (.int v110), .val (.int (((p3.toUInt32 >>> ((2 : Int32) &&& 31).toUInt32).toInt32) &&& (3 : Int32))), .val (.int (((p3.toUInt32 >>> ((4 : Int32) &&& 31).toUInt32).toInt32) &&& (3 : Int32))), .val (.int (p4 &&& (3 : Int32))), .val (.int v111), .val (.ref v112), .val (.ref y118), .val (.ref b119), .unset, .unset] []))
            refine OwnEnd.go (fun _ k => XS.aload X227.here hx rfl (hb hby at_226) rfl rfl k) ?_
            show OwnEnd p e below s _ _ _ (T227.setTop (mkF m 228 #[.val (.int p1), .val (.int p2), .val (.int p3), .val (.int p4), .val (.int (p1 &&& (3 : Int32))), .val (.int v101), .val (.ref v102), .val (.ref y108), .val (.int v109), .val (.int v110), .val (.int (((p3.toUInt32 >>> ((2 : Int32) &&& 31).toUInt32).toInt32) &&& (3 : Int32))), .val (.int (((p3.toUInt32 >>> ((4 : Int32) &&& 31).toUInt32).toInt32) &&& (3 : Int32))), .val (.int (p4 &&& (3 : Int32))), .val (.int v111), .val (.ref v112), .val (.ref y118), .val (.ref b119), .unset, .unset] [(.ref b119)]))
            refine OwnEnd.go (fun _ k => XS.aload X227.here hx rfl (hb hby at_228) rfl rfl k) ?_
            show OwnEnd p e below s _ _ _ (T227.setTop (mkF m 230 #[.val (.int p1), .val (.int p2), .val (.int p3), .val (.int p4), .val (.int (p1 &&& (3 : Int32))), .val (.int v101), .val (.ref v102), .val (.ref y108), .val (.int v109), .val (.int v110), .val (.int (((p3.toUInt32 >>> ((2 : Int32) &&& 31).toUInt32).toInt32) &&& (3 : Int32))), .val (.int (((p3.toUInt32 >>> ((4 : Int32) &&& 31).toUInt32).toInt32) &&& (3 : Int32))), .val (.int (p4 &&& (3 : Int32))), .val (.int v111), .val (.ref v112), .val (.ref y118), .val (.ref b119), .unset, .unset] [(.ref v112), (.ref b119)]))
            obtain ⟨_, T245, L245, X245, hQ245, st245⟩ := ownCallV X227 hx hZ hown ww33 ww34 ww36 ww35 ww14 ww37 (by decide) (rm5d1open l Z a0 hw [] b119 v112 y134 y135 (rc2 + (((p3.toUInt32 >>> ((4 : Int32) &&& 31).toUInt32).toInt32) &&& (3 : Int32))) ((0 : Int32) + (p1 &&& (3 : Int32))) (0 : Int32) (tt2 + (((p3.toUInt32 >>> ((2 : Int32) &&& 31).toUInt32).toInt32) &&& (3 : Int32))) (0 : Int32) (0 : Int32) (0 : Int32) (0 : Int32) a_ATTRIBUTE a_ELEMENT a_DOCUMENT T227.heap n0 Y227 O227 S_ATTRIBUTE S_ELEMENT S_DOCUMENT nk112 P112 P228) (rfl : T227.heap = T227.heap) F229 0 (by decide) (by decide) (by decide) (by decide) (g := (mkF m 230 #[.val (.int p1), .val (.int p2), .val (.int p3), .val (.int p4), .val (.int (p1 &&& (3 : Int32))), .val (.int v101), .val (.ref v102), .val (.ref y108), .val (.int v109), .val (.int v110), .val (.int (((p3.toUInt32 >>> ((2 : Int32) &&& 31).toUInt32).toInt32) &&& (3 : Int32))), .val (.int (((p3.toUInt32 >>> ((4 : Int32) &&& 31).toUInt32).toInt32) &&& (3 : Int32))), .val (.int (p4 &&& (3 : Int32))), .val (.int v111), .val (.ref v112), .val (.ref y118), .val (.ref b119), .unset, .unset] [(.ref v112), (.ref b119)])) rfl (by rw [hml]; rfl) (argsL := [(.ref v112)]) (rest := []) (lenOf pd0_3 rfl) rfl rfl (by show 2 * 0 + _ ≤ _; exact Nat.le_of_eq rfl) (hb hby at_230)
            obtain ⟨rfl, N245q, K245q, P246⟩ := hQ245
            have N245 := Fr.app N227 N245q
            have F247 := F229.keep K245q
            have K245 := K227.trans K245q (allS (Or.inr v119) (allS (Or.inr (Nat.le_trans K119.1 P131)) (allS (Or.inr (Nat.le_trans K119.1 P132)) all0)))
            have Y245 := Nat.le_trans Y227 K245q.1
            have O245 := O227.keep K245q (allS u119 (allS P129 (allS P130 all0)))
            refine OwnEnd.go (fun _ k => st245 _ k) ?_
            show OwnEnd p e below s _ _ _ (T245.setTop (mkF m 233 #[.val (.int p1), .val (.int p2), .val (.int p3), .val (.int p4), .val (.int (p1 &&& (3 : Int32))), .val (.int v101), .val (.ref v102), .val (.ref y108), .val (.int v109), .val (.int v110), .val (.int (((p3.toUInt32 >>> ((2 : Int32) &&& 31).toUInt32).toInt32) &&& (3 : Int32))), .val (.int (((p3.toUInt32 >>> ((4 : Int32) &&& 31).toUInt32).toInt32) &&& (3 : Int32))), .val (.int (p4 &&& (3 : Int32))), .val (.int v111), .val (.ref v112), .val (.ref y118), .val (.ref b119), .unset, .unset] [(.int (rc2 + (((p3.toUInt32 >>> ((4 : Int32) &&& 31).toUInt32).toInt32) &&& (3 : Int32))))]))
            refine OwnEnd.go (fun _ k => XS.pop X245.here hx rfl (hb hby at_233) rfl rfl k) ?_
            show OwnEnd p e below s _ _ _ (T245.setTop (mkF m 234 #[.val (.int p1), .val (.int p2), .val (.int p3), .val (.int p4), .val (.int (p1 &&& (3 : Int32))), .val (.int v101), .val (.ref v102), .val (.ref y108), .val (.int v109), .val (.int v110), .val (.int (((p3.toUInt32 >>> ((2 : Int32) &&& 31).toUInt32).toInt32) &&& (3 : Int32))), .val (.int (((p3.toUInt32 >>> ((4 : Int32) &&& 31).toUInt32).toInt32) &&& (3 : Int32))), .val (.int (p4 &&& (3 : Int32))), .val (.int v111), .val (.ref v112), .val (.ref y118), .val (.ref b119), .unset, .unset] []))
            refine OwnEnd.go (fun _ k => XS.iload X245.here hx rfl (hb hby at_234) rfl  k) ?_
            show OwnEnd p e below s _ _ _ (T245.setTop (mkF m 236 #[.val (.int p1), .val (.int p2), .val (.int p3), .val (.int p4), .val (.int (p1 &&& (3 : Int32))), .val (.int v101), .val (.ref v102), .val (.ref y108), .val (.int v109), .val (.int v110), .val (.int (((p3.toUInt32 >>> ((2 : Int32) &&& 31).toUInt32).toInt32) &&& (3 : Int32))), .val (.int (((p3.toUInt32 >>> ((4 : Int32) &&& 31).toUInt32).toInt32) &&& (3 : Int32))), .val (.int (p4 &&& (3 : Int32))), .val (.int v111), .val (.ref v112), .val (.ref y118), .val (.ref b119), .unset, .unset] [(.int v111)]))
            by_cases hc249 : v111 = (0 : Int32)
            · refine OwnEnd.go (fun _ k => XS.ifYes X245.here hx rfl (pc0 := 236) (pc' := 248) rfl (hb hby at_236) rfl ((if0 _ _).trans (teq hc249).1) (by decide) (by decide) k) ?_
              show OwnEnd p e below s _ _ _ (T245.setTop (mkF m 248 #[.val (.int p1), .val (.int p2), .val (.int p3), .val (.int p4), .val (.int (p1 &&& (3 : Int32))), .val (.int v101), .val (.ref v102), .val (.ref y108), .val (.int v109), .val (.int v110), .val (.int (((p3.toUInt32 >>> ((2 : Int32) &&& 31).toUInt32).toInt32) &&& (3 : Int32))), .val (.int (((p3.toUInt32 >>> ((4 : Int32) &&& 31).toUInt32).toInt32) &&& (3 : Int32))), .val (.int (p4 &&& (3 : Int32))), .val (.int v111), .val (.ref v112), .val (.ref y118), .val (.ref b119), .unset, .unset] []))
              refine OwnEnd.go (fun _ k => XS.iload X245.here hx rfl (hb hby at_248) rfl  k) ?_
              show OwnEnd p e below s _ _ _ (T245.setTop (mkF m 250 #[.val (.int p1), .val (.int p2), .val (.int p3), .val (.int p4), .val (.int (p1 &&& (3 : Int32))), .val (.int v101), .val (.ref v102), .val (.ref y108), .val (.int v109), .val (.int v110), .val (.int (((p3.toUInt32 >>> ((2 : Int32) &&& 31).toUInt32).toInt32) &&& (3 : Int32))), .val (.int (((p3.toUInt32 >>> ((4 : Int32) &&& 31).toUInt32).toInt32) &&& (3 : Int32))), .val (.int (p4 &&& (3 : Int32))), .val (.int v111), .val (.ref v112), .val (.ref y118), .val (.ref b119), .unset, .unset] [(.int (p4 &&& (3 : Int32)))]))
              refine OwnEnd.go (fun _ k => XS.iconst X245.here hx rfl (hb hby at_250) k) ?_
              show OwnEnd p e below s _ _ _ (T245.setTop (mkF m 251 #[.val (.int p1), .val (.int p2), .val (.int p3), .val (.int p4), .val (.int (p1 &&& (3 : Int32))), .val (.int v101), .val (.ref v102), .val (.ref y108), .val (.int v109), .val (.int v110), .val (.int (((p3.toUInt32 >>> ((2 : Int32) &&& 31).toUInt32).toInt32) &&& (3 : Int32))), .val (.int (((p3.toUInt32 >>> ((4 : Int32) &&& 31).toUInt32).toInt32) &&& (3 : Int32))), .val (.int (p4 &&& (3 : Int32))), .val (.int v111), .val (.ref v112), .val (.ref y118), .val (.ref b119), .unset, .unset] [(.int (2 : Int32)), (.int (p4 &&& (3 : Int32)))]))
              refine OwnEnd.go (fun _ k => XS.icmpNo X245.here hx rfl (hb hby at_251) rfl (teq hc244).2 k) ?_
              show OwnEnd p e below s _ _ _ (T245.setTop (mkF m 254 #[.val (.int p1), .val (.int p2), .val (.int p3), .val (.int p4), .val (.int (p1 &&& (3 : Int32))), .val (.int v101), .val (.ref v102), .val (.ref y108), .val (.int v109), .val (.int v110), .val (.int (((p3.toUInt32 >>> ((2 : Int32) &&& 31).toUInt32).toInt32) &&& (3 : Int32))), .val (.int (((p3.toUInt32 >>> ((4 : Int32) &&& 31).toUInt32).toInt32) &&& (3 : Int32))), .val (.int (p4 &&& (3 : Int32))), .val (.int v111), .val (.ref v112), .val (.ref y118), .val (.ref b119), .unset, .unset] []))
              refine OwnEnd.go (fun _ k => XS.aload X245.here hx rfl (hb hby at_254) rfl rfl k) ?_
              show OwnEnd p e below s _ _ _ (T245.setTop (mkF m 256 #[.val (.int p1), .val (.int p2), .val (.int p3), .val (.int p4), .val (.int (p1 &&& (3 : Int32))), .val (.int v101), .val (.ref v102), .val (.ref y108), .val (.int v109), .val (.int v110), .val (.int (((p3.toUInt32 >>> ((2 : Int32) &&& 31).toUInt32).toInt32) &&& (3 : Int32))), .val (.int (((p3.toUInt32 >>> ((4 : Int32) &&& 31).toUInt32).toInt32) &&& (3 : Int32))), .val (.int (p4 &&& (3 : Int32))), .val (.int v111), .val (.ref v112), .val (.ref y118), .val (.ref b119), .unset, .unset] [(.ref b119)]))
              obtain ⟨_, T250, L250, X250, hQ250, st250⟩ := ownCallV X245 hx hZ hown ww60 ww61 ww63 ww62 ww14 ww64 (by decide) (rm9d2 l Z a0 hw [] b119 y134 y135 ((rc2 + (((p3.toUInt32 >>> ((4 : Int32) &&& 31).toUInt32).toInt32) &&& (3 : Int32))) + (1 : Int32)) ((0 : Int32) + (p1 &&& (3 : Int32))) (rc2 + (((p3.toUInt32 >>> ((4 : Int32) &&& 31).toUInt32).toInt32) &&& (3 : Int32))) (tt2 + (((p3.toUInt32 >>> ((2 : Int32) &&& 31).toUInt32).toInt32) &&& (3 : Int32))) (0 : Int32) (0 : Int32) (0 : Int32) (0 : Int32) T245.heap n0 Y245  P246) (rfl : T245.heap = T245.heap) F247 0 (by decide) (by decide) (by decide) (by decide) (g := (mkF m 256 #[.val (.int p1), .val (.int p2), .val (.int p3), .val (.int p4), .val (.int (p1 &&& (3 : Int32))), .val (.int v101), .val (.ref v102), .val (.ref y108), .val (.int v109), .val (.int v110), .val (.int (((p3.toUInt32 >>> ((2 : Int32) &&& 31).toUInt32).toInt32) &&& (3 : Int32))), .val (.int (((p3.toUInt32 >>> ((4 : Int32) &&& 31).toUInt32).toInt32) &&& (3 : Int32))), .val (.int (p4 &&& (3 : Int32))), .val (.int v111), .val (.ref v112), .val (.ref y118), .val (.ref b119), .unset, .unset] [(.ref b119)])) rfl (by rw [hml]; rfl) (argsL := []) (rest := []) (lenOf pd0_1 rfl) rfl rfl (by show 2 * 0 + _ ≤ _; exact Nat.le_of_eq rfl) (hb hby at_256)
              obtain ⟨rfl, N250q, K250q, P251⟩ := hQ250
              have N250 := Fr.app N245 N250q
              have F252 := F247.keep K250q
              have K250 := K245.trans K250q (allS (Or.inr v119) (allS (Or.inr (Nat.le_trans K119.1 P131)) (allS (Or.inr (Nat.le_trans K119.1 P132)) all0)))
              have Y250 := Nat.le_trans Y245 K250q.1
              have O250 := O245.keep K250q (allS u119 (allS P129 (allS P130 all0)))
              refine OwnEnd.go (fun _ k => st250 _ k) ?_
              show OwnEnd p e below s _ _ _ (T250.setTop (mkF m 259 #[.val (.int p1), .val (.int p2), .val (.int p3), .val (.int p4), .val (.int (p1 &&& (3 : Int32))), .val (.int v101), .val (.ref v102), .val (.ref y108), .val (.int v109), .val (.int v110), .val (.int (((p3.toUInt32 >>> ((2 : Int32) &&& 31).toUInt32).toInt32) &&& (3 : Int32))), .val (.int (((p3.toUInt32 >>> ((4 : Int32) &&& 31).toUInt32).toInt32) &&& (3 : Int32))), .val (.int (p4 &&& (3 : Int32))), .val (.int v111), .val (.ref v112), .val (.ref y118), .val (.ref b119), .unset, .unset] []))
              refine OwnEnd.go (fun _ k => XS.goto X250.here hx rfl (pc0 := 259) (pc' := 276) rfl (hb hby at_259) (by decide) (by decide) k) ?_
              show OwnEnd p e below s _ _ _ (T250.setTop (mkF m 276 #[.val (.int p1), .val (.int p2), .val (.int p3), .val (.int p4), .val (.int (p1 &&& (3 : Int32))), .val (.int v101), .val (.ref v102), .val (.ref y108), .val (.int v109), .val (.int v110), .val (.int (((p3.toUInt32 >>> ((2 : Int32) &&& 31).toUInt32).toInt32) &&& (3 : Int32))), .val (.int (((p3.toUInt32 >>> ((4 : Int32) &&& 31).toUInt32).toInt32) &&& (3 : Int32))), .val (.int (p4 &&& (3 : Int32))), .val (.int v111), .val (.ref v112), .val (.ref y118), .val (.ref b119), .unset, .unset] []))
              refine OwnEnd.go (fun _ k => XS.iload X250.here hx rfl (hb hby at_276) rfl  k) ?_
              show OwnEnd p e below s _ _ _ (T250.setTop (mkF m 278 #[.val (.int p1), .val (.int p2), .val (.int p3), .val (.int p4), .val (.int (p1 &&& (3 : Int32))), .val (.int v101), .val (.ref v102), .val (.ref y108), .val (.int v109), .val (.int v110), .val (.int (((p3.toUInt32 >>> ((2 : Int32) &&& 31).toUInt32).toInt32) &&& (3 : Int32))), .val (.int (((p3.toUInt32 >>> ((4 : Int32) &&& 31).toUInt32).toInt32) &&& (3 : Int32))), .val (.int (p4 &&& (3 : Int32))), .val (.int v111), .val (.ref v112), .val (.ref y118), .val (.ref b119), .unset, .unset] [(.int (p4 &&& (3 : Int32)))]))
              refine OwnEnd.go (fun _ k => XS.iconst X250.here hx rfl (hb hby at_278) k) ?_
              show OwnEnd p e below s _ _ _ (T250.setTop (mkF m 279 #[.val (.int p1), .val (.int p2), .val (.int p3), .val (.int p4), .val (.int (p1 &&& (3 : Int32))), .val (.int v101), .val (.ref v102), .val (.ref y108), .val (.int v109), .val (.int v110), .val (.int (((p3.toUInt32 >>> ((2 : Int32) &&& 31).toUInt32).toInt32) &&& (3 : Int32))), .val (.int (((p3.toUInt32 >>> ((4 : Int32) &&& 31).toUInt32).toInt32) &&& (3 : Int32))), .val (.int (p4 &&& (3 : Int32))), .val (.int v111), .val (.ref v112), .val (.ref y118), .val (.ref b119), .unset, .unset] [(.int (1 : Int32)), (.int (p4 &&& (3 : Int32)))]))
              refine OwnEnd.go (fun _ k => XS.icmpYes X250.here hx rfl (pc0 := 279) (pc' := 288) rfl (hb hby at_279) rfl (feq (by rw [hc244]; decide : ¬ (p4 &&& (3 : Int32)) = (1 : Int32))).2 (by decide) (by decide) k) ?_
              show OwnEnd p e below s _ _ _ (T250.setTop (mkF m 288 #[.val (.int p1), .val (.int p2), .val (.int p3), .val (.int p4), .val (.int (p1 &&& (3 : Int32))), .val (.int v101), .val (.ref v102), .val (.ref y108), .val (.int v109), .val (.int v110), .val (.int (((p3.toUInt32 >>> ((2 : Int32) &&& 31).toUInt32).toInt32) &&& (3 : Int32))), .val (.int (((p3.toUInt32 >>> ((4 : Int32) &&& 31).toUInt32).toInt32) &&& (3 : Int32))), .val (.int (p4 &&& (3 : Int32))), .val (.int v111), .val (.ref v112), .val (.ref y118), .val (.ref b119), .unset, .unset] []))
              refine OwnEnd.go (fun _ k => XS.iload X250.here hx rfl (hb hby at_288) rfl  k) ?_
              show OwnEnd p e below s _ _ _ (T250.setTop (mkF m 290 #[.val (.int p1), .val (.int p2), .val (.int p3), .val (.int p4), .val (.int (p1 &&& (3 : Int32))), .val (.int v101), .val (.ref v102), .val (.ref y108), .val (.int v109), .val (.int v110), .val (.int (((p3.toUInt32 >>> ((2 : Int32) &&& 31).toUInt32).toInt32) &&& (3 : Int32))), .val (.int (((p3.toUInt32 >>> ((4 : Int32) &&& 31).toUInt32).toInt32) &&& (3 : Int32))), .val (.int (p4 &&& (3 : Int32))), .val (.int v111), .val (.ref v112), .val (.ref y118), .val (.ref b119), .unset, .unset] [(.int v101)]))
              refine OwnEnd.go (fun _ k => XS.ifYes X250.here hx rfl (pc0 := 290) (pc' := 299) rfl (hb hby at_290) rfl ((if0 _ _).trans (feq hc149).2) (by decide) (by decide) k) ?_
              show OwnEnd p e below s _ _ _ (T250.setTop (mkF m 299 #[.val (.int p1), .val (.int p2), .val (.int p3), .val (.int p4), .val (.int (p1 &&& (3 : Int32))), .val (.int v101), .val (.ref v102), .val (.ref y108), .val (.int v109), .val (.int v110), .val (.int (((p3.toUInt32 >>> ((2 : Int32) &&& 31).toUInt32).toInt32) &&& (3 : Int32))), .val (.int (((p3.toUInt32 >>> ((4 : Int32) &&& 31).toUInt32).toInt32) &&& (3 : Int32))), .val (.int (p4 &&& (3 : Int32))), .val (.int v111), .val (.ref v112), .val (.ref y118), .val (.ref b119), .unset, .unset] []))
              refine OwnEnd.go (fun _ k => XS.iload X250.here hx rfl (hb hby at_299) rfl  k) ?_
              show OwnEnd p e below s _ _ _ (T250.setTop (mkF m 301 #[.val (.int p1), .val (.int p2), .val (.int p3), .val (.int p4), .val (.int (p1 &&& (3 : Int32))), .val (.int v101), .val (.ref v102), .val (.ref y108), .val (.int v109), .val (.int v110), .val (.int (((p3.toUInt32 >>> ((2 : Int32) &&& 31).toUInt32).toInt32) &&& (3 : Int32))), .val (.int (((p3.toUInt32 >>> ((4 : Int32) &&& 31).toUInt32).toInt32) &&& (3 : Int32))), .val (.int (p4 &&& (3 : Int32))), .val (.int v111), .val (.ref v112), .val (.ref y118), .val (.ref b119), .unset, .unset] [(.int (((p3.toUInt32 >>> ((4 : Int32) &&& 31).toUInt32).toInt32) &&& (3 : Int32)))]))
              refine OwnEnd.go (fun _ k => XS.iload X250.here hx rfl (hb hby at_301) rfl  k) ?_
              show OwnEnd p e below s _ _ _ (T250.setTop (mkF m 303 #[.val (.int p1), .val (.int p2), .val (.int p3), .val (.int p4), .val (.int (p1 &&& (3 : Int32))), .val (.int v101), .val (.ref v102), .val (.ref y108), .val (.int v109), .val (.int v110), .val (.int (((p3.toUInt32 >>> ((2 : Int32) &&& 31).toUInt32).toInt32) &&& (3 : Int32))), .val (.int (((p3.toUInt32 >>> ((4 : Int32) &&& 31).toUInt32).toInt32) &&& (3 : Int32))), .val (.int (p4 &&& (3 : Int32))), .val (.int v111), .val (.ref v112), .val (.ref y118), .val (.ref b119), .unset, .unset] [(.int (((p3.toUInt32 >>> ((2 : Int32) &&& 31).toUInt32).toInt32) &&& (3 : Int32))), (.int (((p3.toUInt32 >>> ((4 : Int32) &&& 31).toUInt32).toInt32) &&& (3 : Int32)))]))
              refine OwnEnd.go (fun _ k => XS.isub X250.here hx rfl (hb hby at_303) rfl k) ?_
              show OwnEnd p e below s _ _ _ (T250.setTop (mkF m 304 #[.val (.int p1), .val (.int p2), .val (.int p3), .val (.int p4), .val (.int (p1 &&& (3 : Int32))), .val (.int v101), .val (.ref v102), .val (.ref y108), .val (.int v109), .val (.int v110), .val (.int (((p3.toUInt32 >>> ((2 : Int32) &&& 31).toUInt32).toInt32) &&& (3 : Int32))), .val (.int (((p3.toUInt32 >>> ((4 : Int32) &&& 31).toUInt32).toInt32) &&& (3 : Int32))), .val (.int (p4 &&& (3 : Int32))), .val (.int v111), .val (.ref v112), .val (.ref y118), .val (.ref b119), .unset, .unset] [(.int ((((p3.toUInt32 >>> ((4 : Int32) &&& 31).toUInt32).toInt32) &&& (3 : Int32)) - (((p3.toUInt32 >>> ((2 : Int32) &&& 31).toUInt32).toInt32) &&& (3 : Int32))))]))
              refine OwnEnd.go (fun _ k => XS.istore X250.here hx rfl (hb hby at_304) rfl  (l' := #[.val (.int p1), .val (.int p2), .val (.int p3), .val (.int p4), .val (.int (p1 &&& (3 : Int32))), .val (.int v101), .val (.ref v102), .val (.ref y108), .val (.int v109), .val (.int v110), .val (.int (((p3.toUInt32 >>> ((2 : Int32) &&& 31).toUInt32).toInt32) &&& (3 : Int32))), .val (.int (((p3.toUInt32 >>> ((4 : Int32) &&& 31).toUInt32).toInt32) &&& (3 : Int32))), .val (.int (p4 &&& (3 : Int32))), .val (.int v111), .val (.ref v112), .val (.ref y118), .val (.ref b119), .unset, .val (.int ((((p3.toUInt32 >>> ((4 : Int32) &&& 31).toUInt32).toInt32) &&& (3 : Int32)) - (((p3.toUInt32 >>> ((2 : Int32) &&& 31).toUInt32).toInt32) &&& (3 : Int32))))]) rfl k) ?_
              show OwnEnd p e below s _ _ _ (T250.setTop (mkF m 306 #[.val (.int p1), .val (.int p2), .val (.int p3), .val (.int p4), .val (.int (p1 &&& (3 : Int32))), .val (.int v101), .val (.ref v102), .val (.ref y108), .val (.int v109), .val (.int v110), .val (.int (((p3.toUInt32 >>> ((2 : Int32) &&& 31).toUInt32).toInt32) &&& (3 : Int32))), .val (.int (((p3.toUInt32 >>> ((4 : Int32) &&& 31).toUInt32).toInt32) &&& (3 : Int32))), .val (.int (p4 &&& (3 : Int32))), .val (.int v111), .val (.ref v112), .val (.ref y118), .val (.ref b119), .unset, .val (.int ((((p3.toUInt32 >>> ((4 : Int32) &&& 31).toUInt32).toInt32) &&& (3 : Int32)) - (((p3.toUInt32 >>> ((2 : Int32) &&& 31).toUInt32).toInt32) &&& (3 : Int32))))] []))
              refine OwnEnd.go (fun _ k => XS.iload X250.here hx rfl (hb hby at_306) rfl  k) ?_
              show OwnEnd p e below s _ _ _ (T250.setTop (mkF m 308 #[.val (.int p1), .val (.int p2), .val (.int p3), .val (.int p4), .val (.int (p1 &&& (3 : Int32))), .val (.int v101), .val (.ref v102), .val (.ref y108), .val (.int v109), .val (.int v110), .val (.int (((p3.toUInt32 >>> ((2 : Int32) &&& 31).toUInt32).toInt32) &&& (3 : Int32))), .val (.int (((p3.toUInt32 >>> ((4 : Int32) &&& 31).toUInt32).toInt32) &&& (3 : Int32))), .val (.int (p4 &&& (3 : Int32))), .val (.int v111), .val (.ref v112), .val (.ref y118), .val (.ref b119), .unset, .val (.int ((((p3.toUInt32 >>> ((4 : Int32) &&& 31).toUInt32).toInt32) &&& (3 : Int32)) - (((p3.toUInt32 >>> ((2 : Int32) &&& 31).toUInt32).toInt32) &&& (3 : Int32))))] [(.int (p4 &&& (3 : Int32)))]))
              refine OwnEnd.go (fun _ k => XS.iconst X250.here hx rfl (hb hby at_308) k) ?_
              show OwnEnd p e below s _ _ _ (T250.setTop (mkF m 309 #[.val (.int p1), .val (.int p2), .val (.int p3), .val (.int p4), .val (.int (p1 &&& (3 : Int32))), .val (.int v101), .val (.ref v102), .val (.ref y108), .val (.int v109), .val (.int v110), .val (.int (((p3.toUInt32 >>> ((2 : Int32) &&& 31).toUInt32).toInt32) &&& (3 : Int32))), .val (.int (((p3.toUInt32 >>> ((4 : Int32) &&& 31).toUInt32).toInt32) &&& (3 : Int32))), .val (.int (p4 &&& (3 : Int32))), .val (.int v111), .val (.ref v112), .val (.ref y118), .val (.ref b119), .unset, .val (.int ((((p3.toUInt32 >>> ((4 : Int32) &&& 31).toUInt32).toInt32) &&& (3 : Int32)) - (((p3.toUInt32 >>> ((2 : Int32) &&& 31).toUInt32).toInt32) &&& (3 : Int32))))] [(.int (2 : Int32)), (.int (p4 &&& (3 : Int32)))]))
              refine OwnEnd.go (fun _ k => XS.icmpNo X250.here hx rfl (hb hby at_309) rfl (teq hc244).2 k) ?_
              show OwnEnd p e below s _ _ _ (T250.setTop (mkF m 312 #[.val (.int p1), .val (.int p2), .val (.int p3), .val (.int p4), .val (.int (p1 &&& (3 : Int32))), .val (.int v101), .val (.ref v102), .val (.ref y108), .val (.int v109), .val (.int v110), .val (.int (((p3.toUInt32 >>> ((2 : Int32) &&& 31).toUInt32).toInt32) &&& (3 : Int32))), .val (.int (((p3.toUInt32 >>> ((4 : Int32) &&& 31).toUInt32).toInt32) &&& (3 : Int32))), .val (.int (p4 &&& (3 : Int32))), .val (.int v111), .val (.ref v112), .val (.ref y118), .val (.ref b119), .unset, .val (.int ((((p3.toUInt32 >>> ((4 : Int32) &&& 31).toUInt32).toInt32) &&& (3 : Int32)) - (((p3.toUInt32 >>> ((2 : Int32) &&& 31).toUInt32).toInt32) &&& (3 : Int32))))] []))
              refine OwnEnd.go (fun _ k => XS.iload X250.here hx rfl (hb hby at_312) rfl  k) ?_
              show OwnEnd p e below s _ _ _ (T250.setTop (mkF m 314 #[.val (.int p1), .val (.int p2), .val (.int p3), .val (.int p4), .val (.int (p1 &&& (3 : Int32))), .val (.int v101), .val (.ref v102), .val (.ref y108), .val (.int v109), .val (.int v110), .val (.int (((p3.toUInt32 >>> ((2 : Int32) &&& 31).toUInt32).toInt32) &&& (3 : Int32))), .val (.int (((p3.toUInt32 >>> ((4 : Int32) &&& 31).toUInt32).toInt32) &&& (3 : Int32))), .val (.int (p4 &&& (3 : Int32))), .val (.int v111), .val (.ref v112), .val (.ref y118), .val (.ref b119), .unset, .val (.int ((((p3.toUInt32 >>> ((4 : Int32) &&& 31).toUInt32).toInt32) &&& (3 : Int32)) - (((p3.toUInt32 >>> ((2 : Int32) &&& 31).toUInt32).toInt32) &&& (3 : Int32))))] [(.int ((((p3.toUInt32 >>> ((4 : Int32) &&& 31).toUInt32).toInt32) &&& (3 : Int32)) - (((p3.toUInt32 >>> ((2 : Int32) &&& 31).toUInt32).toInt32) &&& (3 : Int32))))]))
              refine OwnEnd.go (fun _ k => XS.iload X250.here hx rfl (hb hby at_314) rfl  k) ?_
              show OwnEnd p e below s _ _ _ (T250.setTop (mkF m 316 #[.val (.int p1), .val (.int p2), .val (.int p3), .val (.int p4), .val (.int (p1 &&& (3 : Int32))), .val (.int v101), .val (.ref v102), .val (.ref y108), .val (.int v109), .val (.int v110), .val (.int (((p3.toUInt32 >>> ((2 : Int32) &&& 31).toUInt32).toInt32) &&& (3 : Int32))), .val (.int (((p3.toUInt32 >>> ((4 : Int32) &&& 31).toUInt32).toInt32) &&& (3 : Int32))), .val (.int (p4 &&& (3 : Int32))), .val (.int v111), .val (.ref v112), .val (.ref y118), .val (.ref b119), .unset, .val (.int ((((p3.toUInt32 >>> ((4 : Int32) &&& 31).toUInt32).toInt32) &&& (3 : Int32)) - (((p3.toUInt32 >>> ((2 : Int32) &&& 31).toUInt32).toInt32) &&& (3 : Int32))))] [(.int v111), (.int ((((p3.toUInt32 >>> ((4 : Int32) &&& 31).toUInt32).toInt32) &&& (3 : Int32)) - (((p3.toUInt32 >>> ((2 : Int32) &&& 31).toUInt32).toInt32) &&& (3 : Int32))))]))
              refine OwnEnd.go (fun _ k => XS.ifYes X250.here hx rfl (pc0 := 316) (pc' := 323) rfl (hb hby at_316) rfl ((if0 _ _).trans (teq hc249).1) (by decide) (by decide) k) ?_
              show OwnEnd p e below s _ _ _ (T250.setTop (mkF m 323 #[.val (.int p1), .val (.int p2), .val (.int p3), .val (.int p4), .val (.int (p1 &&& (3 : Int32))), .val (.int v101), .val (.ref v102), .val (.ref y108), .val (.int v109), .val (.int v110), .val (.int (((p3.toUInt32 >>> ((2 : Int32) &&& 31).toUInt32).toInt32) &&& (3 : Int32))), .val (.int (((p3.toUInt32 >>> ((4 : Int32) &&& 31).toUInt32).toInt32) &&& (3 : Int32))), .val (.int (p4 &&& (3 : Int32))), .val (.int v111), .val (.ref v112), .val (.ref y118), .val (.ref b119), .unset, .val (.int ((((p3.toUInt32 >>> ((4 : Int32) &&& 31).toUInt32).toInt32) &&& (3 : Int32)) - (((p3.toUInt32 >>> ((2 : Int32) &&& 31).toUInt32).toInt32) &&& (3 : Int32))))] [(.int ((((p3.toUInt32 >>> ((4 : Int32) &&& 31).toUInt32).toInt32) &&& (3 : Int32)) - (((p3.toUInt32 >>> ((2 : Int32) &&& 31).toUInt32).toInt32) &&& (3 : Int32))))]))
              refine OwnEnd.go (fun _ k => XS.iconst X250.here hx rfl (hb hby at_323) k) ?_
              show OwnEnd p e below s _ _ _ (T250.setTop (mkF m 324 #[.val (.int p1), .val (.int p2), .val (.int p3), .val (.int p4), .val (.int (p1 &&& (3 : Int32))), .val (.int v101), .val (.ref v102), .val (.ref y108), .val (.int v109), .val (.int v110), .val (.int (((p3.toUInt32 >>> ((2 : Int32) &&& 31).toUInt32).toInt32) &&& (3 : Int32))), .val (.int (((p3.toUInt32 >>> ((4 : Int32) &&& 31).toUInt32).toInt32) &&& (3 : Int32))), .val (.int (p4 &&& (3 : Int32))), .val (.int v111), .val (.ref v112), .val (.ref y118), .val (.ref b119), .unset, .val (.int ((((p3.toUInt32 >>> ((4 : Int32) &&& 31).toUInt32).toInt32) &&& (3 : Int32)) - (((p3.toUInt32 >>> ((2 : Int32) &&& 31).toUInt32).toInt32) &&& (3 : Int32))))] [(.int (1 : Int32)), (.int ((((p3.toUInt32 >>> ((4 : Int32) &&& 31).toUInt32).toInt32) &&& (3 : Int32)) - (((p3.toUInt32 >>> ((2 : Int32) &&& 31).toUInt32).toInt32) &&& (3 : Int32))))]))
              refine OwnEnd.go (fun _ k => XS.iadd X250.here hx rfl (hb hby at_324) rfl k) ?_
              show OwnEnd p e below s _ _ _ (T250.setTop (mkF m 325 #[.val (.int p1), .val (.int p2), .val (.int p3), .val (.int p4), .val (.int (p1 &&& (3 : Int32))), .val (.int v101), .val (.ref v102), .val (.ref y108), .val (.int v109), .val (.int v110), .val (.int (((p3.toUInt32 >>> ((2 : Int32) &&& 31).toUInt32).toInt32) &&& (3 : Int32))), .val (.int (((p3.toUInt32 >>> ((4 : Int32) &&& 31).toUInt32).toInt32) &&& (3 : Int32))), .val (.int (p4 &&& (3 : Int32))), .val (.int v111), .val (.ref v112), .val (.ref y118), .val (.ref b119), .unset, .val (.int ((((p3.toUInt32 >>> ((4 : Int32) &&& 31).toUInt32).toInt32) &&& (3 : Int32)) - (((p3.toUInt32 >>> ((2 : Int32) &&& 31).toUInt32).toInt32) &&& (3 : Int32))))] [(.int (((((p3.toUInt32 >>> ((4 : Int32) &&& 31).toUInt32).toInt32) &&& (3 : Int32)) - (((p3.toUInt32 >>> ((2 : Int32) &&& 31).toUInt32).toInt32) &&& (3 : Int32))) + (1 : Int32)))]))
              refine OwnEnd.go (fun _ k => XS.istore X250.here hx rfl (hb hby at_325) rfl  (l' := #[.val (.int p1), .val (.int p2), .val (.int p3), .val (.int p4), .val (.int (p1 &&& (3 : Int32))), .val (.int v101), .val (.ref v102), .val (.ref y108), .val (.int v109), .val (.int v110), .val (.int (((p3.toUInt32 >>> ((2 : Int32) &&& 31).toUInt32).toInt32) &&& (3 : Int32))), .val (.int (((p3.toUInt32 >>> ((4 : Int32) &&& 31).toUInt32).toInt32) &&& (3 : Int32))), .val (.int (p4 &&& (3 : Int32))), .val (.int v111), .val (.ref v112), .val (.ref y118), .val (.ref b119), .unset, .val (.int (((((p3.toUInt32 >>> ((4 : Int32) &&& 31).toUInt32).toInt32) &&& (3 : Int32)) - (((p3.toUInt32 >>> ((2 : Int32) &&& 31).toUInt32).toInt32) &&& (3 : Int32))) + (1 : Int32)))]) rfl k) ?_
              show OwnEnd p e below s _ _ _ (T250.setTop (mkF m 327 #[.val (.int p1), .val (.int p2), .val (.int p3), .val (.int p4), .val (.int (p1 &&& (3 : Int32))), .val (.int v101), .val (.ref v102), .val (.ref y108), .val (.int v109), .val (.int v110), .val (.int (((p3.toUInt32 >>> ((2 : Int32) &&& 31).toUInt32).toInt32) &&& (3 : Int32))), .val (.int (((p3.toUInt32 >>> ((4 : Int32) &&& 31).toUInt32).toInt32) &&& (3 : Int32))), .val (.int (p4 &&& (3 : Int32))), .val (.int v111), .val (.ref v112), .val (.ref y118), .val (.ref b119), .unset, .val (.int (((((p3.toUInt32 >>> ((4 : Int32) &&& 31).toUInt32).toInt32) &&& (3 : Int32)) - (((p3.toUInt32 >>> ((2 : Int32) &&& 31).toUInt32).toInt32) &&& (3 : Int32))) + (1 : Int32)))] []))
              refine OwnEnd.go (fun _ k => XS.iload X250.here hx rfl (hb hby at_327) rfl  k) ?_
              show OwnEnd p e below s _ _ _ (T250.setTop (mkF m 329 #[.val (.int p1), .val (.int p2), .val (.int p3), .val (.int p4), .val (.int (p1 &&& (3 : Int32))), .val (.int v101), .val (.ref v102), .val (.ref y108), .val (.int v109), .val (.int v110), .val (.int (((p3.toUInt32 >>> ((2 : Int32) &&& 31).toUInt32).toInt32) &&& (3 : Int32))), .val (.int (((p3.toUInt32 >>> ((4 : Int32) &&& 31).toUInt32).toInt32) &&& (3 : Int32))), .val (.int (p4 &&& (3 : Int32))), .val (.int v111), .val (.ref v112), .val (.ref y118), .val (.ref b119), .unset, .val (.int (((((p3.toUInt32 >>> ((4 : Int32) &&& 31).toUInt32).toInt32) &&& (3 : Int32)) - (((p3.toUInt32 >>> ((2 : Int32) &&& 31).toUInt32).toInt32) &&& (3 : Int32))) + (1 : Int32)))] [(.int (p4 &&& (3 : Int32)))]))
              refine OwnEnd.go (fun _ k => XS.iconst X250.here hx rfl (hb hby at_329) k) ?_
              show OwnEnd p e below s _ _ _ (T250.setTop (mkF m 330 #[.val (.int p1), .val (.int p2), .val (.int p3), .val (.int p4), .val (.int (p1 &&& (3 : Int32))), .val (.int v101), .val (.ref v102), .val (.ref y108), .val (.int v109), .val (.int v110), .val (.int (((p3.toUInt32 >>> ((2 : Int32) &&& 31).toUInt32).toInt32) &&& (3 : Int32))), .val (.int (((p3.toUInt32 >>> ((4 : Int32) &&& 31).toUInt32).toInt32) &&& (3 : Int32))), .val (.int (p4 &&& (3 : Int32))), .val (.int v111), .val (.ref v112), .val (.ref y118), .val (.ref b119), .unset, .val (.int (((((p3.toUInt32 >>> ((4 : Int32) &&& 31).toUInt32).toInt32) &&& (3 : Int32)) - (((p3.toUInt32 >>> ((2 : Int32) &&& 31).toUInt32).toInt32) &&& (3 : Int32))) + (1 : Int32)))] [(.int (3 : Int32)), (.int (p4 &&& (3 : Int32)))]))
              refine OwnEnd.go (fun _ k => XS.icmpYes X250.here hx rfl (pc0 := 330) (pc' := 344) rfl (hb hby at_330) rfl (feq (by rw [hc244]; decide : ¬ (p4 &&& (3 : Int32)) = (3 : Int32))).2 (by decide) (by decide) k) ?_
              show OwnEnd p e below s _ _ _ (T250.setTop (mkF m 344 #[.val (.int p1), .val (.int p2), .val (.int p3), .val (.int p4), .val (.int (p1 &&& (3 : Int32))), .val (.int v101), .val (.ref v102), .val (.ref y108), .val (.int v109), .val (.int v110), .val (.int (((p3.toUInt32 >>> ((2 : Int32) &&& 31).toUInt32).toInt32) &&& (3 : Int32))), .val (.int (((p3.toUInt32 >>> ((4 : Int32) &&& 31).toUInt32).toInt32) &&& (3 : Int32))), .val (.int (p4 &&& (3 : Int32))), .val (.int v111), .val (.ref v112), .val (.ref y118), .val (.ref b119), .unset, .val (.int (((((p3.toUInt32 >>> ((4 : Int32) &&& 31).toUInt32).toInt32) &&& (3 : Int32)) - (((p3.toUInt32 >>> ((2 : Int32) &&& 31).toUInt32).toInt32) &&& (3 : Int32))) + (1 : Int32)))] []))
              refine OwnEnd.go (fun _ k => XS.iload X250.here hx rfl (hb hby at_344) rfl  k) ?_
              show OwnEnd p e below s _ _ _ (T250.setTop (mkF m 346 #[.val (.int p1), .val (.int p2), .val (.int p3), .val (.int p4), .val (.int (p1 &&& (3 : Int32))), .val (.int v101), .val (.ref v102), .val (.ref y108), .val (.int v109), .val (.int v110), .val (.int (((p3.toUInt32 >>> ((2 : Int32) &&& 31).toUInt32).toInt32) &&& (3 : Int32))), .val (.int (((p3.toUInt32 >>> ((4 : Int32) &&& 31).toUInt32).toInt32) &&& (3 : Int32))), .val (.int (p4 &&& (3 : Int32))), .val (.int v111), .val (.ref v112), .val (.ref y118), .val (.ref b119), .unset, .val (.int (((((p3.toUInt32 >>> ((4 : Int32) &&& 31).toUInt32).toInt32) &&& (3 : Int32)) - (((p3.toUInt32 >>> ((2 : Int32) &&& 31).toUInt32).toInt32) &&& (3 : Int32))) + (1 : Int32)))] [(.int (((((p3.toUInt32 >>> ((4 : Int32) &&& 31).toUInt32).toInt32) &&& (3 : Int32)) - (((p3.toUInt32 >>> ((2 : Int32) &&& 31).toUInt32).toInt32) &&& (3 : Int32))) + (1 : Int32)))]))
              by_cases hc254 : (((((p3.toUInt32 >>> ((4 : Int32) &&& 31).toUInt32).toInt32) &&& (3 : Int32)) - (((p3.toUInt32 >>> ((2 : Int32) &&& 31).toUInt32).toInt32) &&& (3 : Int32))) + (1 : Int32)) = (0 : Int32)
              · refine OwnEnd.go (fun _ k => XS.ifNo X250.here hx rfl (hb hby at_346) rfl ((if0 _ _).trans (teq hc254).2) k) ?_
                show OwnEnd p e below s _ _ _ (T250.setTop (mkF m 349 #[.val (.int p1), .val (.int p2), .val (.int p3), .val (.int p4), .val (.int (p1 &&& (3 : Int32))), .val (.int v101), .val (.ref v102), .val (.ref y108), .val (.int v109), .val (.int v110), .val (.int (((p3.toUInt32 >>> ((2 : Int32) &&& 31).toUInt32).toInt32) &&& (3 : Int32))), .val (.int (((p3.toUInt32 >>> ((4 : Int32) &&& 31).toUInt32).toInt32) &&& (3 : Int32))), .val (.int (p4 &&& (3 : Int32))), .val (.int v111), .val (.ref v112), .val (.ref y118), .val (.ref b119), .unset, .val (.int (((((p3.toUInt32 >>> ((4 : Int32) &&& 31).toUInt32).toInt32) &&& (3 : Int32)) - (((p3.toUInt32 >>> ((2 : Int32) &&& 31).toUInt32).toInt32) &&& (3 : Int32))) + (1 : Int32)))] []))
                refine OwnEnd.go (fun _ k => XS.iconst X250.here hx rfl (hb hby at_349) k) ?_
                show OwnEnd p e below s _ _ _ (T250.setTop (mkF m 350 #[.val (.int p1), .val (.int p2), .val (.int p3), .val (.int p4), .val (.int (p1 &&& (3 : Int32))), .val (.int v101), .val (.ref v102), .val (.ref y108), .val (.int v109), .val (.int v110), .val (.int (((p3.toUInt32 >>> ((2 : Int32) &&& 31).toUInt32).toInt32) &&& (3 : Int32))), .val (.int (((p3.toUInt32 >>> ((4 : Int32) &&& 31).toUInt32).toInt32) &&& (3 : Int32))), .val (.int (p4 &&& (3 : Int32))), .val (.int v111), .val (.ref v112), .val (.ref y118), .val (.ref b119), .unset, .val (.int (((((p3.toUInt32 >>> ((4 : Int32) &&& 31).toUInt32).toInt32) &&& (3 : Int32)) - (((p3.toUInt32 >>> ((2 : Int32) &&& 31).toUInt32).toInt32) &&& (3 : Int32))) + (1 : Int32)))] [(.int (1 : Int32))]))
                refine OwnEnd.go (fun _ k => XS.goto X250.here hx rfl (pc0 := 350) (pc' := 354) rfl (hb hby at_350) (by decide) (by decide) k) ?_
                show OwnEnd p e below s _ _ _ (T250.setTop (mkF m 354 #[.val (.int p1), .val (.int p2), .val (.int p3), .val (.int p4), .val (.int (p1 &&& (3 : Int32))), .val (.int v101), .val (.ref v102), .val (.ref y108), .val (.int v109), .val (.int v110), .val (.int (((p3.toUInt32 >>> ((2 : Int32) &&& 31).toUInt32).toInt32) &&& (3 : Int32))), .val (.int (((p3.toUInt32 >>> ((4 : Int32) &&& 31).toUInt32).toInt32) &&& (3 : Int32))), .val (.int (p4 &&& (3 : Int32))), .val (.int v111), .val (.ref v112), .val (.ref y118), .val (.ref b119), .unset, .val (.int (((((p3.toUInt32 >>> ((4 : Int32) &&& 31).toUInt32).toInt32) &&& (3 : Int32)) - (((p3.toUInt32 >>> ((2 : Int32) &&& 31).toUInt32).toInt32) &&& (3 : Int32))) + (1 : Int32)))] [(.int (1 : Int32))]))
                refine OwnEnd.go (fun _ k => XS.istore X250.here hx rfl (hb hby at_354) rfl  (l' := #[.val (.int p1), .val (.int p2), .val (.int p3), .val (.int p4), .val (.int (p1 &&& (3 : Int32))), .val (.int v101), .val (.ref v102), .val (.ref y108), .val (.int v109), .val (.int v110), .val (.int (((p3.toUInt32 >>> ((2 : Int32) &&& 31).toUInt32).toInt32) &&& (3 : Int32))), .val (.int (((p3.toUInt32 >>> ((4 : Int32) &&& 31).toUInt32).toInt32) &&& (3 : Int32))), .val (.int (p4 &&& (3 : Int32))), .val (.int v111), .val (.ref v112), .val (.ref y118), .val (.ref b119), .val (.int (1 : Int32)), .val (.int (((((p3.toUInt32 >>> ((4 : Int32) &&& 31).toUInt32).toInt32) &&& (3 : Int32)) - (((p3.toUInt32 >>> ((2 : Int32) &&& 31).toUInt32).toInt32) &&& (3 : Int32))) + (1 : Int32)))]) rfl k) ?_
                show OwnEnd p e below s _ _ _ (T250.setTop (mkF m 356 #[.val (.int p1), .val (.int p2), .val (.int p3), .val (.int p4), .val (.int (p1 &&& (3 : Int32))), .val (.int v101), .val (.ref v102), .val (.ref y108), .val (.int v109), .val (.int v110), .val (.int (((p3.toUInt32 >>> ((2 : Int32) &&& 31).toUInt32).toInt32) &&& (3 : Int32))), .val (.int (((p3.toUInt32 >>> ((4 : Int32) &&& 31).toUInt32).toInt32) &&& (3 : Int32))), .val (.int (p4 &&& (3 : Int32))), .val (.int v111), .val (.ref v112), .val (.ref y118), .val (.ref b119), .val (.int (1 : Int32)), .val (.int (((((p3.toUInt32 >>> ((4 : Int32) &&& 31).toUInt32).toInt32) &&& (3 : Int32)) - (((p3.toUInt32 >>> ((2 : Int32) &&& 31).toUInt32).toInt32) &&& (3 : Int32))) + (1 : Int32)))] []))
                refine OwnEnd.go (fun _ k => XS.aload X250.here hx rfl (hb hby at_356) rfl rfl k) ?_
                show OwnEnd p e below s _ _ _ (T250.setTop (mkF m 358 #[.val (.int p1), .val (.int p2), .val (.int p3), .val (.int p4), .val (.int (p1 &&& (3 : Int32))), .val (.int v101), .val (.ref v102), .val (.ref y108), .val (.int v109), .val (.int v110), .val (.int (((p3.toUInt32 >>> ((2 : Int32) &&& 31).toUInt32).toInt32) &&& (3 : Int32))), .val (.int (((p3.toUInt32 >>> ((4 : Int32) &&& 31).toUInt32).toInt32) &&& (3 : Int32))), .val (.int (p4 &&& (3 : Int32))), .val (.int v111), .val (.ref v112), .val (.ref y118), .val (.ref b119), .val (.int (1 : Int32)), .val (.int (((((p3.toUInt32 >>> ((4 : Int32) &&& 31).toUInt32).toInt32) &&& (3 : Int32)) - (((p3.toUInt32 >>> ((2 : Int32) &&& 31).toUInt32).toInt32) &&& (3 : Int32))) + (1 : Int32)))] [(.ref b119)]))
                obtain ⟨_, T255, L255, X255, hQ255, st255⟩ := ownCallV X250 hx hZ hown ww55 ww56 ww58 ww57 ww14 ww59 (by decide) (rm8d1 l Z a0 hw [] b119 y134 y135 ((rc2 + (((p3.toUInt32 >>> ((4 : Int32) &&& 31).toUInt32).toInt32) &&& (3 : Int32))) + (1 : Int32)) ((0 : Int32) + (p1 &&& (3 : Int32))) (rc2 + (((p3.toUInt32 >>> ((4 : Int32) &&& 31).toUInt32).toInt32) &&& (3 : Int32))) (tt2 + (((p3.toUInt32 >>> ((2 : Int32) &&& 31).toUInt32).toInt32) &&& (3 : Int32))) (0 : Int32) (rc2 + (((p3.toUInt32 >>> ((4 : Int32) &&& 31).toUInt32).toInt32) &&& (3 : Int32))) (((rc2 + (((p3.toUInt32 >>> ((4 : Int32) &&& 31).toUInt32).toInt32) &&& (3 : Int32))) + (1 : Int32)) - (rc2 + (((p3.toUInt32 >>> ((4 : Int32) &&& 31).toUInt32).toInt32) &&& (3 : Int32)))) (0 : Int32) T250.heap n0 Y250  P251) (rfl : T250.heap = T250.heap) F252 0 (by decide) (by decide) (by decide) (by decide) (g := (mkF m 358 #[.val (.int p1), .val (.int p2), .val (.int p3), .val (.int p4), .val (.int (p1 &&& (3 : Int32))), .val (.int v101), .val (.ref v102), .val (.ref y108), .val (.int v109), .val (.int v110), .val (.int (((p3.toUInt32 >>> ((2 : Int32) &&& 31).toUInt32).toInt32) &&& (3 : Int32))), .val (.int (((p3.toUInt32 >>> ((4 : Int32) &&& 31).toUInt32).toInt32) &&& (3 : Int32))), .val (.int (p4 &&& (3 : Int32))), .val (.int v111), .val (.ref v112), .val (.ref y118), .val (.ref b119), .val (.int (1 : Int32)), .val (.int (((((p3.toUInt32 >>> ((4 : Int32) &&& 31).toUInt32).toInt32) &&& (3 : Int32)) - (((p3.toUInt32 >>> ((2 : Int32) &&& 31).toUInt32).toInt32) &&& (3 : Int32))) + (1 : Int32)))] [(.ref b119)])) rfl (by rw [hml]; rfl) (argsL := []) (rest := []) (lenOf pd0_4 rfl) rfl rfl (by show 2 * 0 + _ ≤ _; exact Nat.le_of_eq rfl) (hb hby at_358)
                obtain ⟨rfl, N255q, e255⟩ := hQ255
                have N255 := Fr.app N250 N255q
                refine OwnEnd.go (fun _ k => st255 _ k) ?_
                show OwnEnd p e below s _ _ _ (T255.setTop (mkF m 361 #[.val (.int p1), .val (.int p2), .val (.int p3), .val (.int p4), .val (.int (p1 &&& (3 : Int32))), .val (.int v101), .val (.ref v102), .val (.ref y108), .val (.int v109), .val (.int v110), .val (.int (((p3.toUInt32 >>> ((2 : Int32) &&& 31).toUInt32).toInt32) &&& (3 : Int32))), .val (.int (((p3.toUInt32 >>> ((4 : Int32) &&& 31).toUInt32).toInt32) &&& (3 : Int32))), .val (.int (p4 &&& (3 : Int32))), .val (.int v111), .val (.ref v112), .val (.ref y118), .val (.ref b119), .val (.int (1 : Int32)), .val (.int (((((p3.toUInt32 >>> ((4 : Int32) &&& 31).toUInt32).toInt32) &&& (3 : Int32)) - (((p3.toUInt32 >>> ((2 : Int32) &&& 31).toUInt32).toInt32) &&& (3 : Int32))) + (1 : Int32)))] [(.int (own_isat ((rc2 + (((p3.toUInt32 >>> ((4 : Int32) &&& 31).toUInt32).toInt32) &&& (3 : Int32))) + (1 : Int32)) ((0 : Int32) + (p1 &&& (3 : Int32))) (tt2 + (((p3.toUInt32 >>> ((2 : Int32) &&& 31).toUInt32).toInt32) &&& (3 : Int32)))))]))
                refine OwnEnd.go (fun _ k => XS.iload X255.here hx rfl (hb hby at_361) rfl  k) ?_
                show OwnEnd p e below s _ _ _ (T255.setTop (mkF m 363 #[.val (.int p1), .val (.int p2), .val (.int p3), .val (.int p4), .val (.int (p1 &&& (3 : Int32))), .val (.int v101), .val (.ref v102), .val (.ref y108), .val (.int v109), .val (.int v110), .val (.int (((p3.toUInt32 >>> ((2 : Int32) &&& 31).toUInt32).toInt32) &&& (3 : Int32))), .val (.int (((p3.toUInt32 >>> ((4 : Int32) &&& 31).toUInt32).toInt32) &&& (3 : Int32))), .val (.int (p4 &&& (3 : Int32))), .val (.int v111), .val (.ref v112), .val (.ref y118), .val (.ref b119), .val (.int (1 : Int32)), .val (.int (((((p3.toUInt32 >>> ((4 : Int32) &&& 31).toUInt32).toInt32) &&& (3 : Int32)) - (((p3.toUInt32 >>> ((2 : Int32) &&& 31).toUInt32).toInt32) &&& (3 : Int32))) + (1 : Int32)))] [(.int (1 : Int32)), (.int (own_isat ((rc2 + (((p3.toUInt32 >>> ((4 : Int32) &&& 31).toUInt32).toInt32) &&& (3 : Int32))) + (1 : Int32)) ((0 : Int32) + (p1 &&& (3 : Int32))) (tt2 + (((p3.toUInt32 >>> ((2 : Int32) &&& 31).toUInt32).toInt32) &&& (3 : Int32)))))]))
                refine OwnEnd.go (fun _ k => XS.icmpNo X255.here hx rfl (hb hby at_363) rfl (teq (own_isat_t ((own_f1 hy221).2 hc254))).2 k) ?_
                show OwnEnd p e below s _ _ _ (T255.setTop (mkF m 366 #[.val (.int p1), .val (.int p2), .val (.int p3), .val (.int p4), .val (.int (p1 &&& (3 : Int32))), .val (.int v101), .val (.ref v102), .val (.ref y108), .val (.int v109), .val (.int v110), .val (.int (((p3.toUInt32 >>> ((2 : Int32) &&& 31).toUInt32).toInt32) &&& (3 : Int32))), .val (.int (((p3.toUInt32 >>> ((4 : Int32) &&& 31).toUInt32).toInt32) &&& (3 : Int32))), .val (.int (p4 &&& (3 : Int32))), .val (.int v111), .val (.ref v112), .val (.ref y118), .val (.ref b119), .val (.int (1 : Int32)), .val (.int (((((p3.toUInt32 >>> ((4 : Int32) &&& 31).toUInt32).toInt32) &&& (3 : Int32)) - (((p3.toUInt32 >>> ((2 : Int32) &&& 31).toUInt32).toInt32) &&& (3 : Int32))) + (1 : Int32)))] []))
                refine OwnEnd.go (fun _ k => XS.iconst X255.here hx rfl (hb hby at_366) k) ?_
                show OwnEnd p e below s _ _ _ (T255.setTop (mkF m 367 #[.val (.int p1), .val (.int p2), .val (.int p3), .val (.int p4), .val (.int (p1 &&& (3 : Int32))), .val (.int v101), .val (.ref v102), .val (.ref y108), .val (.int v109), .val (.int v110), .val (.int (((p3.toUInt32 >>> ((2 : Int32) &&& 31).toUInt32).toInt32) &&& (3 : Int32))), .val (.int (((p3.toUInt32 >>> ((4 : Int32) &&& 31).toUInt32).toInt32) &&& (3 : Int32))), .val (.int (p4 &&& (3 : Int32))), .val (.int v111), .val (.ref v112), .val (.ref y118), .val (.ref b119), .val (.int (1 : Int32)), .val (.int (((((p3.toUInt32 >>> ((4 : Int32) &&& 31).toUInt32).toInt32) &&& (3 : Int32)) - (((p3.toUInt32 >>> ((2 : Int32) &&& 31).toUInt32).toInt32) &&& (3 : Int32))) + (1 : Int32)))] [(.int (1 : Int32))]))
                refine OwnEnd.go (fun _ k => XS.goto X255.here hx rfl (pc0 := 367) (pc' := 371) rfl (hb hby at_367) (by decide) (by decide) k) ?_
                show OwnEnd p e below s _ _ _ (T255.setTop (mkF m 371 #[.val (.int p1), .val (.int p2), .val (.int p3), .val (.int p4), .val (.int (p1 &&& (3 : Int32))), .val (.int v101), .val (.ref v102), .val (.ref y108), .val (.int v109), .val (.int v110), .val (.int (((p3.toUInt32 >>> ((2 : Int32) &&& 31).toUInt32).toInt32) &&& (3 : Int32))), .val (.int (((p3.toUInt32 >>> ((4 : Int32) &&& 31).toUInt32).toInt32) &&& (3 : Int32))), .val (.int (p4 &&& (3 : Int32))), .val (.int v111), .val (.ref v112), .val (.ref y118), .val (.ref b119), .val (.int (1 : Int32)), .val (.int (((((p3.toUInt32 >>> ((4 : Int32) &&& 31).toUInt32).toInt32) &&& (3 : Int32)) - (((p3.toUInt32 >>> ((2 : Int32) &&& 31).toUInt32).toInt32) &&& (3 : Int32))) + (1 : Int32)))] [(.int (1 : Int32))]))
                refine ownRetZ X255 hx hlk hret (hb hby at_371) (by decide) (by decide) (1 : Int32) (by decide) ?_
                show Q0 Z p1 p2 p3 p4 a_ATTRIBUTE a_TEXT a_COMMENT a_PROCESSING_INSTRUCTION a_NAMESPACE a_ELEMENT a_DOCUMENT h0 n0 _ T255.heap _
                rw [e255]
                exact ⟨rfl, N255⟩
              · refine OwnEnd.go (fun _ k => XS.ifYes X250.here hx rfl (pc0 := 346) (pc' := 353) rfl (hb hby at_346) rfl ((if0 _ _).trans (feq hc254).2) (by decide) (by decide) k) ?_
                show OwnEnd p e below s _ _ _ (T250.setTop (mkF m 353 #[.val (.int p1), .val (.int p2), .val (.int p3), .val (.int p4), .val (.int (p1 &&& (3 : Int32))), .val (.int v101), .val (.ref v102), .val (.ref y108), .val (.int v109), .val (.int v110), .val (.int (((p3.toUInt32 >>> ((2 : Int32) &&& 31).toUInt32).toInt32) &&& (3 : Int32))), .val (.int (((p3.toUInt32 >>> ((4 : Int32) &&& 31).toUInt32).toInt32) &&& (3 : Int32))), .val (.int (p4 &&& (3 : Int32))), .val (.int v111), .val (.ref v112), .val (.ref y118), .val (.ref b119), .unset, .val (.int (((((p3.toUInt32 >>> ((4 : Int32) &&& 31).toUInt32).toInt32) &&& (3 : Int32)) - (((p3.toUInt32 >>> ((2 : Int32) &&& 31).toUInt32).toInt32) &&& (3 : Int32))) + (1 : Int32)))] []))
                refine OwnEnd.go (fun _ k => XS.iconst X250.here hx rfl (hb hby at_353) k) ?_
                show OwnEnd p e below s _ _ _ (T250.setTop (mkF m 354 #[.val (.int p1), .val (.int p2), .val (.int p3), .val (.int p4), .val (.int (p1 &&& (3 : Int32))), .val (.int v101), .val (.ref v102), .val (.ref y108), .val (.int v109), .val (.int v110), .val (.int (((p3.toUInt32 >>> ((2 : Int32) &&& 31).toUInt32).toInt32) &&& (3 : Int32))), .val (.int (((p3.toUInt32 >>> ((4 : Int32) &&& 31).toUInt32).toInt32) &&& (3 : Int32))), .val (.int (p4 &&& (3 : Int32))), .val (.int v111), .val (.ref v112), .val (.ref y118), .val (.ref b119), .unset, .val (.int (((((p3.toUInt32 >>> ((4 : Int32) &&& 31).toUInt32).toInt32) &&& (3 : Int32)) - (((p3.toUInt32 >>> ((2 : Int32) &&& 31).toUInt32).toInt32) &&& (3 : Int32))) + (1 : Int32)))] [(.int (0 : Int32))]))
                refine OwnEnd.go (fun _ k => XS.istore X250.here hx rfl (hb hby at_354) rfl  (l' := #[.val (.int p1), .val (.int p2), .val (.int p3), .val (.int p4), .val (.int (p1 &&& (3 : Int32))), .val (.int v101), .val (.ref v102), .val (.ref y108), .val (.int v109), .val (.int v110), .val (.int (((p3.toUInt32 >>> ((2 : Int32) &&& 31).toUInt32).toInt32) &&& (3 : Int32))), .val (.int (((p3.toUInt32 >>> ((4 : Int32) &&& 31).toUInt32).toInt32) &&& (3 : Int32))), .val (.int (p4 &&& (3 : Int32))), .val (.int v111), .val (.ref v112), .val (.ref y118), .val (.ref b119), .val (.int (0 : Int32)), .val (.int (((((p3.toUInt32 >>> ((4 : Int32) &&& 31).toUInt32).toInt32) &&& (3 : Int32)) - (((p3.toUInt32 >>> ((2 : Int32) &&& 31).toUInt32).toInt32) &&& (3 : Int32))) + (1 : Int32)))]) rfl k) ?_
                show OwnEnd p e below s _ _ _ (T250.setTop (mkF m 356 #[.val (.int p1), .val (.int p2), .val (.int p3), .val (.int p4), .val (.int (p1 &&& (3 : Int32))), .val (.int v101), .val (.ref v102), .val (.ref y108), .val (.int v109), .val (.int v110), .val (.int (((p3.toUInt32 >>> ((2 : Int32) &&& 31).toUInt32).toInt32) &&& (3 : Int32))), .val (.int (((p3.toUInt32 >>> ((4 : Int32) &&& 31).toUInt32).toInt32) &&& (3 : Int32))), .val (.int (p4 &&& (3 : Int32))), .val (.int v111), .val (.ref v112), .val (.ref y118), .val (.ref b119), .val (.int (0 : Int32)), .val (.int (((((p3.toUInt32 >>> ((4 : Int32) &&& 31).toUInt32).toInt32) &&& (3 : Int32)) - (((p3.toUInt32 >>> ((2 : Int32) &&& 31).toUInt32).toInt32) &&& (3 : Int32))) + (1 : Int32)))] []))
                refine OwnEnd.go (fun _ k => XS.aload X250.here hx rfl (hb hby at_356) rfl rfl k) ?_
                show OwnEnd p e below s _ _ _ (T250.setTop (mkF m 358 #[.val (.int p1), .val (.int p2), .val (.int p3), .val (.int p4), .val (.int (p1 &&& (3 : Int32))), .val (.int v101), .val (.ref v102), .val (.ref y108), .val (.int v109), .val (.int v110), .val (.int (((p3.toUInt32 >>> ((2 : Int32) &&& 31).toUInt32).toInt32) &&& (3 : Int32))), .val (.int (((p3.toUInt32 >>> ((4 : Int32) &&& 31).toUInt32).toInt32) &&& (3 : Int32))), .val (.int (p4 &&& (3 : Int32))), .val (.int v111), .val (.ref v112), .val (.ref y118), .val (.ref b119), .val (.int (0 : Int32)), .val (.int (((((p3.toUInt32 >>> ((4 : Int32) &&& 31).toUInt32).toInt32) &&& (3 : Int32)) - (((p3.toUInt32 >>> ((2 : Int32) &&& 31).toUInt32).toInt32) &&& (3 : Int32))) + (1 : Int32)))] [(.ref b119)]))
                obtain ⟨_, T256, L256, X256, hQ256, st256⟩ := ownCallV X250 hx hZ hown ww55 ww56 ww58 ww57 ww14 ww59 (by decide) (rm8d1 l Z a0 hw [] b119 y134 y135 ((rc2 + (((p3.toUInt32 >>> ((4 : Int32) &&& 31).toUInt32).toInt32) &&& (3 : Int32))) + (1 : Int32)) ((0 : Int32) + (p1 &&& (3 : Int32))) (rc2 + (((p3.toUInt32 >>> ((4 : Int32) &&& 31).toUInt32).toInt32) &&& (3 : Int32))) (tt2 + (((p3.toUInt32 >>> ((2 : Int32) &&& 31).toUInt32).toInt32) &&& (3 : Int32))) (0 : Int32) (rc2 + (((p3.toUInt32 >>> ((4 : Int32) &&& 31).toUInt32).toInt32) &&& (3 : Int32))) (((rc2 + (((p3.toUInt32 >>> ((4 : Int32) &&& 31).toUInt32).toInt32) &&& (3 : Int32))) + (1 : Int32)) - (rc2 + (((p3.toUInt32 >>> ((4 : Int32) &&& 31).toUInt32).toInt32) &&& (3 : Int32)))) (0 : Int32) T250.heap n0 Y250  P251) (rfl : T250.heap = T250.heap) F252 0 (by decide) (by decide) (by decide) (by decide) (g := (mkF m 358 #[.val (.int p1), .val (.int p2), .val (.int p3), .val (.int p4), .val (.int (p1 &&& (3 : Int32))), .val (.int v101), .val (.ref v102), .val (.ref y108), .val (.int v109), .val (.int v110), .val (.int (((p3.toUInt32 >>> ((2 : Int32) &&& 31).toUInt32).toInt32) &&& (3 : Int32))), .val (.int (((p3.toUInt32 >>> ((4 : Int32) &&& 31).toUInt32).toInt32) &&& (3 : Int32))), .val (.int (p4 &&& (3 : Int32))), .val (.int v111), .val (.ref v112), .val (.ref y118), .val (.ref b119), .val (.int (0 : Int32)), .val (.int (((((p3.toUInt32 >>> ((4 : Int32) &&& 31).toUInt32).toInt32) &&& (3 : Int32)) - (((p3.toUInt32 >>> ((2 : Int32) &&& 31).toUInt32).toInt32) &&& (3 : Int32))) + (1 : Int32)))] [(.ref b119)])) rfl (by rw [hml]; rfl) (argsL := []) (rest := []) (lenOf pd0_4 rfl) rfl rfl (by show 2 * 0 + _ ≤ _; exact Nat.le_of_eq rfl) (hb hby at_358)
                obtain ⟨rfl, N256q, e256⟩ := hQ256
                have N256 := Fr.app N250 N256q
                refine OwnEnd.go (fun _ k => st256 _ k) ?_
                show OwnEnd p e below s _ _ _ (T256.setTop (mkF m 361 #[.val (.int p1), .val (.int p2), .val (.int p3), .val (.int p4), .val (.int (p1 &&& (3 : Int32))), .val (.int v101), .val (.ref v102), .val (.ref y108), .val (.int v109), .val (.int v110), .val (.int (((p3.toUInt32 >>> ((2 : Int32) &&& 31).toUInt32).toInt32) &&& (3 : Int32))), .val (.int (((p3.toUInt32 >>> ((4 : Int32) &&& 31).toUInt32).toInt32) &&& (3 : Int32))), .val (.int (p4 &&& (3 : Int32))), .val (.int v111), .val (.ref v112), .val (.ref y118), .val (.ref b119), .val (.int (0 : Int32)), .val (.int (((((p3.toUInt32 >>> ((4 : Int32) &&& 31).toUInt32).toInt32) &&& (3 : Int32)) - (((p3.toUInt32 >>> ((2 : Int32) &&& 31).toUInt32).toInt32) &&& (3 : Int32))) + (1 : Int32)))] [(.int (own_isat ((rc2 + (((p3.toUInt32 >>> ((4 : Int32) &&& 31).toUInt32).toInt32) &&& (3 : Int32))) + (1 : Int32)) ((0 : Int32) + (p1 &&& (3 : Int32))) (tt2 + (((p3.toUInt32 >>> ((2 : Int32) &&& 31).toUInt32).toInt32) &&& (3 : Int32)))))]))
                refine OwnEnd.go (fun _ k => XS.iload X256.here hx rfl (hb hby at_361) rfl  k) ?_
                show OwnEnd p e below s _ _ _ (T256.setTop (mkF m 363 #[.val (.int p1), .val (.int p2), .val (.int p3), .val (.int p4), .val (.int (p1 &&& (3 : Int32))), .val (.int v101), .val (.ref v102), .val (.ref y108), .val (.int v109), .val (.int v110), .val (.int (((p3.toUInt32 >>> ((2 : Int32) &&& 31).toUInt32).toInt32) &&& (3 : Int32))), .val (.int (((p3.toUInt32 >>> ((4 : Int32) &&& 31).toUInt32).toInt32) &&& (3 : Int32))), .val (.int (p4 &&& (3 : Int32))), .val (.int v111), .val (.ref v112), .val (.ref y118), .val (.ref b119), .val (.int (0 : Int32)), .val (.int (((((p3.toUInt32 >>> ((4 : Int32) &&& 31).toUInt32).toInt32) &&& (3 : Int32)) - (((p3.toUInt32 >>> ((2 : Int32) &&& 31).toUInt32).toInt32) &&& (3 : Int32))) + (1 : Int32)))] [(.int (0 : Int32)), (.int (own_isat ((rc2 + (((p3.toUInt32 >>> ((4 : Int32) &&& 31).toUInt32).toInt32) &&& (3 : Int32))) + (1 : Int32)) ((0 : Int32) + (p1 &&& (3 : Int32))) (tt2 + (((p3.toUInt32 >>> ((2 : Int32) &&& 31).toUInt32).toInt32) &&& (3 : Int32)))))]))
                refine OwnEnd.go (fun _ k => XS.icmpNo X256.here hx rfl (hb hby at_363) rfl (teq (own_isat_f (fun q => hc254 ((own_f1 hy221).1 q)))).2 k) ?_
                show OwnEnd p e below s _ _ _ (T256.setTop (mkF m 366 #[.val (.int p1), .val (.int p2), .val (.int p3), .val (.int p4), .val (.int (p1 &&& (3 : Int32))), .val (.int v101), .val (.ref v102), .val (.ref y108), .val (.int v109), .val (.int v110), .val (.int (((p3.toUInt32 >>> ((2 : Int32) &&& 31).toUInt32).toInt32) &&& (3 : Int32))), .val (.int (((p3.toUInt32 >>> ((4 : Int32) &&& 31).toUInt32).toInt32) &&& (3 : Int32))), .val (.int (p4 &&& (3 : Int32))), .val (.int v111), .val (.ref v112), .val (.ref y118), .val (.ref b119), .val (.int (0 : Int32)), .val (.int (((((p3.toUInt32 >>> ((4 : Int32) &&& 31).toUInt32).toInt32) &&& (3 : Int32)) - (((p3.toUInt32 >>> ((2 : Int32) &&& 31).toUInt32).toInt32) &&& (3 : Int32))) + (1 : Int32)))] []))
                refine OwnEnd.go (fun _ k => XS.iconst X256.here hx rfl (hb hby at_366) k) ?_
                show OwnEnd p e below s _ _ _ (T256.setTop (mkF m 367 #[.val (.int p1), .val (.int p2), .val (.int p3), .val (.int p4), .val (.int (p1 &&& (3 : Int32))), .val (.int v101), .val (.ref v102), .val (.ref y108), .val (.int v109), .val (.int v110), .val (.int (((p3.toUInt32 >>> ((2 : Int32) &&& 31).toUInt32).toInt32) &&& (3 : Int32))), .val (.int (((p3.toUInt32 >>> ((4 : Int32) &&& 31).toUInt32).toInt32) &&& (3 : Int32))), .val (.int (p4 &&& (3 : Int32))), .val (.int v111), .val (.ref v112), .val (.ref y118), .val (.ref b119), .val (.int (0 : Int32)), .val (.int (((((p3.toUInt32 >>> ((4 : Int32) &&& 31).toUInt32).toInt32) &&& (3 : Int32)) - (((p3.toUInt32 >>> ((2 : Int32) &&& 31).toUInt32).toInt32) &&& (3 : Int32))) + (1 : Int32)))] [(.int (1 : Int32))]))
                refine OwnEnd.go (fun _ k => XS.goto X256.here hx rfl (pc0 := 367) (pc' := 371) rfl (hb hby at_367) (by decide) (by decide) k) ?_
                show OwnEnd p e below s _ _ _ (T256.setTop (mkF m 371 #[.val (.int p1), .val (.int p2), .val (.int p3), .val (.int p4), .val (.int (p1 &&& (3 : Int32))), .val (.int v101), .val (.ref v102), .val (.ref y108), .val (.int v109), .val (.int v110), .val (.int (((p3.toUInt32 >>> ((2 : Int32) &&& 31).toUInt32).toInt32) &&& (3 : Int32))), .val (.int (((p3.toUInt32 >>> ((4 : Int32) &&& 31).toUInt32).toInt32) &&& (3 : Int32))), .val (.int (p4 &&& (3 : Int32))), .val (.int v111), .val (.ref v112), .val (.ref y118), .val (.ref b119), .val (.int (0 : Int32)), .val (.int (((((p3.toUInt32 >>> ((4 : Int32) &&& 31).toUInt32).toInt32) &&& (3 : Int32)) - (((p3.toUInt32 >>> ((2 : Int32) &&& 31).toUInt32).toInt32) &&& (3 : Int32))) + (1 : Int32)))] [(.int (1 : Int32))]))
                refine ownRetZ X256 hx hlk hret (hb hby at_371) (by decide) (by decide) (1 : Int32) (by decide) ?_
                show Q0 Z p1 p2 p3 p4 a_ATTRIBUTE a_TEXT a_COMMENT a_PROCESSING_INSTRUCTION a_NAMESPACE a_ELEMENT a_DOCUMENT h0 n0 _ T256.heap _
                rw [e256]
                exact ⟨rfl, N256⟩
            · refine OwnEnd.go (fun _ k => XS.ifNo X245.here hx rfl (hb hby at_236) rfl ((if0 _ _).trans (feq hc249).1) k) ?_
              show OwnEnd p e below s _ _ _ (T245.setTop (mkF m 239 #[.val (.int p1), .val (.int p2), .val (.int p3), .val (.int p4), .val (.int (p1 &&& (3 : Int32))), .val (.int v101), .val (.ref v102), .val (.ref y108), .val (.int v109), .val (.int v110), .val (.int (((p3.toUInt32 >>> ((2 : Int32) &&& 31).toUInt32).toInt32) &&& (3 : Int32))), .val (.int (((p3.toUInt32 >>> ((4 : Int32) &&& 31).toUInt32).toInt32) &&& (3 : Int32))), .val (.int (p4 &&& (3 : Int32))), .val (.int v111), .val (.ref v112), .val (.ref y118), .val (.ref b119), .unset, .unset] []))
              refine OwnEnd.go (fun _ k => XS.aload X245.here hx rfl (hb hby at_239) rfl rfl k) ?_
              show OwnEnd p e below s _ _ _ (T245.setTop (mkF m 241 #[.val (.int p1), .val (.int p2), .val (.int p3), .val (.int p4), .val (.int (p1 &&& (3 : Int32))), .val (.int v101), .val (.ref v102), .val (.ref y108), .val (.int v109), .val (.int v110), .val (.int (((p3.toUInt32 >>> ((2 : Int32) &&& 31).toUInt32).toInt32) &&& (3 : Int32))), .val (.int (((p3.toUInt32 >>> ((4 : Int32) &&& 31).toUInt32).toInt32) &&& (3 : Int32))), .val (.int (p4 &&& (3 : Int32))), .val (.int v111), .val (.ref v112), .val (.ref y118), .val (.ref b119), .unset, .unset] [(.ref b119)]))
              obtain ⟨T257, X257, e257, st257⟩ := getS2 X245 hx hZ hown (host := "") (Or.inl ww8) Via.refl (rfl : T245.heap = T245.heap) (S_ATTRIBUTE.ext O245.2) (g := (mkF m 241 #[.val (.int p1), .val (.int p2), .val (.int p3), .val (.int p4), .val (.int (p1 &&& (3 : Int32))), .val (.int v101), .val (.ref v102), .val (.ref y108), .val (.int v109), .val (.int v110), .val (.int (((p3.toUInt32 >>> ((2 : Int32) &&& 31).toUInt32).toInt32) &&& (3 : Int32))), .val (.int (((p3.toUInt32 >>> ((4 : Int32) &&& 31).toUInt32).toInt32) &&& (3 : Int32))), .val (.int (p4 &&& (3 : Int32))), .val (.int v111), .val (.ref v112), .val (.ref y118), .val (.ref b119), .unset, .unset] [(.ref b119)])) rfl (hb hby at_241)
              refine OwnEnd.go (fun _ k => st257 _ k) ?_
              show OwnEnd p e below s _ _ _ (T257.setTop (mkF m 244 #[.val (.int p1), .val (.int p2), .val (.int p3), .val (.int p4), .val (.int (p1 &&& (3 : Int32))), .val (.int v101), .val (.ref v102), .val (.ref y108), .val (.int v109), .val (.int v110), .val (.int (((p3.toUInt32 >>> ((2 : Int32) &&& 31).toUInt32).toInt32) &&& (3 : Int32))), .val (.int (((p3.toUInt32 >>> ((4 : Int32) &&& 31).toUInt32).toInt32) &&& (3 : Int32))), .val (.int (p4 &&& (3 : Int32))), .val (.int v111), .val (.ref v112), .val (.ref y118), .val (.ref b119), .unset, .unset] [(.ref a_ATTRIBUTE), (.ref b119)]))
              obtain ⟨_, T258, L258, X258, hQ258, st258⟩ := ownCallV X257 hx hZ hown ww33 ww34 ww36 ww35 ww14 ww37 (by decide) (rm5d2attr l Z a0 hw [] b119 a_ATTRIBUTE y134 y135 ((rc2 + (((p3.toUInt32 >>> ((4 : Int32) &&& 31).toUInt32).toInt32) &&& (3 : Int32))) + (1 : Int32)) ((0 : Int32) + (p1 &&& (3 : Int32))) (rc2 + (((p3.toUInt32 >>> ((4 : Int32) &&& 31).toUInt32).toInt32) &&& (3 : Int32))) (tt2 + (((p3.toUInt32 >>> ((2 : Int32) &&& 31).toUInt32).toInt32) &&& (3 : Int32))) (0 : Int32) (0 : Int32) (0 : Int32) (0 : Int32) a_ATTRIBUTE a_ELEMENT a_DOCUMENT T245.heap n0 Y245 O245 S_ATTRIBUTE S_ELEMENT S_DOCUMENT rfl n_ATTRIBUTE_ELEMENT n_ATTRIBUTE_DOCUMENT P246) e257 F247 0 (by decide) (by decide) (by decide) (by decide) (g := (mkF m 244 #[.val (.int p1), .val (.int p2), .val (.int p3), .val (.int p4), .val (.int (p1 &&& (3 : Int32))), .val (.int v101), .val (.ref v102), .val (.ref y108), .val (.int v109), .val (.int v110), .val (.int (((p3.toUInt32 >>> ((2 : Int32) &&& 31).toUInt32).toInt32) &&& (3 : Int32))), .val (.int (((p3.toUInt32 >>> ((4 : Int32) &&& 31).toUInt32).toInt32) &&& (3 : Int32))), .val (.int (p4 &&& (3 : Int32))), .val (.int v111), .val (.ref v112), .val (.ref y118), .val (.ref b119), .unset, .unset] [(.ref a_ATTRIBUTE), (.ref b119)])) rfl (by rw [hml]; rfl) (argsL := [(.ref a_ATTRIBUTE)]) (rest := []) (lenOf pd0_3 rfl) rfl rfl (by show 2 * 0 + _ ≤ _; exact Nat.le_of_eq rfl) (hb hby at_244)
              obtain ⟨rfl, N258q, K258q, P259⟩ := hQ258
              have N258 := Fr.app N245 N258q
              have F260 := F247.keep K258q
              have K258 := K245.trans K258q (allS (Or.inr v119) (allS (Or.inr (Nat.le_trans K119.1 P131)) (allS (Or.inr (Nat.le_trans K119.1 P132)) all0)))
              have Y258 := Nat.le_trans Y245 K258q.1
              have O258 := O245.keep K258q (allS u119 (allS P129 (allS P130 all0)))
              refine OwnEnd.go (fun _ k => st258 _ k) ?_
              show OwnEnd p e below s _ _ _ (T258.setTop (mkF m 247 #[.val (.int p1), .val (.int p2), .val (.int p3), .val (.int p4), .val (.int (p1 &&& (3 : Int32))), .val (.int v101), .val (.ref v102), .val (.ref y108), .val (.int v109), .val (.int v110), .val (.int (((p3.toUInt32 >>> ((2 : Int32) &&& 31).toUInt32).toInt32) &&& (3 : Int32))), .val (.int (((p3.toUInt32 >>> ((4 : Int32) &&& 31).toUInt32).toInt32) &&& (3 : Int32))), .val (.int (p4 &&& (3 : Int32))), .val (.int v111), .val (.ref v112), .val (.ref y118), .val (.ref b119), .unset, .unset] [(.int ((rc2 + (((p3.toUInt32 >>> ((4 : Int32) &&& 31).toUInt32).toInt32) &&& (3 : Int32))) + (1 : Int32)))]))
              refine OwnEnd.go (fun _ k => XS.pop X258.here hx rfl (hb hby at_247) rfl rfl k) ?_
              show OwnEnd p e below s _ _ _ (T258.setTop (mkF m 248 #[.val (.int p1), .val (.int p2), .val (.int p3), .val (.int p4), .val (.int (p1 &&& (3 : Int32))), .val (.int v101), .val (.ref v102), .val (.ref y108), .val (.int v109), .val (.int v110), .val (.int (((p3.toUInt32 >>> ((2 : Int32) &&& 31).toUInt32).toInt32) &&& (3 : Int32))), .val (.int (((p3.toUInt32 >>> ((4 : Int32) &&& 31).toUInt32).toInt32) &&& (3 : Int32))), .val (.int (p4 &&& (3 : Int32))), .val (.int v111), .val (.ref v112), .val (.ref y118), .val (.ref b119), .unset, .unset] []))
              refine OwnEnd.go (fun _ k => XS.iload X258.here hx rfl (hb hby at_248) rfl  k) ?_
              show OwnEnd p e below s _ _ _ (T258.setTop (mkF m 250 #[.val (.int p1), .val (.int p2), .val (.int p3), .val (.int p4), .val (.int (p1 &&& (3 : Int32))), .val (.int v101), .val (.ref v102), .val (.ref y108), .val (.int v109), .val (.int v110), .val (.int (((p3.toUInt32 >>> ((2 : Int32) &&& 31).toUInt32).toInt32) &&& (3 : Int32))), .val (.int (((p3.toUInt32 >>> ((4 : Int32) &&& 31).toUInt32).toInt32) &&& (3 : Int32))), .val (.int (p4 &&& (3 : Int32))), .val (.int v111), .val (.ref v112), .val (.ref y118), .val (.ref b119), .unset, .unset] [(.int (p4 &&& (3 : Int32)))]))
              refine OwnEnd.go (fun _ k => XS.iconst X258.here hx rfl (hb hby at_250) k) ?_
              show OwnEnd p e below s _ _ _ (T258.setTop (mkF m 251 #[.val (.int p1), .val (.int p2), .val (.int p3), .val (.int p4), .val (.int (p1 &&& (3 : Int32))), .val (.int v101), .val (.ref v102), .val (.ref y108), .val (.int v109), .val (.int v110), .val (.int (((p3.toUInt32 >>> ((2 : Int32) &&& 31).toUInt32).toInt32) &&& (3 : Int32))), .val (.int (((p3.toUInt32 >>> ((4 : Int32) &&& 31).toUInt32).toInt32) &&& (3 : Int32))), .val (.int (p4 &&& (3 : Int32))), .val (.int v111), .val (.ref v112), .val (.ref y118), .val (.ref b119), .unset, .unset] [(.int (2 : Int32)), (.int (p4 &&& (3 : Int32)))]))
              refine OwnEnd.go (fun _ k => XS.icmpNo X258.here hx rfl (hb hby at_251) rfl (teq hc244).2 k) ?_
              show OwnEnd p e below s _ _ _ (T258.setTop (mkF m 254 #[.val (.int p1), .val (.int p2), .val (.int p3), .val (.int p4), .val (.int (p1 &&& (3 : Int32))), .val (.int v101), .val (.ref v102), .val (.ref y108), .val (.int v109), .val (.int v110), .val (.int (((p3.toUInt32 >>> ((2 : Int32) &&& 31).toUInt32).toInt32) &&& (3 : Int32))), .val (.int (((p3.toUInt32 >>> ((4 : Int32) &&& 31).toUInt32).toInt32) &&& (3 : Int32))), .val (.int (p4 &&& (3 : Int32))), .val (.int v111), .val (.ref v112), .val (.ref y118), .val (.ref b119), .unset, .unset] []))
              refine OwnEnd.go (fun _ k => XS.aload X258.here hx rfl (hb hby at_254) rfl rfl k) ?_
              show OwnEnd p e below s _ _ _ (T258.setTop (mkF m 256 #[.val (.int p1), .val (.int p2), .val (.int p3), .val (.int p4), .val (.int (p1 &&& (3 : Int32))), .val (.int v101), .val (.ref v102), .val (.ref y108), .val (.int v109), .val (.int v110), .val (.int (((p3.toUInt32 >>> ((2 : Int32) &&& 31).toUInt32).toInt32) &&& (3 : Int32))), .val (.int (((p3.toUInt32 >>> ((4 : Int32) &&& 31).toUInt32).toInt32) &&& (3 : Int32))), .val (.int (p4 &&& (3 : Int32))), .val (.int v111), .val (.ref v112), .val (.ref y118), .val (.ref b119), .unset, .unset] [(.ref b119)]))
              obtain ⟨_, T262, L262, X262, hQ262, st262⟩ := ownCallV X258 hx hZ hown ww60 ww61 ww63 ww62 ww14 ww64 (by decide) (rm9d2 l Z a0 hw [] b119 y134 y135 (((rc2 + (((p3.toUInt32 >>> ((4 : Int32) &&& 31).toUInt32).toInt32) &&& (3 : Int32))) + (1 : Int32)) + (1 : Int32)) ((0 : Int32) + (p1 &&& (3 : Int32))) (rc2 + (((p3.toUInt32 >>> ((4 : Int32) &&& 31).toUInt32).toInt32) &&& (3 : Int32))) (tt2 + (((p3.toUInt32 >>> ((2 : Int32) &&& 31).toUInt32).toInt32) &&& (3 : Int32))) ((0 : Int32) + (1 : Int32)) (0 : Int32) (0 : Int32) (0 : Int32) T258.heap n0 Y258  P259) (rfl : T258.heap = T258.heap) F260 0 (by decide) (by decide) (by decide) (by decide) (g := (mkF m 256 #[.val (.int p1), .val (.int p2), .val (.int p3), .val (.int p4), .val (.int (p1 &&& (3 : Int32))), .val (.int v101), .val (.ref v102), .val (.ref y108), .val (.int v109), .val (.int v110), .val (.int (((p3.toUInt32 >>> ((2 : Int32) &&& 31).toUInt32).toInt32) &&& (3 : Int32))), .val (.int (((p3.toUInt32 >>> ((4 : Int32) &&& 31).toUInt32).toInt32) &&& (3 : Int32))), .val (.int (p4 &&& (3 : Int32))), .val (.int v111), .val (.ref v112), .val (.ref y118), .val (.ref b119), .unset, .unset] [(.ref b119)])) rfl (by rw [hml]; rfl) (argsL := []) (rest := []) (lenOf pd0_1 rfl) rfl rfl (by show 2 * 0 + _ ≤ _; exact Nat.le_of_eq rfl) (hb hby at_256)
              obtain ⟨rfl, N262q, K262q, P263⟩ := hQ262
              have N262 := Fr.app N258 N262q
              have F264 := F260.keep K262q
              have K262 := K258.trans K262q (allS (Or.inr v119) (allS (Or.inr (Nat.le_trans K119.1 P131)) (allS (Or.inr (Nat.le_trans K119.1 P132)) all0)))
              have Y262 := Nat.le_trans Y258 K262q.1
              have O262 := O258.keep K262q (allS u119 (allS P129 (allS P130 all0)))
              refine OwnEnd.go (fun _ k => st262 _ k) ?_
              show OwnEnd p e below s _ _ _ (T262.setTop (mkF m 259 #[.val (.int p1), .val (.int p2), .val (.int p3), .val (.int p4), .val (.int (p1 &&& (3 : Int32))), .val (.int v101), .val (.ref v102), .val (.ref y108), .val (.int v109), .val (.int v110), .val (.int (((p3.toUInt32 >>> ((2 : Int32) &&& 31).toUInt32).toInt32) &&& (3 : Int32))), .val (.int (((p3.toUInt32 >>> ((4 : Int32) &&& 31).toUInt32).toInt32) &&& (3 : Int32))), .val (.int (p4 &&& (3 : Int32))), .val (.int v111), .val (.ref v112), .val (.ref y118), .val (.ref b119), .unset, .unset] []))
              refine OwnEnd.go (fun _ k => XS.goto X262.here hx rfl (pc0 := 259) (pc' := 276) rfl (hb hby at_259) (by decide) (by decide) k) ?_
              show OwnEnd p e below s _ _ _ (T262.setTop (mkF m 276 #[.val (.int p1), .val (.int p2), .val (.int p3), .val (.int p4), .val (.int (p1 &&& (3 : Int32))), .val (.int v101), .val (.ref v102), .val (.ref y108), .val (.int v109), .val (.int v110), .val (.int (((p3.toUInt32 >>> ((2 : Int32) &&& 31).toUInt32).toInt32) &&& (3 : Int32))), .val (.int (((p3.toUInt32 >>> ((4 : Int32) &&& 31).toUInt32).toInt32) &&& (3 : Int32))), .val (.int (p4 &&& (3 : Int32))), .val (.int v111), .val (.ref v112), .val (.ref y118), .val (.ref b119), .unset, .unset] []))
              refine OwnEnd.go (fun _ k => XS.iload X262.here hx rfl (hb hby at_276) rfl  k) ?_
              show OwnEnd p e below s _ _ _ (T262.setTop (mkF m 278 #[.val (.int p1), .val (.int p2), .val (.int p3), .val (.int p4), .val (.int (p1 &&& (3 : Int32))), .val (.int v101), .val (.ref v102), .val (.ref y108), .val (.int v109), .val (.int v110), .val (.int (((p3.toUInt32 >>> ((2 : Int32) &&& 31).toUInt32).toInt32) &&& (3 : Int32))), .val (.int (((p3.toUInt32 >>> ((4 : Int32) &&& 31).toUInt32).toInt32) &&& (3 : Int32))), .val (.int (p4 &&& (3 : Int32))), .val (.int v111), .val (.ref v112), .val (.ref y118), .val (.ref b119), .unset, .unset] [(.int (p4 &&& (3 : Int32)))]))
              refine OwnEnd.go (fun _ k => XS.iconst X262.here hx rfl (hb hby at_278) k) ?_
              show OwnEnd p e below s _ _ _ (T262.setTop (mkF m 279 #[.val (.int p1), .val (.int p2), .val (.int p3), .val (.int p4), .val (.int (p1 &&& (3 : Int32))), .val (.int v101), .val (.ref v102), .val (.ref y108), .val (.int v109), .val (.int v110), .val (.int (((p3.toUInt32 >>> ((2 : Int32) &&& 31).toUInt32).toInt32) &&& (3 : Int32))), .val (.int (((p3.toUInt32 >>> ((4 : Int32) &&& 31).toUInt32).toInt32) &&& (3 : Int32))), .val (.int (p4 &&& (3 : Int32))), .val (.int v111), .val (.ref v112), .val (.ref y118), .val (.ref b119), .unset, .unset] [(.int (1 : Int32)), (.int (p4 &&& (3 : Int32)))]))
              refine OwnEnd.go (fun _ k => XS.icmpYes X262.here hx rfl (pc0 := 279) (pc' := 288) rfl (hb hby at_279) rfl (feq (by rw [hc244]; decide : ¬ (p4 &&& (3 : Int32)) = (1 : Int32))).2 (by decide) (by decide) k) ?_
              show OwnEnd p e below s _ _ _ (T262.setTop (mkF m 288 #[.val (.int p1), .val (.int p2), .val (.int p3), .val (.int p4), .val (.int (p1 &&& (3 : Int32))), .val (.int v101), .val (.ref v102), .val (.ref y108), .val (.int v109), .val (.int v110), .val (.int (((p3.toUInt32 >>> ((2 : Int32) &&& 31).toUInt32).toInt32) &&& (3 : Int32))), .val (.int (((p3.toUInt32 >>> ((4 : Int32) &&& 31).toUInt32).toInt32) &&& (3 : Int32))), .val (.int (p4 &&& (3 : Int32))), .val (.int v111), .val (.ref v112), .val (.ref y118), .val (.ref b119), .unset, .unset] []))
              refine OwnEnd.go (fun _ k => XS.iload X262.here hx rfl (hb hby at_288) rfl  k) ?_
              show OwnEnd p e below s _ _ _ (T262.setTop (mkF m 290 #[.val (.int p1), .val (.int p2), .val (.int p3), .val (.int p4), .val (.int (p1 &&& (3 : Int32))), .val (.int v101), .val (.ref v102), .val (.ref y108), .val (.int v109), .val (.int v110), .val (.int (((p3.toUInt32 >>> ((2 : Int32) &&& 31).toUInt32).toInt32) &&& (3 : Int32))), .val (.int (((p3.toUInt32 >>> ((4 : Int32) &&& 31).toUInt32).toInt32) &&& (3 : Int32))), .val (.int (p4 &&& (3 : Int32))), .val (.int v111), .val (.ref v112), .val (.ref y118), .val (.ref b119), .unset, .unset] [(.int v101)]))
              refine OwnEnd.go (fun _ k => XS.ifYes X262.here hx rfl (pc0 := 290) (pc' := 299) rfl (hb hby at_290) rfl ((if0 _ _).trans (feq hc149).2) (by decide) (by decide) k) ?_
              show OwnEnd p e below s _ _ _ (T262.setTop (mkF m 299 #[.val (.int p1), .val (.int p2), .val (.int p3), .val (.int p4), .val (.int (p1 &&& (3 : Int32))), .val (.int v101), .val (.ref v102), .val (.ref y108), .val (.int v109), .val (.int v110), .val (.int (((p3.toUInt32 >>> ((2 : Int32) &&& 31).toUInt32).toInt32) &&& (3 : Int32))), .val (.int (((p3.toUInt32 >>> ((4 : Int32) &&& 31).toUInt32).toInt32) &&& (3 : Int32))), .val (.int (p4 &&& (3 : Int32))), .val (.int v111), .val (.ref v112), .val (.ref y118), .val (.ref b119), .unset, .unset] []))
              refine OwnEnd.go (fun _ k => XS.iload X262.here hx rfl (hb hby at_299) rfl  k) ?_
              show OwnEnd p e below s _ _ _ (T262.setTop (mkF m 301 #[.val (.int p1), .val (.int p2), .val (.int p3), .val (.int p4), .val (.int (p1 &&& (3 : Int32))), .val (.int v101), .val (.ref v102), .val (.ref y108), .val (.int v109), .val (.int v110), .val (.int (((p3.toUInt32 >>> ((2 : Int32) &&& 31).toUInt32).toInt32) &&& (3 : Int32))), .val (.int (((p3.toUInt32 >>> ((4 : Int32) &&& 31).toUInt32).toInt32) &&& (3 : Int32))), .val (.int (p4 &&& (3 : Int32))), .val (.int v111), .val (.ref v112), .val (.ref y118), .val (.ref b119), .unset, .unset] [(.int (((p3.toUInt32 >>> ((4 : Int32) &&& 31).toUInt32).toInt32) &&& (3 : Int32)))]))
              refine OwnEnd.go (fun _ k => XS.iload X262.here hx rfl (hb hby at_301) rfl  k) ?_
              show OwnEnd p e below s _ _ _ (T262.setTop (mkF m 303 #[.val (.int p1), .val (.int p2), .val (.int p3), .val (.int p4), .val (.int (p1 &&& (3 : Int32))), .val (.int v101), .val (.ref v102), .val (.ref y108), .val (.int v109), .val (.int v110), .val (.int (((p3.toUInt32 >>> ((2 : Int32) &&& 31).toUInt32).toInt32) &&& (3 : Int32))), .val (.int (((p3.toUInt32 >>> ((4 : Int32) &&& 31).toUInt32).toInt32) &&& (3 : Int32))), .val (.int (p4 &&& (3 : Int32))), .val (.int v111), .val (.ref v112), .val (.ref y118), .val (.ref b119), .unset, .unset] [(.int (((p3.toUInt32 >>> ((2 : Int32) &&& 31).toUInt32).toInt32) &&& (3 : Int32))), (.int (((p3.toUInt32 >>> ((4 : Int32) &&& 31).toUInt32).toInt32) &&& (3 : Int32)))]))
              refine OwnEnd.go (fun _ k => XS.isub X262.here hx rfl (hb hby at_303) rfl k) ?_
              show OwnEnd p e below s _ _ _ (T262.setTop (mkF m 304 #[.val (.int p1), .val (.int p2), .val (.int p3), .val (.int p4), .val (.int (p1 &&& (3 : Int32))), .val (.int v101), .val (.ref v102), .val (.ref y108), .val (.int v109), .val (.int v110), .val (.int (((p3.toUInt32 >>> ((2 : Int32) &&& 31).toUInt32).toInt32) &&& (3 : Int32))), .val (.int (((p3.toUInt32 >>> ((4 : Int32) &&& 31).toUInt32).toInt32) &&& (3 : Int32))), .val (.int (p4 &&& (3 : Int32))), .val (.int v111), .val (.ref v112), .val (.ref y118), .val (.ref b119), .unset, .unset] [(.int ((((p3.toUInt32 >>> ((4 : Int32) &&& 31).toUInt32).toInt32) &&& (3 : Int32)) - (((p3.toUInt32 >>> ((2 : Int32) &&& 31).toUInt32).toInt32) &&& (3 : Int32))))]))
              refine OwnEnd.go (fun _ k => XS.istore X262.here hx rfl (hb hby at_304) rfl  (l' := #[.val (.int p1), .val (.int p2), .val (.int p3), .val (.int p4), .val (.int (p1 &&& (3 : Int32))), .val (.int v101), .val (.ref v102), .val (.ref y108), .val (.int v109), .val (.int v110), .val (.int (((p3.toUInt32 >>> ((2 : Int32) &&& 31).toUInt32).toInt32) &&& (3 : Int32))), .val (.int (((p3.toUInt32 >>> ((4 : Int32) &&& 31).toUInt32).toInt32) &&& (3 : Int32))), .val (.int (p4 &&& (3 : Int32))), .val (.int v111), .val (.ref v112), .val (.ref y118), .val (.ref b119), .unset, .val (.int ((((p3.toUInt32 >>> ((4 : Int32) &&& 31).toUInt32).toInt32) &&& (3 : Int32)) - (((p3.toUInt32 >>> ((2 : Int32) &&& 31).toUInt32).toInt32) &&& (3 : Int32))))]) rfl k) ?_
              show OwnEnd p e below s _ _ _ (T262.setTop (mkF m 306 #[.val (.int p1), .val (.int p2), .val (.int p3), .val (.int p4), .val (.int (p1 &&& (3 : Int32))), .val (.int v101), .val (.ref v102), .val (.ref y108), .val (.int v109), .val (.int v110), .val (.int (((p3.toUInt32 >>> ((2 : Int32) &&& 31).toUInt32).toInt32) &&& (3 : Int32))), .val (.int (((p3.toUInt32 >>> ((4 : Int32) &&& 31).toUInt32).toInt32) &&& (3 : Int32))), .val (.int (p4 &&& (3 : Int32))), .val (.int v111), .val (.ref v112), .val (.ref y118), .val (.ref b119), .unset, .val (.int ((((p3.toUInt32 >>> ((4 : Int32) &&& 31).toUInt32).toInt32) &&& (3 : Int32)) - (((p3.toUInt32 >>> ((2 : Int32) &&& 31).toUInt32).toInt32) &&& (3 : Int32))))] []))
              refine OwnEnd.go (fun _ k => XS.iload X262.here hx rfl (hb hby at_306) rfl  k) ?_
              show OwnEnd p e below s _ _ _ (T262.setTop (mkF m 308 #[.val (.int p1), .val (.int p2), .val (.int p3), .val (.int p4), .val (.int (p1 &&& (3 : Int32))), .val (.int v101), .val (.ref v102), .val (.ref y108), .val (.int v109), .val (.int v110), .val (.int (((p3.toUInt32 >>> ((2 : Int32) &&& 31).toUInt32).toInt32) &&& (3 : Int32))), .val (.int (((p3.toUInt32 >>> ((4 : Int32) &&& 31).toUInt32).toInt32) &&& (3 : Int32))), .val (.int (p4 &&& (3 : Int32))), .val (.int v111), .val (.ref v112), .val (.ref y118), .val (.ref b119), .unset, .val (.int ((((p3.toUInt32 >>> ((4 : Int32) &&& 31).toUInt32).toInt32) &&& (3 : Int32)) - (((p3.toUInt32 >>> ((2 : Int32) &&& 31).toUInt32).toInt32) &&& (3 : Int32))))] [(.int (p4 &&& (3 : Int32)))]))
              refine OwnEnd.go (fun _ k => XS.iconst X262.here hx rfl (hb hby at_308) k) ?_
              show OwnEnd p e below s _ _ _ (T262.setTop (mkF m 309 #[.val (.int p1), .val (.int p2), .val (.int p3), .val (.int p4), .val (.int (p1 &&& (3 : Int32))), .val (.int v101), .val (.ref v102), .val (.ref y108), .val (.int v109), .val (.int v110), .val (.int (((p3.toUInt32 >>> ((2 : Int32) &&& 31).toUInt32).toInt32) &&& (3 : Int32))), .val (.int (((p3.toUInt32 >>> ((4 : Int32) &&& 31).toUInt32).toInt32) &&& (3 : Int32))), .val (.int (p4 &&& (3 : Int32))), .val (.int v111), .val (.ref v112), .val (.ref y118), .val (.ref b119), .unset, .val (.int ((((p3.toUInt32 >>> ((4 : Int32) &&& 31).toUInt32).toInt32) &&& (3 : Int32)) - (((p3.toUInt32 >>> ((2 : Int32) &&& 31).toUInt32).toInt32) &&& (3 : Int32))))] [(.int (2 : Int32)), (.int (p4 &&& (3 : Int32)))]))
              refine OwnEnd.go (fun _ k => XS.icmpNo X262.here hx rfl (hb hby at_309) rfl (teq hc244).2 k) ?_
              show OwnEnd p e below s _ _ _ (T262.setTop (mkF m 312 #[.val (.int p1), .val (.int p2), .val (.int p3), .val (.int p4), .val (.int (p1 &&& (3 : Int32))), .val (.int v101), .val (.ref v102), .val (.ref y108), .val (.int v109), .val (.int v110), .val (.int (((p3.toUInt32 >>> ((2 : Int32) &&& 31).toUInt32).toInt32) &&& (3 : Int32))), .val (.int (((p3.toUInt32 >>> ((4 : Int32) &&& 31).toUInt32).toInt32) &&& (3 : Int32))), .val (.int (p4 &&& (3 : Int32))), .val (.int v111), .val (.ref v112), .val (.ref y118), .val (.ref b119), .unset, .val (.int ((((p3.toUInt32 >>> ((4 : Int32) &&& 31).toUInt32).toInt32) &&& (3 : Int32)) - (((p3.toUInt32 >>> ((2 : Int32) &&& 31).toUInt32).toInt32) &&& (3 : Int32))))] []))
              refine OwnEnd.go (fun _ k => XS.iload X262.here hx rfl (hb hby at_312) rfl  k) ?_
              show OwnEnd p e below s _ _ _ (T262.setTop (mkF m 314 #[.val (.int p1), .val (.int p2), .val (.int p3), .val (.int p4), .val (.int (p1 &&& (3 : Int32))), .val (.int v101), .val (.ref v102), .val (.ref y108), .val (.int v109), .val (.int v110), .val (.int (((p3.toUInt32 >>> ((2 : Int32) &&& 31).toUInt32).toInt32) &&& (3 : Int32))), .val (.int (((p3.toUInt32 >>> ((4 : Int32) &&& 31).toUInt32).toInt32) &&& (3 : Int32))), .val (.int (p4 &&& (3 : Int32))), .val (.int v111), .val (.ref v112), .val (.ref y118), .val (.ref b119), .unset, .val (.int ((((p3.toUInt32 >>> ((4 : Int32) &&& 31).toUInt32).toInt32) &&& (3 : Int32)) - (((p3.toUInt32 >>> ((2 : Int32) &&& 31).toUInt32).toInt32) &&& (3 : Int32))))] [(.int ((((p3.toUInt32 >>> ((4 : Int32) &&& 31).toUInt32).toInt32) &&& (3 : Int32)) - (((p3.toUInt32 >>> ((2 : Int32) &&& 31).toUInt32).toInt32) &&& (3 : Int32))))]))
              refine OwnEnd.go (fun _ k => XS.iload X262.here hx rfl (hb hby at_314) rfl  k) ?_
              show OwnEnd p e below s _ _ _ (T262.setTop (mkF m 316 #[.val (.int p1), .val (.int p2), .val (.int p3), .val (.int p4), .val (.int (p1 &&& (3 : Int32))), .val (.int v101), .val (.ref v102), .val (.ref y108), .val (.int v109), .val (.int v110), .val (.int (((p3.toUInt32 >>> ((2 : Int32) &&& 31).toUInt32).toInt32) &&& (3 : Int32))), .val (.int (((p3.toUInt32 >>> ((4 : Int32) &&& 31).toUInt32).toInt32) &&& (3 : Int32))), .val (.int (p4 &&& (3 : Int32))), .val (.int v111), .val (.ref v112), .val (.ref y118), .val (.ref b119), .unset, .val (.int ((((p3.toUInt32 >>> ((4 : Int32) &&& 31).toUInt32).toInt32) &&& (3 : Int32)) - (((p3.toUInt32 >>> ((2 : Int32) &&& 31).toUInt32).toInt32) &&& (3 : Int32))))] [(.int v111), (.int ((((p3.toUInt32 >>> ((4 : Int32) &&& 31).toUInt32).toInt32) &&& (3 : Int32)) - (((p3.toUInt32 >>> ((2 : Int32) &&& 31).toUInt32).toInt32) &&& (3 : Int32))))]))
              refine OwnEnd.go (fun _ k => XS.ifNo X262.here hx rfl (hb hby at_316) rfl ((if0 _ _).trans (feq hc249).1) k) ?_
              show OwnEnd p e below s _ _ _ (T262.setTop (mkF m 319 #[.val (.int p1), .val (.int p2), .val (.int p3), .val (.int p4), .val (.int (p1 &&& (3 : Int32))), .val (.int v101), .val (.ref v102), .val (.ref y108), .val (.int v109), .val (.int v110), .val (.int (((p3.toUInt32 >>> ((2 : Int32) &&& 31).toUInt32).toInt32) &&& (3 : Int32))), .val (.int (((p3.toUInt32 >>> ((4 : Int32) &&& 31).toUInt32).toInt32) &&& (3 : Int32))), .val (.int (p4 &&& (3 : Int32))), .val (.int v111), .val (.ref v112), .val (.ref y118), .val (.ref b119), .unset, .val (.int ((((p3.toUInt32 >>> ((4 : Int32) &&& 31).toUInt32).toInt32) &&& (3 : Int32)) - (((p3.toUInt32 >>> ((2 : Int32) &&& 31).toUInt32).toInt32) &&& (3 : Int32))))] [(.int ((((p3.toUInt32 >>> ((4 : Int32) &&& 31).toUInt32).toInt32) &&& (3 : Int32)) - (((p3.toUInt32 >>> ((2 : Int32) &&& 31).toUInt32).toInt32) &&& (3 : Int32))))]))
              refine OwnEnd.go (fun _ k => XS.iconst X262.here hx rfl (hb hby at_319) k) ?_
              show OwnEnd p e below s _ _ _ (T262.setTop (mkF m 320 #[.val (.int p1), .val (.int p2), .val (.int p3), .val (.int p4), .val (.int (p1 &&& (3 : Int32))), .val (.int v101), .val (.ref v102), .val (.ref y108), .val (.int v109), .val (.int v110), .val (.int (((p3.toUInt32 >>> ((2 : Int32) &&& 31).toUInt32).toInt32) &&& (3 : Int32))), .val (.int (((p3.toUInt32 >>> ((4 : Int32) &&& 31).toUInt32).toInt32) &&& (3 : Int32))), .val (.int (p4 &&& (3 : Int32))), .val (.int v111), .val (.ref v112), .val (.ref y118), .val (.ref b119), .unset, .val (.int ((((p3.toUInt32 >>> ((4 : Int32) &&& 31).toUInt32).toInt32) &&& (3 : Int32)) - (((p3.toUInt32 >>> ((2 : Int32) &&& 31).toUInt32).toInt32) &&& (3 : Int32))))] [(.int (2 : Int32)), (.int ((((p3.toUInt32 >>> ((4 : Int32) &&& 31).toUInt32).toInt32) &&& (3 : Int32)) - (((p3.toUInt32 >>> ((2 : Int32) &&& 31).toUInt32).toInt32) &&& (3 : Int32))))]))
              refine OwnEnd.go (fun _ k => XS.goto X262.here hx rfl (pc0 := 320) (pc' := 324) rfl (hb hby at_320) (by decide) (by decide) k) ?_
              show OwnEnd p e below s _ _ _ (T262.setTop (mkF m 324 #[.val (.int p1), .val (.int p2), .val (.int p3), .val (.int p4), .val (.int (p1 &&& (3 : Int32))), .val (.int v101), .val (.ref v102), .val (.ref y108), .val (.int v109), .val (.int v110), .val (.int (((p3.toUInt32 >>> ((2 : Int32) &&& 31).toUInt32).toInt32) &&& (3 : Int32))), .val (.int (((p3.toUInt32 >>> ((4 : Int32) &&& 31).toUInt32).toInt32) &&& (3 : Int32))), .val (.int (p4 &&& (3 : Int32))), .val (.int v111), .val (.ref v112), .val (.ref y118), .val (.ref b119), .unset, .val (.int ((((p3.toUInt32 >>> ((4 : Int32) &&& 31).toUInt32).toInt32) &&& (3 : Int32)) - (((p3.toUInt32 >>> ((2 : Int32) &&& 31).toUInt32).toInt32) &&& (3 : Int32))))] [(.int (2 : Int32)), (.int ((((p3.toUInt32 >>> ((4 : Int32) &&& 31).toUInt32).toInt32) &&& (3 : Int32)) - (((p3.toUInt32 >>> ((2 : Int32) &&& 31).toUInt32).toInt32) &&& (3 : Int32))))]))
              refine OwnEnd.go (fun _ k => XS.iadd X262.here hx rfl (hb hby at_324) rfl k) ?_
              show OwnEnd p e below s _ _ _ (T262.setTop (mkF m 325 #[.val (.int p1), .val (.int p2), .val (.int p3), .val (.int p4), .val (.int (p1 &&& (3 : Int32))), .val (.int v101), .val (.ref v102), .val (.ref y108), .val (.int v109), .val (.int v110), .val (.int (((p3.toUInt32 >>> ((2 : Int32) &&& 31).toUInt32).toInt32) &&& (3 : Int32))), .val (.int (((p3.toUInt32 >>> ((4 : Int32) &&& 31).toUInt32).toInt32) &&& (3 : Int32))), .val (.int (p4 &&& (3 : Int32))), .val (.int v111), .val (.ref v112), .val (.ref y118), .val (.ref b119), .unset, .val (.int ((((p3.toUInt32 >>> ((4 : Int32) &&& 31).toUInt32).toInt32) &&& (3 : Int32)) - (((p3.toUInt32 >>> ((2 : Int32) &&& 31).toUInt32).toInt32) &&& (3 : Int32))))] [(.int (((((p3.toUInt32 >>> ((4 : Int32) &&& 31).toUInt32).toInt32) &&& (3 : Int32)) - (((p3.toUInt32 >>> ((2 : Int32) &&& 31).toUInt32).toInt32) &&& (3 : Int32))) + (2 : Int32)))]))
              refine OwnEnd.go (fun _ k => XS.istore X262.here hx rfl (hb hby at_325) rfl  (l' := #[.val (.int p1), .val (.int p2), .val (.int p3), .val (.int p4), .val (.int (p1 &&& (3 : Int32))), .val (.int v101), .val (.ref v102), .val (.ref y108), .val (.int v109), .val (.int v110), .val (.int (((p3.toUInt32 >>> ((2 : Int32) &&& 31).toUInt32).toInt32) &&& (3 : Int32))), .val (.int (((p3.toUInt32 >>> ((4 : Int32) &&& 31).toUInt32).toInt32) &&& (3 : Int32))), .val (.int (p4 &&& (3 : Int32))), .val (.int v111), .val (.ref v112), .val (.ref y118), .val (.ref b119), .unset, .val (.int (((((p3.toUInt32 >>> ((4 : Int32) &&& 31).toUInt32).toInt32) &&& (3 : Int32)) - (((p3.toUInt32 >>> ((2 : Int32) &&& 31).toUInt32).toInt32) &&& (3 : Int32))) + (2 : Int32)))]) rfl k) ?_
              show OwnEnd p e below s _ _ _ (T262.setTop (mkF m 327 #[.val (.int p1), .val (.int p2), .val (.int p3), .val (.int p4), .val (.int (p1 &&& (3 : Int32))), .val (.int v101), .val (.ref v102), .val (.ref y108), .val (.int v109), .val (.int v110), .val (.int (((p3.toUInt32 >>> ((2 : Int32) &&& 31).toUInt32).toInt32) &&& (3 : Int32))), .val (.int (((p3.toUInt32 >>> ((4 : Int32) &&& 31).toUInt32).toInt32) &&& (3 : Int32))), .val (.int (p4 &&& (3 : Int32))), .val (.int v111), .val (.ref v112), .val (.ref y118), .val (.ref b119), .unset, .val (.int (((((p3.toUInt32 >>> ((4 : Int32) &&& 31).toUInt32).toInt32) &&& (3 : Int32)) - (((p3.toUInt32 >>> ((2 : Int32) &&& 31).toUInt32).toInt32) &&& (3 : Int32))) + (2 : Int32)))] []))
              refine OwnEnd.go (fun _ k => XS.iload X262.here hx rfl (hb hby at_327) rfl  k) ?_
              show OwnEnd p e below s _ _ _ (T262.setTop (mkF m 329 #[.val (.int p1), .val (.int p2), .val (.int p3), .val (.int p4), .val (.int (p1 &&& (3 : Int32))), .val (.int v101), .val (.ref v102), .val (.ref y108), .val (.int v109), .val (.int v110), .val (.int (((p3.toUInt32 >>> ((2 : Int32) &&& 31).toUInt32).toInt32) &&& (3 : Int32))), .val (.int (((p3.toUInt32 >>> ((4 : Int32) &&& 31).toUInt32).toInt32) &&& (3 : Int32))), .val (.int (p4 &&& (3 : Int32))), .val (.int v111), .val (.ref v112), .val (.ref y118), .val (.ref b119), .unset, .val (.int (((((p3.toUInt32 >>> ((4 : Int32) &&& 31).toUInt32).toInt32) &&& (3 : Int32)) - (((p3.toUInt32 >>> ((2 : Int32) &&& 31).toUInt32).toInt32) &&& (3 : Int32))) + (2 : Int32)))] [(.int (p4 &&& (3 : Int32)))]))
              refine OwnEnd.go (fun _ k => XS.iconst X262.here hx rfl (hb hby at_329) k) ?_
              show OwnEnd p e below s _ _ _ (T262.setTop (mkF m 330 #[.val (.int p1), .val (.int p2), .val (.int p3), .val (.int p4), .val (.int (p1 &&& (3 : Int32))), .val (.int v101), .val (.ref v102), .val (.ref y108), .val (.int v109), .val (.int v110), .val (.int (((p3.toUInt32 >>> ((2 : Int32) &&& 31).toUInt32).toInt32) &&& (3 : Int32))), .val (.int (((p3.toUInt32 >>> ((4 : Int32) &&& 31).toUInt32).toInt32) &&& (3 : Int32))), .val (.int (p4 &&& (3 : Int32))), .val (.int v111), .val (.ref v112), .val (.ref y118), .val (.ref b119), .unset, .val (.int (((((p3.toUInt32 >>> ((4 : Int32) &&& 31).toUInt32).toInt32) &&& (3 : Int32)) - (((p3.toUInt32 >>> ((2 : Int32) &&& 31).toUInt32).toInt32) &&& (3 : Int32))) + (2 : Int32)))] [(.int (3 : Int32)), (.int (p4 &&& (3 : Int32)))]))
              refine OwnEnd.go (fun _ k => XS.icmpYes X262.here hx rfl (pc0 := 330) (pc' := 344) rfl (hb hby at_330) rfl (feq (by rw [hc244]; decide : ¬ (p4 &&& (3 : Int32)) = (3 : Int32))).2 (by decide) (by decide) k) ?_
              show OwnEnd p e below s _ _ _ (T262.setTop (mkF m 344 #[.val (.int p1), .val (.int p2), .val (.int p3), .val (.int p4), .val (.int (p1 &&& (3 : Int32))), .val (.int v101), .val (.ref v102), .val (.ref y108), .val (.int v109), .val (.int v110), .val (.int (((p3.toUInt32 >>> ((2 : Int32) &&& 31).toUInt32).toInt32) &&& (3 : Int32))), .val (.int (((p3.toUInt32 >>> ((4 : Int32) &&& 31).toUInt32).toInt32) &&& (3 : Int32))), .val (.int (p4 &&& (3 : Int32))), .val (.int v111), .val (.ref v112), .val (.ref y118), .val (.ref b119), .unset, .val (.int (((((p3.toUInt32 >>> ((4 : Int32) &&& 31).toUInt32).toInt32) &&& (3 : Int32)) - (((p3.toUInt32 >>> ((2 : Int32) &&& 31).toUInt32).toInt32) &&& (3 : Int32))) + (2 : Int32)))] []))
              refine OwnEnd.go (fun _ k => XS.iload X262.here hx rfl (hb hby at_344) rfl  k) ?_
              show OwnEnd p e below s _ _ _ (T262.setTop (mkF m 346 #[.val (.int p1), .val (.int p2), .val (.int p3), .val (.int p4), .val (.int (p1 &&& (3 : Int32))), .val (.int v101), .val (.ref v102), .val (.ref y108), .val (.int v109), .val (.int v110), .val (.int (((p3.toUInt32 >>> ((2 : Int32) &&& 31).toUInt32).toInt32) &&& (3 : Int32))), .val (.int (((p3.toUInt32 >>> ((4 : Int32) &&& 31).toUInt32).toInt32) &&& (3 : Int32))), .val (.int (p4 &&& (3 : Int32))), .val (.int v111), .val (.ref v112), .val (.ref y118), .val (.ref b119), .unset, .val (.int (((((p3.toUInt32 >>> ((4 : Int32) &&& 31).toUInt32).toInt32) &&& (3 : Int32)) - (((p3.toUInt32 >>> ((2 : Int32) &&& 31).toUInt32).toInt32) &&& (3 : Int32))) + (2 : Int32)))] [(.int (((((p3.toUInt32 >>> ((4 : Int32) &&& 31).toUInt32).toInt32) &&& (3 : Int32)) - (((p3.toUInt32 >>> ((2 : Int32) &&& 31).toUInt32).toInt32) &&& (3 : Int32))) + (2 : Int32)))]))
              by_cases hc266 : (((((p3.toUInt32 >>> ((4 : Int32) &&& 31).toUInt32).toInt32) &&& (3 : Int32)) - (((p3.toUInt32 >>> ((2 : Int32) &&& 31).toUInt32).toInt32) &&& (3 : Int32))) + (2 : Int32)) = (0 : Int32)
              · refine OwnEnd.go (fun _ k => XS.ifNo X262.here hx rfl (hb hby at_346) rfl ((if0 _ _).trans (teq hc266).2) k) ?_
                show OwnEnd p e below s _ _ _ (T262.setTop (mkF m 349 #[.val (.int p1), .val (.int p2), .val (.int p3), .val (.int p4), .val (.int (p1 &&& (3 : Int32))), .val (.int v101), .val (.ref v102), .val (.ref y108), .val (.int v109), .val (.int v110), .val (.int (((p3.toUInt32 >>> ((2 : Int32) &&& 31).toUInt32).toInt32) &&& (3 : Int32))), .val (.int (((p3.toUInt32 >>> ((4 : Int32) &&& 31).toUInt32).toInt32) &&& (3 : Int32))), .val (.int (p4 &&& (3 : Int32))), .val (.int v111), .val (.ref v112), .val (.ref y118), .val (.ref b119), .unset, .val (.int (((((p3.toUInt32 >>> ((4 : Int32) &&& 31).toUInt32).toInt32) &&& (3 : Int32)) - (((p3.toUInt32 >>> ((2 : Int32) &&& 31).toUInt32).toInt32) &&& (3 : Int32))) + (2 : Int32)))] []))
                refine OwnEnd.go (fun _ k => XS.iconst X262.here hx rfl (hb hby at_349) k) ?_
                show OwnEnd p e below s _ _ _ (T262.setTop (mkF m 350 #[.val (.int p1), .val (.int p2), .val (.int p3), .val (.int p4), .val (.int (p1 &&& (3 : Int32))), .val (.int v101), .val (.ref v102), .val (.ref y108), .val (.int v109), .val (.int v110), .val (.int (((p3.toUInt32 >>> ((2 : Int32) &&& 31).toUInt32).toInt32) &&& (3 : Int32))), .val (.int (((p3.toUInt32 >>> ((4 : Int32) &&& 31).toUInt32).toInt32) &&& (3 : Int32))), .val (.int (p4 &&& (3 : Int32))), .val (.int v111), .val (.ref v112), .val (.ref y118), .val (.ref b119), .unset, .val (.int (((((p3.toUInt32 >>> ((4 : Int32) &&& 31).toUInt32).toInt32) &&& (3 : Int32)) - (((p3.toUInt32 >>> ((2 : Int32) &&& 31).toUInt32).toInt32) &&& (3 : Int32))) + (2 : Int32)))] [(.int (1 : Int32))]))
                refine OwnEnd.go (fun _ k => XS.goto X262.here hx rfl (pc0 := 350) (pc' := 354) rfl (hb hby at_350) (by decide) (by decide) k) ?_
                show OwnEnd p e below s _ _ _ (T262.setTop (mkF m 354 #[.val (.int p1), .val (.int p2), .val (.int p3), .val (.int p4), .val (.int (p1 &&& (3 : Int32))), .val (.int v101), .val (.ref v102), .val (.ref y108), .val (.int v109), .val (.int v110), .val (.int (((p3.toUInt32 >>> ((2 : Int32) &&& 31).toUInt32).toInt32) &&& (3 : Int32))), .val (.int (((p3.toUInt32 >>> ((4 : Int32) &&& 31).toUInt32).toInt32) &&& (3 : Int32))), .val (.int (p4 &&& (3 : Int32))), .val (.int v111), .val (.ref v112), .val (.ref y118), .val (.ref b119), .unset, .val (.int (((((p3.toUInt32 >>> ((4 : Int32) &&& 31).toUInt32).toInt32) &&& (3 : Int32)) - (((p3.toUInt32 >>> ((2 : Int32) &&& 31).toUInt32).toInt32) &&& (3 : Int32))) + (2 : Int32)))] [(.int (1 : Int32))]))
                refine OwnEnd.go (fun _ k => XS.istore X262.here hx rfl (hb hby at_354) rfl  (l' := #[.val (.int p1), .val (.int p2), .val (.int p3), .val (.int p4), .val (.int (p1 &&& (3 : Int32))), .val (.int v101), .val (.ref v102), .val (.ref y108), .val (.int v109), .val (.int v110), .val (.int (((p3.toUInt32 >>> ((2 : Int32) &&& 31).toUInt32).toInt32) &&& (3 : Int32))), .val (.int (((p3.toUInt32 >>> ((4 : Int32) &&& 31).toUInt32).toInt32) &&& (3 : Int32))), .val (.int (p4 &&& (3 : Int32))), .val (.int v111), .val (.ref v112), .val (.ref y118), .val (.ref b119), .val (.int (1 : Int32)), .val (.int (((((p3.toUInt32 >>> ((4 : Int32) &&& 31).toUInt32).toInt32) &&& (3 : Int32)) - (((p3.toUInt32 >>> ((2 : Int32) &&& 31).toUInt32).toInt32) &&& (3 : Int32))) + (2 : Int32)))]) rfl k) ?_
                show OwnEnd p e below s _ _ _ (T262.setTop (mkF m 356 #[.val (.int p1), .val (.int p2), .val (.int p3), .val (.int p4), .val (.int (p1 &&& (3 : Int32))), .val (.int v101), .val (.ref v102), .val (.ref y108), .val (.int v109), .val (.int v110), .val (.int (((p3.toUInt32 >>> ((2 : Int32) &&& 31).toUInt32).toInt32) &&& (3 : Int32))), .val (.int (((p3.toUInt32 >>> ((4 : Int32) &&& 31).toUInt32).toInt32) &&& (3 : Int32))), .val (.int (p4 &&& (3 : Int32))), .val (.int v111), .val (.ref v112), .val (.ref y118), .val (.ref b119), .val (.int (1 : Int32)), .val (.int (((((p3.toUInt32 >>> ((4 : Int32) &&& 31).toUInt32).toInt32) &&& (3 : Int32)) - (((p3.toUInt32 >>> ((2 : Int32) &&& 31).toUInt32).toInt32) &&& (3 : Int32))) + (2 : Int32)))] []))
                refine OwnEnd.go (fun _ k => XS.aload X262.here hx rfl (hb hby at_356) rfl rfl k) ?_
                show OwnEnd p e below s _ _ _ (T262.setTop (mkF m 358 #[.val (.int p1), .val (.int p2), .val (.int p3), .val (.int p4), .val (.int (p1 &&& (3 : Int32))), .val (.int v101), .val (.ref v102), .val (.ref y108), .val (.int v109), .val (.int v110), .val (.int (((p3.toUInt32 >>> ((2 : Int32) &&& 31).toUInt32).toInt32) &&& (3 : Int32))), .val (.int (((p3.toUInt32 >>> ((4 : Int32) &&& 31).toUInt32).toInt32) &&& (3 : Int32))), .val (.int (p4 &&& (3 : Int32))), .val (.int v111), .val (.ref v112), .val (.ref y118), .val (.ref b119), .val (.int (1 : Int32)), .val (.int (((((p3.toUInt32 >>> ((4 : Int32) &&& 31).toUInt32).toInt32) &&& (3 : Int32)) - (((p3.toUInt32 >>> ((2 : Int32) &&& 31).toUInt32).toInt32) &&& (3 : Int32))) + (2 : Int32)))] [(.ref b119)]))
                obtain ⟨_, T267, L267, X267, hQ267, st267⟩ := ownCallV X262 hx hZ hown ww55 ww56 ww58 ww57 ww14 ww59 (by decide) (rm8d1 l Z a0 hw [] b119 y134 y135 (((rc2 + (((p3.toUInt32 >>> ((4 : Int32) &&& 31).toUInt32).toInt32) &&& (3 : Int32))) + (1 : Int32)) + (1 : Int32)) ((0 : Int32) + (p1 &&& (3 : Int32))) (rc2 + (((p3.toUInt32 >>> ((4 : Int32) &&& 31).toUInt32).toInt32) &&& (3 : Int32))) (tt2 + (((p3.toUInt32 >>> ((2 : Int32) &&& 31).toUInt32).toInt32) &&& (3 : Int32))) ((0 : Int32) + (1 : Int32)) (rc2 + (((p3.toUInt32 >>> ((4 : Int32) &&& 31).toUInt32).toInt32) &&& (3 : Int32))) ((((rc2 + (((p3.toUInt32 >>> ((4 : Int32) &&& 31).toUInt32).toInt32) &&& (3 : Int32))) + (1 : Int32)) + (1 : Int32)) - (rc2 + (((p3.toUInt32 >>> ((4 : Int32) &&& 31).toUInt32).toInt32) &&& (3 : Int32)))) ((0 : Int32) + (1 : Int32)) T262.heap n0 Y262  P263) (rfl : T262.heap = T262.heap) F264 0 (by decide) (by decide) (by decide) (by decide) (g := (mkF m 358 #[.val (.int p1), .val (.int p2), .val (.int p3), .val (.int p4), .val (.int (p1 &&& (3 : Int32))), .val (.int v101), .val (.ref v102), .val (.ref y108), .val (.int v109), .val (.int v110), .val (.int (((p3.toUInt32 >>> ((2 : Int32) &&& 31).toUInt32).toInt32) &&& (3 : Int32))), .val (.int (((p3.toUInt32 >>> ((4 : Int32) &&& 31).toUInt32).toInt32) &&& (3 : Int32))), .val (.int (p4 &&& (3 : Int32))), .val (.int v111), .val (.ref v112), .val (.ref y118), .val (.ref b119), .val (.int (1 : Int32)), .val (.int (((((p3.toUInt32 >>> ((4 : Int32) &&& 31).toUInt32).toInt32) &&& (3 : Int32)) - (((p3.toUInt32 >>> ((2 : Int32) &&& 31).toUInt32).toInt32) &&& (3 : Int32))) + (2 : Int32)))] [(.ref b119)])) rfl (by rw [hml]; rfl) (argsL := []) (rest := []) (lenOf pd0_4 rfl) rfl rfl (by show 2 * 0 + _ ≤ _; exact Nat.le_of_eq rfl) (hb hby at_358)
                obtain ⟨rfl, N267q, e267⟩ := hQ267
                have N267 := Fr.app N262 N267q
                refine OwnEnd.go (fun _ k => st267 _ k) ?_
                show OwnEnd p e below s _ _ _ (T267.setTop (mkF m 361 #[.val (.int p1), .val (.int p2), .val (.int p3), .val (.int p4), .val (.int (p1 &&& (3 : Int32))), .val (.int v101), .val (.ref v102), .val (.ref y108), .val (.int v109), .val (.int v110), .val (.int (((p3.toUInt32 >>> ((2 : Int32) &&& 31).toUInt32).toInt32) &&& (3 : Int32))), .val (.int (((p3.toUInt32 >>> ((4 : Int32) &&& 31).toUInt32).toInt32) &&& (3 : Int32))), .val (.int (p4 &&& (3 : Int32))), .val (.int v111), .val (.ref v112), .val (.ref y118), .val (.ref b119), .val (.int (1 : Int32)), .val (.int (((((p3.toUInt32 >>> ((4 : Int32) &&& 31).toUInt32).toInt32) &&& (3 : Int32)) - (((p3.toUInt32 >>> ((2 : Int32) &&& 31).toUInt32).toInt32) &&& (3 : Int32))) + (2 : Int32)))] [(.int (own_isat (((rc2 + (((p3.toUInt32 >>> ((4 : Int32) &&& 31).toUInt32).toInt32) &&& (3 : Int32))) + (1 : Int32)) + (1 : Int32)) ((0 : Int32) + (p1 &&& (3 : Int32))) (tt2 + (((p3.toUInt32 >>> ((2 : Int32) &&& 31).toUInt32).toInt32) &&& (3 : Int32)))))]))
                refine OwnEnd.go (fun _ k => XS.iload X267.here hx rfl (hb hby at_361) rfl  k) ?_
                show OwnEnd p e below s _ _ _ (T267.setTop (mkF m 363 #[.val (.int p1), .val (.int p2), .val (.int p3), .val (.int p4), .val (.int (p1 &&& (3 : Int32))), .val (.int v101), .val (.ref v102), .val (.ref y108), .val (.int v109), .val (.int v110), .val (.int (((p3.toUInt32 >>> ((2 : Int32) &&& 31).toUInt32).toInt32) &&& (3 : Int32))), .val (.int (((p3.toUInt32 >>> ((4 : Int32) &&& 31).toUInt32).toInt32) &&& (3 : Int32))), .val (.int (p4 &&& (3 : Int32))), .val (.int v111), .val (.ref v112), .val (.ref y118), .val (.ref b119), .val (.int (1 : Int32)), .val (.int (((((p3.toUInt32 >>> ((4 : Int32) &&& 31).toUInt32).toInt32) &&& (3 : Int32)) - (((p3.toUInt32 >>> ((2 : Int32) &&& 31).toUInt32).toInt32) &&& (3 : Int32))) + (2 : Int32)))] [(.int (1 : Int32)), (.int (own_isat (((rc2 + (((p3.toUInt32 >>> ((4 : Int32) &&& 31).toUInt32).toInt32) &&& (3 : Int32))) + (1 : Int32)) + (1 : Int32)) ((0 : Int32) + (p1 &&& (3 : Int32))) (tt2 + (((p3.toUInt32 >>> ((2 : Int32) &&& 31).toUInt32).toInt32) &&& (3 : Int32)))))]))
                refine OwnEnd.go (fun _ k => XS.icmpNo X267.here hx rfl (hb hby at_363) rfl (teq (own_isat_t ((own_f2 hy221).2 hc266))).2 k) ?_
                show OwnEnd p e below s _ _ _ (T267.setTop (mkF m 366 #[.val (.int p1), .val (.int p2), .val (.int p3), .val (.int p4), .val (.int (p1 &&& (3 : Int32))), .val (.int v101), .val (.ref v102), .val (.ref y108), .val (.int v109), .val (.int v110), .val (.int (((p3.toUInt32 >>> ((2 : Int32) &&& 31).toUInt32).toInt32) &&& (3 : Int32))), .val (.int (((p3.toUInt32 >>> ((4 : Int32) &&& 31).toUInt32).toInt32) &&& (3 : Int32))), .val (.int (p4 &&& (3 : Int32))), .val (.int v111), .val (.ref v112), .val (.ref y118), .val (.ref b119), .val (.int (1 : Int32)), .val (.int (((((p3.toUInt32 >>> ((4 : Int32) &&& 31).toUInt32).toInt32) &&& (3 : Int32)) - (((p3.toUInt32 >>> ((2 : Int32) &&& 31).toUInt32).toInt32) &&& (3 : Int32))) + (2 : Int32)))] []))
                refine OwnEnd.go (fun _ k => XS.iconst X267.here hx rfl (hb hby at_366) k) ?_
                show OwnEnd p e below s _ _ _ (T267.setTop (mkF m 367 #[.val (.int p1), .val (.int p2), .val (.int p3), .val (.int p4), .val (.int (p1 &&& (3 : Int32))), .val (.int v101), .val (.ref v102), .val (.ref y108), .val (.int v109), .val (.int v110), .val (.int (((p3.toUInt32 >>> ((2 : Int32) &&& 31).toUInt32).toInt32) &&& (3 : Int32))), .val (.int (((p3.toUInt32 >>> ((4 : Int32) &&& 31).toUInt32).toInt32) &&& (3 : Int32))), .val (.int (p4 &&& (3 : Int32))), .val (.int v111), .val (.ref v112), .val (.ref y118), .val (.ref b119), .val (.int (1 : Int32)), .val (.int (((((p3.toUInt32 >>> ((4 : Int32) &&& 31).toUInt32).toInt32) &&& (3 : Int32)) - (((p3.toUInt32 >>> ((2 : Int32) &&& 31).toUInt32).toInt32) &&& (3 : Int32))) + (2 : Int32)))] [(.int (1 : Int32))]))
                refine OwnEnd.go (fun _ k => XS.goto X267.here hx rfl (pc0 := 367) (pc' := 371) rfl (hb hby at_367) (by decide) (by decide) k) ?_
                show OwnEnd p e below s _ _ _ (T267.setTop (mkF m 371 #[.val (.int p1), .val (.int p2), .val (.int p3), .val (.int p4), .val (.int (p1 &&& (3 : Int32))), .val (.int v101), .val (.ref v102), .val (.ref y108), .val (.int v109), .val (.int v110), .val (.int (((p3.toUInt32 >>> ((2 : Int32) &&& 31).toUInt32).toInt32) &&& (3 : Int32))), .val (.int (((p3.toUInt32 >>> ((4 : Int32) &&& 31).toUInt32).toInt32) &&& (3 : Int32))), .val (.int (p4 &&& (3 : Int32))), .val (.int v111), .val (.ref v112), .val (.ref y118), .val (.ref b119), .val (.int (1 : Int32)), .val (.int (((((p3.toUInt32 >>> ((4 : Int32) &&& 31).toUInt32).toInt32) &&& (3 : Int32)) - (((p3.toUInt32 >>> ((2 : Int32) &&& 31).toUInt32).toInt32) &&& (3 : Int32))) + (2 : Int32)))] [(.int (1 : Int32))]))
                refine ownRetZ X267 hx hlk hret (hb hby at_371) (by decide) (by decide) (1 : Int32) (by decide) ?_
                show Q0 Z p1 p2 p3 p4 a_ATTRIBUTE a_TEXT a_COMMENT a_PROCESSING_INSTRUCTION a_NAMESPACE a_ELEMENT a_DOCUMENT h0 n0 _ T267.heap _
                rw [e267]
                exact ⟨rfl, N267⟩
              · refine OwnEnd.go (fun _ k => XS.ifYes X262.here hx rfl (pc0 := 346) (pc' := 353) rfl (hb hby at_346) rfl ((if0 _ _).trans (feq hc266).2) (by decide) (by decide) k) ?_
                show OwnEnd p e below s _ _ _ (T262.setTop (mkF m 353 #[.val (.int p1), .val (.int p2), .val (.int p3), .val (.int p4), .val (.int (p1 &&& (3 : Int32))), .val (.int v101), .val (.ref v102), .val (.ref y108), .val (.int v109), .val (.int v110), .val (.int (((p3.toUInt32 >>> ((2 : Int32) &&& 31).toUInt32).toInt32) &&& (3 : Int32))), .val (.int (((p3.toUInt32 >>> ((4 : Int32) &&& 31).toUInt32).toInt32) &&& (3 : Int32))), .val (.int (p4 &&& (3 : Int32))), .val (.int v111), .val (.ref v112), .val (.ref y118), .val (.ref b119), .unset, .val (.int (((((p3.toUInt32 >>> ((4 : Int32) &&& 31).toUInt32).toInt32) &&& (3 : Int32)) - (((p3.toUInt32 >>> ((2 : Int32) &&& 31).toUInt32).toInt32) &&& (3 : Int32))) + (2 : Int32)))] []))
                refine OwnEnd.go (fun _ k => XS.iconst X262.here hx rfl (hb hby at_353) k) ?_
                show OwnEnd p e below s _ _ _ (T262.setTop (mkF m 354 #[.val (.int p1), .val (.int p2), .val (.int p3), .val (.int p4), .val (.int (p1 &&& (3 : Int32))), .val (.int v101), .val (.ref v102), .val (.ref y108), .val (.int v109), .val (.int v110), .val (.int (((p3.toUInt32 >>> ((2 : Int32) &&& 31).toUInt32).toInt32) &&& (3 : Int32))), .val (.int (((p3.toUInt32 >>> ((4 : Int32) &&& 31).toUInt32).toInt32) &&& (3 : Int32))), .val (.int (p4 &&& (3 : Int32))), .val (.int v111), .val (.ref v112), .val (.ref y118), .val (.ref b119), .unset, .val (.int (((((p3.toUInt32 >>> ((4 : Int32) &&& 31).toUInt32).toInt32) &&& (3 : Int32)) - (((p3.toUInt32 >>> ((2 : Int32) &&& 31).toUInt32).toInt32) &&& (3 : Int32))) + (2 : Int32)))] [(.int (0 : Int32))]))
                refine OwnEnd.go (fun _ k => XS.istore X262.here hx rfl (hb hby at_354) rfl  (l' := #[.val (.int p1), .val (.int p2), .val (.int p3), .val (.int p4), .val (.int (p1 &&& (3 : Int32))), .val (.int v101), .val (.ref v102), .val (.ref y108), .val (.int v109), .val (.int v110), .val (.int (((p3.toUInt32 >>> ((2 : Int32) &&& 31).toUInt32).toInt32) &&& (3 : Int32))), .val (.int (((p3.toUInt32 >>> ((4 : Int32) &&& 31).toUInt32).toInt32) &&& (3 : Int32))), .val (.int (p4 &&& (3 : Int32))), .val (.int v111), .val (.ref v112), .val (.ref y118), .val (.ref b119), .val (.int (0 : Int32)), .val (.int (((((p3.toUInt32 >>> ((4 : Int32) &&& 31).toUInt32).toInt32) &&& (3 : Int32)) - (((p3.toUInt32 >>> ((2 : Int32) &&& 31).toUInt32).toInt32) &&& (3 : Int32))) + (2 : Int32)))]) rfl k) ?_
                show OwnEnd p e below s _ _ _ (T262.setTop (mkF m 356 #[.val (.int p1), .val (.int p2), .val (.int p3), .val (.int p4), .val (.int (p1 &&& (3 : Int32))), .val (.int v101), .val (.ref v102), .val (.ref y108), .val (.int v109), .val (.int v110), .val (.int (((p3.toUInt32 >>> ((2 : Int32) &&& 31).toUInt32).toInt32) &&& (3 : Int32))), .val (.int (((p3.toUInt32 >>> ((4 : Int32) &&& 31).toUInt32).toInt32) &&& (3 : Int32))), .val (.int (p4 &&& (3 : Int32))), .val (.int v111), .val (.ref v112), .val (.ref y118), .val (.ref b119), .val (.int (0 : Int32)), .val (.int (((((p3.toUInt32 >>> ((4 : Int32) &&& 31).toUInt32).toInt32) &&& (3 : Int32)) - (((p3.toUInt32 >>> ((2 : Int32) &&& 31).toUInt32).toInt32) &&& (3 : Int32))) + (2 : Int32)))] []))
                refine OwnEnd.go (fun _ k => XS.aload X262.here hx rfl (hb hby at_356) rfl rfl k) ?_
                show OwnEnd p e below s _ _ _ (T262.setTop (mkF m 358 #[.val (.int p1), .val (.int p2), .val (.int p3), .val (.int p4), .val (.int (p1 &&& (3 : Int32))), .val (.int v101), .val (.ref v102), .val (.ref y108), .val (.int v109), .val (.int v110), .val (.int (((p3.toUInt32 >>> ((2 : Int32) &&& 31).toUInt32).toInt32) &&& (3 : Int32))), .val (.int (((p3.toUInt32 >>> ((4 : Int32) &&& 31).toUInt32).toInt32) &&& (3 : Int32))), .val (.int (p4 &&& (3 : Int32))), .val (.int v111), .val (.ref v112), .val (.ref y118), .val (.ref b119), .val (.int (0 : Int32)), .val (.int (((((p3.toUInt32 >>> ((4 : Int32) &&& 31).toUInt32).toInt32) &&& (3 : Int32)) - (((p3.toUInt32 >>> ((2 : Int32) &&& 31).toUInt32).toInt32) &&& (3 : Int32))) + (2 : Int32)))] [(.ref b119)]))
                obtain ⟨_, T268, L268, X268, hQ268, st268⟩ := ownCallV X262 hx hZ hown ww55 ww56 ww58 ww57 ww14 ww59 (by decide) (rm8d1 l Z a0 hw [] b119 y134 y135 (((rc2 + (((p3.toUInt32 >>> ((4 : Int32) &&& 31).toUInt32).toInt32) &&& (3 : Int32))) + (1 : Int32)) + (1 : Int32)) ((0 : Int32) + (p1 &&& (3 : Int32))) (rc2 + (((p3.toUInt32 >>> ((4 : Int32) &&& 31).toUInt32).toInt32) &&& (3 : Int32))) (tt2 + (((p3.toUInt32 >>> ((2 : Int32) &&& 31).toUInt32).toInt32) &&& (3 : Int32))) ((0 : Int32) + (1 : Int32)) (rc2 + (((p3.toUInt32 >>> ((4 : Int32) &&& 31).toUInt32).toInt32) &&& (3 : Int32))) ((((rc2 + (((p3.toUInt32 >>> ((4 : Int32) &&& 31).toUInt32).toInt32) &&& (3 : Int32))) + (1 : Int32)) + (1 : Int32)) - (rc2 + (((p3.toUInt32 >>> ((4 : Int32) &&& 31).toUInt32).toInt32) &&& (3 : Int32)))) ((0 : Int32) + (1 : Int32)) T262.heap n0 Y262  P263) (rfl : T262.heap = T262.heap) F264 0 (by decide) (by decide) (by decide) (by decide) (g := (mkF m 358 #[.val (.int p1), .val (.int p2), .val (.int p3), .val (.int p4), .val (.int (p1 &&& (3 : Int32))), .val (.int v101), .val (.ref v102), .val (.ref y108), .val (.int v109), .val (.int v110), .val (.int (((p3.toUInt32 >>> ((2 : Int32) &&& 31).toUInt32).toInt32) &&& (3 : Int32))), .val (.int (((p3.toUInt32 >>> ((4 : Int32) &&& 31).toUInt32).toInt32) &&& (3 : Int32))), .val (.int (p4 &&& (3 : Int32))), .val (.int v111), .val (.ref v112), .val (.ref y118), .val (.ref b119), .val (.int (0 : Int32)), .val (.int (((((p3.toUInt32 >>> ((4 : Int32) &&& 31).toUInt32).toInt32) &&& (3 : Int32)) - (((p3.toUInt32 >>> ((2 : Int32) &&& 31).toUInt32).toInt32) &&& (3 : Int32))) + (2 : Int32)))] [(.ref b119)])) rfl (by rw [hml]; rfl) (argsL := []) (rest := []) (lenOf pd0_4 rfl) rfl rfl (by show 2 * 0 + _ ≤ _; exact Nat.le_of_eq rfl) (hb hby at_358)
                obtain ⟨rfl, N268q, e268⟩ := hQ268
                have N268 := Fr.app N262 N268q
                refine OwnEnd.go (fun _ k => st268 _ k) ?_
                show OwnEnd p e below s _ _ _ (T268.setTop (mkF m 361 #[.val (.int p1), .val (.int p2), .val (.int p3), .val (.int p4), .val (.int (p1 &&& (3 : Int32))), .val (.int v101), .val (.ref v102), .val (.ref y108), .val (.int v109), .val (.int v110), .val (.int (((p3.toUInt32 >>> ((2 : Int32) &&& 31).toUInt32).toInt32) &&& (3 : Int32))), .val (.int (((p3.toUInt32 >>> ((4 : Int32) &&& 31).toUInt32).toInt32) &&& (3 : Int32))), .val (.int (p4 &&& (3 : Int32))), .val (.int v111), .val (.ref v112), .val (.ref y118), .val (.ref b119), .val (.int (0 : Int32)), .val (.int (((((p3.toUInt32 >>> ((4 : Int32) &&& 31).toUInt32).toInt32) &&& (3 : Int32)) - (((p3.toUInt32 >>> ((2 : Int32) &&& 31).toUInt32).toInt32) &&& (3 : Int32))) + (2 : Int32)))] [(.int (own_isat (((rc2 + (((p3.toUInt32 >>> ((4 : Int32) &&& 31).toUInt32).toInt32) &&& (3 : Int32))) + (1 : Int32)) + (1 : Int32)) ((0 : Int32) + (p1 &&& (3 : Int32))) (tt2 + (((p3.toUInt32 >>> ((2 : Int32) &&& 31).toUInt32).toInt32) &&& (3 : Int32)))))]))
                refine OwnEnd.go (fun _ k => XS.iload X268.here hx rfl (hb hby at_361) rfl  k) ?_
                show OwnEnd p e below s _ _ _ (T268.setTop (mkF m 363 #[.val (.int p1), .val (.int p2), .val (.int p3), .val (.int p4), .val (.int (p1 &&& (3 : Int32))), .val (.int v101), .val (.ref v102), .val (.ref y108), .val (.int v109), .val (.int v110), .val (.int (((p3.toUInt32 >>> ((2 : Int32) &&& 31).toUInt32).toInt32) &&& (3 : Int32))), .val (.int (((p3.toUInt32 >>> ((4 : Int32) &&& 31).toUInt32).toInt32) &&& (3 : Int32))), .val (.int (p4 &&& (3 : Int32))), .val (.int v111), .val (.ref v112), .val (.ref y118), .val (.ref b119), .val (.int (0 : Int32)), .val (.int (((((p3.toUInt32 >>> ((4 : Int32) &&& 31).toUInt32).toInt32) &&& (3 : Int32)) - (((p3.toUInt32 >>> ((2 : Int32) &&& 31).toUInt32).toInt32) &&& (3 : Int32))) + (2 : Int32)))] [(.int (0 : Int32)), (.int (own_isat (((rc2 + (((p3.toUInt32 >>> ((4 : Int32) &&& 31).toUInt32).toInt32) &&& (3 : Int32))) + (1 : Int32)) + (1 : Int32)) ((0 : Int32) + (p1 &&& (3 : Int32))) (tt2 + (((p3.toUInt32 >>> ((2 : Int32) &&& 31).toUInt32).toInt32) &&& (3 : Int32)))))]))
                refine OwnEnd.go (fun _ k => XS.icmpNo X268.here hx rfl (hb hby at_363) rfl (teq (own_isat_f (fun q => hc266 ((own_f2 hy221).1 q)))).2 k) ?_
                show OwnEnd p e below s _ _ _ (T268.setTop (mkF m 366 #[.val (.int p1), .val (.int p2), .val (.int p3), .val (.int p4), .val (.int (p1 &&& (3 : Int32))), .val (.int v101), .val (.ref v102), .val (.ref y108), .val (.int v109), .val (.int v110), .val (.int (((p3.toUInt32 >>> ((2 : Int32) &&& 31).toUInt32).toInt32) &&& (3 : Int32))), .val (.int (((p3.toUInt32 >>> ((4 : Int32) &&& 31).toUInt32).toInt32) &&& (3 : Int32))), .val (.int (p4 &&& (3 : Int32))), .val (.int v111), .val (.ref v112), .val (.ref y118), .val (.ref b119), .val (.int (0 : Int32)), .val (.int (((((p3.toUInt32 >>> ((4 : Int32) &&& 31).toUInt32).toInt32) &&& (3 : Int32)) - (((p3.toUInt32 >>> ((2 : Int32) &&& 31).toUInt32).toInt32) &&& (3 : Int32))) + (2 : Int32)))] []))
                refine OwnEnd.go (fun _ k => XS.iconst X268.here hx rfl (hb hby at_366) k) ?_
                show OwnEnd p e below s _ _ _ (T268.setTop (mkF m 367 #[.val (.int p1), .val (.int p2), .val (.int p3), .val (.int p4), .val (.int (p1 &&& (3 : Int32))), .val (.int v101), .val (.ref v102), .val (.ref y108), .val (.int v109), .val (.int v110), .val (.int (((p3.toUInt32 >>> ((2 : Int32) &&& 31).toUInt32).toInt32) &&& (3 : Int32))), .val (.int (((p3.toUInt32 >>> ((4 : Int32) &&& 31).toUInt32).toInt32) &&& (3 : Int32))), .val (.int (p4 &&& (3 : Int32))), .val (.int v111), .val (.ref v112), .val (.ref y118), .val (.ref b119), .val (.int (0 : Int32)), .val (.int (((((p3.toUInt32 >>> ((4 : Int32) &&& 31).toUInt32).toInt32) &&& (3 : Int32)) - (((p3.toUInt32 >>> ((2 : Int32) &&& 31).toUInt32).toInt32) &&& (3 : Int32))) + (2 : Int32)))] [(.int (1 : Int32))]))
                refine OwnEnd.go (fun _ k => XS.goto X268.here hx rfl (pc0 := 367) (pc' := 371) rfl (hb hby at_367) (by decide) (by decide) k) ?_
                show OwnEnd p e below s _ _ _ (T268.setTop (mkF m 371 #[.val (.int p1), .val (.int p2), .val (.int p3), .val (.int p4), .val (.int (p1 &&& (3 : Int32))), .val (.int v101), .val (.ref v102), .val (.ref y108), .val (.int v109), .val (.int v110), .val (.int (((p3.toUInt32 >>> ((2 : Int32) &&& 31).toUInt32).toInt32) &&& (3 : Int32))), .val (.int (((p3.toUInt32 >>> ((4 : Int32) &&& 31).toUInt32).toInt32) &&& (3 : Int32))), .val (.int (p4 &&& (3 : Int32))), .val (.int v111), .val (.ref v112), .val (.ref y118), .val (.ref b119), .val (.int (0 : Int32)), .val (.int (((((p3.toUInt32 >>> ((4 : Int32) &&& 31).toUInt32).toInt32) &&& (3 : Int32)) - (((p3.toUInt32 >>> ((2 : Int32) &&& 31).toUInt32).toInt32) &&& (3 : Int32))) + (2 : Int32)))] [(.int (1 : Int32))]))
                refine ownRetZ X268 hx hlk hret (hb hby at_371) (by decide) (by decide) (1 : Int32) (by decide) ?_
                show Q0 Z p1 p2 p3 p4 a_ATTRIBUTE a_TEXT a_COMMENT a_PROCESSING_INSTRUCTION a_NAMESPACE a_ELEMENT a_DOCUMENT h0 n0 _ T268.heap _
                rw [e268]
                exact ⟨rfl, N268⟩
          · refine OwnEnd.go (fun _ k => XS.icmpYes X227.here hx rfl (pc0 := 223) (pc' := 262) rfl (hb hby at_223) rfl (feq hc244).2 (by decide) (by decide) k) ?_
            show OwnEnd p e below s _ _ _ (T227.setTop (mkF m 262 #[.val (.int p1), .val (.int p2), .val (.int p3), .val (.int p4), .val (.int (p1 &&& (3 : Int32))), .val (.int v101), .val (.ref v102), .val (.ref y108), .val (.int v109), .val (.int v110), .val (.int (((p3.toUInt32 >>> ((2 : Int32) &&& 31).toUInt32).toInt32) &&& (3 : Int32))), .val (.int (((p3.toUInt32 >>> ((4 : Int32) &&& 31).toUInt32).toInt32) &&& (3 : Int32))), .val (.int (p4 &&& (3 : Int32))), .val (.int v111), .val (.ref v112), .val (.ref y118), .val (.ref b119), .unset, .unset] []))
            refine OwnEnd.go (fun _ k => XS.iload X227.here hx rfl (hb hby at_262) rfl  k) ?_
            show OwnEnd p e below s _ _ _ (T227.setTop (mkF m 264 #[.val (.int p1), .val (.int p2), .val (.int p3), .val (.int p4), .val (.int (p1 &&& (3 : Int32))), .val (.int v101), .val (.ref v102), .val (.ref y108), .val (.int v109), .val (.int v110), .val (.int (((p3.toUInt32 >>> ((2 : Int32) &&& 31).toUInt32).toInt32) &&& (3 : Int32))), .val (.int (((p3.toUInt32 >>> ((4 : Int32) &&& 31).toUInt32).toInt32) &&& (3 : Int32))), .val (.int (p4 &&& (3 : Int32))), .val (.int v111), .val (.ref v112), .val (.ref y118), .val (.ref b119), .unset, .unset] [(.int (p4 &&& (3 : Int32)))]))
            refine OwnEnd.go (fun _ k => XS.iconst X227.here hx rfl (hb hby at_264) k) ?_
            show OwnEnd p e below s _ _ _ (T227.setTop (mkF m 265 #[.val (.int p1), .val (.int p2), .val (.int p3), .val (.int p4), .val (.int (p1 &&& (3 : Int32))), .val (.int v101), .val (.ref v102), .val (.ref y108), .val (.int v109), .val (.int v110), .val (.int (((p3.toUInt32 >>> ((2 : Int32) &&& 31).toUInt32).toInt32) &&& (3 : Int32))), .val (.int (((p3.toUInt32 >>> ((4 : Int32) &&& 31).toUInt32).toInt32) &&& (3 : Int32))), .val (.int (p4 &&& (3 : Int32))), .val (.int v111), .val (.ref v112), .val (.ref y118), .val (.ref b119), .unset, .unset] [(.int (3 : Int32)), (.int (p4 &&& (3 : Int32)))]))
            by_cases hc269 : (p4 &&& (3 : Int32)) = (3 : Int32)
            · refine OwnEnd.go (fun _ k => XS.icmpNo X227.here hx rfl (hb hby at_265) rfl (teq hc269).2 k) ?_
              show OwnEnd p e below s _ _ _ (T227.setTop (mkF m 268 #[.val (.int p1), .val (.int p2), .val (.int p3), .val (.int p4), .val (.int (p1 &&& (3 : Int32))), .val (.int v101), .val (.ref v102), .val (.ref y108), .val (.int v109), .val (.int v110), .val (.int (((p3.toUInt32 >>> ((2 : Int32) &&& 31).toUInt32).toInt32) &&& (3 : Int32))), .val (.int (((p3.toUInt32 >>> ((4 : Int32) &&& 31).toUInt32).toInt32) &&& (3 : Int32))), .val (.int (p4 &&& (3 : Int32))), .val (.int v111), .val (.ref v112), .val (.ref y118), .val (.ref b119), .unset, .unset] []))
              by_cases hl270 : y118 = a_ATTRIBUTE
              · show OwnEnd p e below s _ _ _ (T227.setTop (mkF m 268 #[.val (.int p1), .val (.int p2), .val (.int p3), .val (.int p4), .val (.int (p1 &&& (3 : Int32))), .val (.int v101), .val (.ref v102), .val (.ref y108), .val (.int v109), .val (.int v110), .val (.int (((p3.toUInt32 >>> ((2 : Int32) &&& 31).toUInt32).toInt32) &&& (3 : Int32))), .val (.int (((p3.toUInt32 >>> ((4 : Int32) &&& 31).toUInt32).toInt32) &&& (3 : Int32))), .val (.int (p4 &&& (3 : Int32))), .val (.int v111), .val (.ref v112), .val (.ref y118), .val (.ref b119), .unset, .unset] []))
                refine OwnEnd.go (fun _ k => XS.aload X227.here hx rfl (hb hby at_268) rfl rfl k) ?_
                show OwnEnd p e below s _ _ _ (T227.setTop (mkF m 270 #[.val (.int p1), .val (.int p2), .val (.int p3), .val (.int p4), .val (.int (p1 &&& (3 : Int32))), .val (.int v101), .val (.ref v102), .val (.ref y108), .val (.int v109), .val (.int v110), .val (.int (((p3.toUInt32 >>> ((2 : Int32) &&& 31).toUInt32).toInt32) &&& (3 : Int32))), .val (.int (((p3.toUInt32 >>> ((4 : Int32) &&& 31).toUInt32).toInt32) &&& (3 : Int32))), .val (.int (p4 &&& (3 : Int32))), .val (.int v111), .val (.ref v112), .val (.ref y118), .val (.ref b119), .unset, .unset] [(.ref b119)]))
                refine OwnEnd.go (fun _ k => XS.aload X227.here hx rfl (hb hby at_270) rfl rfl k) ?_
                show OwnEnd p e below s _ _ _ (T227.setTop (mkF m 272 #[.val (.int p1), .val (.int p2), .val (.int p3), .val (.int p4), .val (.int (p1 &&& (3 : Int32))), .val (.int v101), .val (.ref v102), .val (.ref y108), .val (.int v109), .val (.int v110), .val (.int (((p3.toUInt32 >>> ((2 : Int32) &&& 31).toUInt32).toInt32) &&& (3 : Int32))), .val (.int (((p3.toUInt32 >>> ((4 : Int32) &&& 31).toUInt32).toInt32) &&& (3 : Int32))), .val (.int (p4 &&& (3 : Int32))), .val (.int v111), .val (.ref v112), .val (.ref y118), .val (.ref b119), .unset, .unset] [(.ref y118), (.ref b119)]))
                obtain ⟨_, T271, L271, X271, hQ271, st271⟩ := ownCallV X227 hx hZ hown ww33 ww34 ww36 ww35 ww14 ww37 (by decide) (rm5d1attr l Z a0 hw [] b119 y118 y134 y135 (rc2 + (((p3.toUInt32 >>> ((4 : Int32) &&& 31).toUInt32).toInt32) &&& (3 : Int32))) ((0 : Int32) + (p1 &&& (3 : Int32))) (0 : Int32) (tt2 + (((p3.toUInt32 >>> ((2 : Int32) &&& 31).toUInt32).toInt32) &&& (3 : Int32))) (0 : Int32) (0 : Int32) (0 : Int32) (0 : Int32) a_ATTRIBUTE a_ELEMENT a_DOCUMENT T227.heap n0 Y227 O227 S_ATTRIBUTE S_ELEMENT S_DOCUMENT hl270 P116 P117 P228) (rfl : T227.heap = T227.heap) F229 0 (by decide) (by decide) (by decide) (by decide) (g := (mkF m 272 #[.val (.int p1), .val (.int p2), .val (.int p3), .val (.int p4), .val (.int (p1 &&& (3 : Int32))), .val (.int v101), .val (.ref v102), .val (.ref y108), .val (.int v109), .val (.int v110), .val (.int (((p3.toUInt32 >>> ((2 : Int32) &&& 31).toUInt32).toInt32) &&& (3 : Int32))), .val (.int (((p3.toUInt32 >>> ((4 : Int32) &&& 31).toUInt32).toInt32) &&& (3 : Int32))), .val (.int (p4 &&& (3 : Int32))), .val (.int v111), .val (.ref v112), .val (.ref y118), .val (.ref b119), .unset, .unset] [(.ref y118), (.ref b119)])) rfl (by rw [hml]; rfl) (argsL := [(.ref y118)]) (rest := []) (lenOf pd0_3 rfl) rfl rfl (by show 2 * 0 + _ ≤ _; exact Nat.le_of_eq rfl) (hb hby at_272)
                obtain ⟨rfl, N271q, K271q, P272⟩ := hQ271
                have N271 := Fr.app N227 N271q
                have F273 := F229.keep K271q
                have K271 := K227.trans K271q (allS (Or.inr v119) (allS (Or.inr (Nat.le_trans K119.1 P131)) (allS (Or.inr (Nat.le_trans K119.1 P132)) all0)))
                have Y271 := Nat.le_trans Y227 K271q.1
                have O271 := O227.keep K271q (allS u119 (allS P129 (allS P130 all0)))
                refine OwnEnd.go (fun _ k => st271 _ k) ?_
                show OwnEnd p e below s _ _ _ (T271.setTop (mkF m 275 #[.val (.int p1), .val (.int p2), .val (.int p3), .val (.int p4), .val (.int (p1 &&& (3 : Int32))), .val (.int v101), .val (.ref v102), .val (.ref y108), .val (.int v109), .val (.int v110), .val (.int (((p3.toUInt32 >>> ((2 : Int32) &&& 31).toUInt32).toInt32) &&& (3 : Int32))), .val (.int (((p3.toUInt32 >>> ((4 : Int32) &&& 31).toUInt32).toInt32) &&& (3 : Int32))), .val (.int (p4 &&& (3 : Int32))), .val (.int v111), .val (.ref v112), .val (.ref y118), .val (.ref b119), .unset, .unset] [(.int (rc2 + (((p3.toUInt32 >>> ((4 : Int32) &&& 31).toUInt32).toInt32) &&& (3 : Int32))))]))
                refine OwnEnd.go (fun _ k => XS.pop X271.here hx rfl (hb hby at_275) rfl rfl k) ?_
                show OwnEnd p e below s _ _ _ (T271.setTop (mkF m 276 #[.val (.int p1), .val (.int p2), .val (.int p3), .val (.int p4), .val (.int (p1 &&& (3 : Int32))), .val (.int v101), .val (.ref v102), .val (.ref y108), .val (.int v109), .val (.int v110), .val (.int (((p3.toUInt32 >>> ((2 : Int32) &&& 31).toUInt32).toInt32) &&& (3 : Int32))), .val (.int (((p3.toUInt32 >>> ((4 : Int32) &&& 31).toUInt32).toInt32) &&& (3 : Int32))), .val (.int (p4 &&& (3 : Int32))), .val (.int v111), .val (.ref v112), .val (.ref y118), .val (.ref b119), .unset, .unset] []))
                refine OwnEnd.go (fun _ k => XS.iload X271.here hx rfl (hb hby at_276) rfl  k) ?_
                show OwnEnd p e below s _ _ _ (T271.setTop (mkF m 278 #[.val (.int p1), .val (.int p2), .val (.int p3), .val (.int p4), .val (.int (p1 &&& (3 : Int32))), .val (.int v101), .val (.ref v102), .val (.ref y108), .val (.int v109), .val (.int v110), .val (.int (((p3.toUInt32 >>> ((2 : Int32) &&& 31).toUInt32).toInt32) &&& (3 : Int32))), .val (.int (((p3.toUInt32 >>> ((4 : Int32) &&& 31).toUInt32).toInt32) &&& (3 : Int32))), .val (.int (p4 &&& (3 : Int32))), .val (.int v111), .val (.ref v112), .val (.ref y118), .val (.ref b119), .unset, .unset] [(.int (p4 &&& (3 : Int32)))]))
                refine OwnEnd.go (fun _ k => XS.iconst X271.here hx rfl (hb hby at_278) k) ?_
                show OwnEnd p e below s _ _ _ (T271.setTop (mkF m 279 #[.val (.int p1), .val (.int p2), .val (.int p3), .val (.int p4), .val (.int (p1 &&& (3 : Int32))), .val (.int v101), .val (.ref v102), .val (.ref y108), .val (.int v109), .val (.int v110), .val (.int (((p3.toUInt32 >>> ((2 : Int32) &&& 31).toUInt32).toInt32) &&& (3 : Int32))), .val (.int (((p3.toUInt32 >>> ((4 : Int32) &&& 31).toUInt32).toInt32) &&& (3 : Int32))), .val (.int (p4 &&& (3 : Int32))), .val (.int v111), .val (.ref v112), .val (.ref y118), .val (.ref b119), .unset, .unset] [(.int (1 : Int32)), (.int (p4 &&& (3 : Int32)))]))
                refine OwnEnd.go (fun _ k => XS.icmpYes X271.here hx rfl (pc0 := 279) (pc' := 288) rfl (hb hby at_279) rfl (feq (by rw [hc269]; decide : ¬ (p4 &&& (3 : Int32)) = (1 : Int32))).2 (by decide) (by decide) k) ?_
                show OwnEnd p e below s _ _ _ (T271.setTop (mkF m 288 #[.val (.int p1), .val (.int p2), .val (.int p3), .val (.int p4), .val (.int (p1 &&& (3 : Int32))), .val (.int v101), .val (.ref v102), .val (.ref y108), .val (.int v109), .val (.int v110), .val (.int (((p3.toUInt32 >>> ((2 : Int32) &&& 31).toUInt32).toInt32) &&& (3 : Int32))), .val (.int (((p3.toUInt32 >>> ((4 : Int32) &&& 31).toUInt32).toInt32) &&& (3 : Int32))), .val (.int (p4 &&& (3 : Int32))), .val (.int v111), .val (.ref v112), .val (.ref y118), .val (.ref b119), .unset, .unset] []))
                refine OwnEnd.go (fun _ k => XS.iload X271.here hx rfl (hb hby at_288) rfl  k) ?_
                show OwnEnd p e below s _ _ _ (T271.setTop (mkF m 290 #[.val (.int p1), .val (.int p2), .val (.int p3), .val (.int p4), .val (.int (p1 &&& (3 : Int32))), .val (.int v101), .val (.ref v102), .val (.ref y108), .val (.int v109), .val (.int v110), .val (.int (((p3.toUInt32 >>> ((2 : Int32) &&& 31).toUInt32).toInt32) &&& (3 : Int32))), .val (.int (((p3.toUInt32 >>> ((4 : Int32) &&& 31).toUInt32).toInt32) &&& (3 : Int32))), .val (.int (p4 &&& (3 : Int32))), .val (.int v111), .val (.ref v112), .val (.ref y118), .val (.ref b119), .unset, .unset] [(.int v101)]))
                refine OwnEnd.go (fun _ k => XS.ifYes X271.here hx rfl (pc0 := 290) (pc' := 299) rfl (hb hby at_290) rfl ((if0 _ _).trans (feq hc149).2) (by decide) (by decide) k) ?_
                show OwnEnd p e below s _ _ _ (T271.setTop (mkF m 299 #[.val (.int p1), .val (.int p2), .val (.int p3), .val (.int p4), .val (.int (p1 &&& (3 : Int32))), .val (.int v101), .val (.ref v102), .val (.ref y108), .val (.int v109), .val (.int v110), .val (.int (((p3.toUInt32 >>> ((2 : Int32) &&& 31).toUInt32).toInt32) &&& (3 : Int32))), .val (.int (((p3.toUInt32 >>> ((4 : Int32) &&& 31).toUInt32).toInt32) &&& (3 : Int32))), .val (.int (p4 &&& (3 : Int32))), .val (.int v111), .val (.ref v112), .val (.ref y118), .val (.ref b119), .unset, .unset] []))
                refine OwnEnd.go (fun _ k => XS.iload X271.here hx rfl (hb hby at_299) rfl  k) ?_
                show OwnEnd p e below s _ _ _ (T271.setTop (mkF m 301 #[.val (.int p1), .val (.int p2), .val (.int p3), .val (.int p4), .val (.int (p1 &&& (3 : Int32))), .val (.int v101), .val (.ref v102), .val (.ref y108), .val (.int v109), .val (.int v110), .val (.int (((p3.toUInt32 >>> ((2 : Int32) &&& 31).toUInt32).toInt32) &&& (3 : Int32))), .val (.int (((p3.toUInt32 >>> ((4 : Int32) &&& 31).toUInt32).toInt32) &&& (3 : Int32))), .val (.int (p4 &&& (3 : Int32))), .val (.int v111), .val (.ref v112), .val (.ref y118), .val (.ref b119), .unset, .unset] [(.int (((p3.toUInt32 >>> ((4 : Int32) &&& 31).toUInt32).toInt32) &&& (3 : Int32)))]))
                refine OwnEnd.go (fun _ k => XS.iload X271.here hx rfl (hb hby at_301) rfl  k) ?_
                show OwnEnd p e below s _ _ _ (T271.setTop (mkF m 303 #[.val (.int p1), .val (.int p2), .val (.int p3), .val (.int p4), .val (.int (p1 &&& (3 : Int32))), .val (.int v101), .val (.ref v102), .val (.ref y108), .val (.int v109), .val (.int v110), .val (.int (((p3.toUInt32 >>> ((2 : Int32) &&& 31).toUInt32).toInt32) &&& (3 : Int32))), .val (.int (((p3.toUInt32 >>> ((4 : Int32) &&& 31).toUInt32).toInt32) &&& (3 : Int32))), .val (.int (p4 &&& (3 : Int32))), .val (.int v111), .val (.ref v112), .val (.ref y118), .val (.ref b119), .unset, .unset] [(.int (((p3.toUInt32 >>> ((2 : Int32) &&& 31).toUInt32).toInt32) &&& (3 : Int32))), (.int (((p3.toUInt32 >>> ((4 : Int32) &&& 31).toUInt32).toInt32) &&& (3 : Int32)))]))
                refine OwnEnd.go (fun _ k => XS.isub X271.here hx rfl (hb hby at_303) rfl k) ?_
                show OwnEnd p e below s _ _ _ (T271.setTop (mkF m 304 #[.val (.int p1), .val (.int p2), .val (.int p3), .val (.int p4), .val (.int (p1 &&& (3 : Int32))), .val (.int v101), .val (.ref v102), .val (.ref y108), .val (.int v109), .val (.int v110), .val (.int (((p3.toUInt32 >>> ((2 : Int32) &&& 31).toUInt32).toInt32) &&& (3 : Int32))), .val (.int (((p3.toUInt32 >>> ((4 : Int32) &&& 31).toUInt32).toInt32) &&& (3 : Int32))), .val (.int (p4 &&& (3 : Int32))), .val (.int v111), .val (.ref v112), .val (.ref y118), .val (.ref b119), .unset, .unset] [(.int ((((p3.toUInt32 >>> ((4 : Int32) &&& 31).toUInt32).toInt32) &&& (3 : Int32)) - (((p3.toUInt32 >>> ((2 : Int32) &&& 31).toUInt32).toInt32) &&& (3 : Int32))))]))
                refine OwnEnd.go (fun _ k => XS.istore X271.here hx rfl (hb hby at_304) rfl  (l' := #[.val (.int p1), .val (.int p2), .val (.int p3), .val (.int p4), .val (.int (p1 &&& (3 : Int32))), .val (.int v101), .val (.ref v102), .val (.ref y108), .val (.int v109), .val (.int v110), .val (.int (((p3.toUInt32 >>> ((2 : Int32) &&& 31).toUInt32).toInt32) &&& (3 : Int32))), .val (.int (((p3.toUInt32 >>> ((4 : Int32) &&& 31).toUInt32).toInt32) &&& (3 : Int32))), .val (.int (p4 &&& (3 : Int32))), .val (.int v111), .val (.ref v112), .val (.ref y118), .val (.ref b119), .unset, .val (.int ((((p3.toUInt32 >>> ((4 : Int32) &&& 31).toUInt32).toInt32) &&& (3 : Int32)) - (((p3.toUInt32 >>> ((2 : Int32) &&& 31).toUInt32).toInt32) &&& (3 : Int32))))]) rfl k) ?_
                show OwnEnd p e below s _ _ _ (T271.setTop (mkF m 306 #[.val (.int p1), .val (.int p2), .val (.int p3), .val (.int p4), .val (.int (p1 &&& (3 : Int32))), .val (.int v101), .val (.ref v102), .val (.ref y108), .val (.int v109), .val (.int v110), .val (.int (((p3.toUInt32 >>> ((2 : Int32) &&& 31).toUInt32).toInt32) &&& (3 : Int32))), .val (.int (((p3.toUInt32 >>> ((4 : Int32) &&& 31).toUInt32).toInt32) &&& (3 : Int32))), .val (.int (p4 &&& (3 : Int32))), .val (.int v111), .val (.ref v112), .val (.ref y118), .val (.ref b119), .unset, .val (.int ((((p3.toUInt32 >>> ((4 : Int32) &&& 31).toUInt32).toInt32) &&& (3 : Int32)) - (((p3.toUInt32 >>> ((2 : Int32) &&& 31).toUInt32).toInt32) &&& (3 : Int32))))] []))
                refine OwnEnd.go (fun _ k => XS.iload X271.here hx rfl (hb hby at_306) rfl  k) ?_
                show OwnEnd p e below s _ _ _ (T271.setTop (mkF m 308 #[.val (.int p1), .val (.int p2), .val (.int p3), .val (.int p4), .val (.int (p1 &&& (3 : Int32))), .val (.int v101), .val (.ref v102), .val (.ref y108), .val (.int v109), .val (.int v110), .val (.int (((p3.toUInt32 >>> ((2 : Int32) &&& 31).toUInt32).toInt32) &&& (3 : Int32))), .val (.int (((p3.toUInt32 >>> ((4 : Int32) &&& 31).toUInt32).toInt32) &&& (3 : Int32))), .val (.int (p4 &&& (3 : Int32))), .val (.int v111), .val (.ref v112), .val (.ref y118), .val (.ref b119), .unset, .val (.int ((((p3.toUInt32 >>> ((4 : Int32) &&& 31).toUInt32).toInt32) &&& (3 : Int32)) - (((p3.toUInt32 >>> ((2 : Int32) &&& 31).toUInt32).toInt32) &&& (3 : Int32))))] [(.int (p4 &&& (3 : Int32)))]))
                refine OwnEnd.go (fun _ k => XS.iconst X271.here hx rfl (hb hby at_308) k) ?_
                show OwnEnd p e below s _ _ _ (T271.setTop (mkF m 309 #[.val (.int p1), .val (.int p2), .val (.int p3), .val (.int p4), .val (.int (p1 &&& (3 : Int32))), .val (.int v101), .val (.ref v102), .val (.ref y108), .val (.int v109), .val (.int v110), .val (.int (((p3.toUInt32 >>> ((2 : Int32) &&& 31).toUInt32).toInt32) &&& (3 : Int32))), .val (.int (((p3.toUInt32 >>> ((4 : Int32) &&& 31).toUInt32).toInt32) &&& (3 : Int32))), .val (.int (p4 &&& (3 : Int32))), .val (.int v111), .val (.ref v112), .val (.ref y118), .val (.ref b119), .unset, .val (.int ((((p3.toUInt32 >>> ((4 : Int32) &&& 31).toUInt32).toInt32) &&& (3 : Int32)) - (((p3.toUInt32 >>> ((2 : Int32) &&& 31).toUInt32).toInt32) &&& (3 : Int32))))] [(.int (2 : Int32)), (.int (p4 &&& (3 : Int32)))]))
                refine OwnEnd.go (fun _ k => XS.icmpYes X271.here hx rfl (pc0 := 309) (pc' := 327) rfl (hb hby at_309) rfl (feq (by rw [hc269]; decide : ¬ (p4 &&& (3 : Int32)) = (2 : Int32))).2 (by decide) (by decide) k) ?_
                show OwnEnd p e below s _ _ _ (T271.setTop (mkF m 327 #[.val (.int p1), .val (.int p2), .val (.int p3), .val (.int p4), .val (.int (p1 &&& (3 : Int32))), .val (.int v101), .val (.ref v102), .val (.ref y108), .val (.int v109), .val (.int v110), .val (.int (((p3.toUInt32 >>> ((2 : Int32) &&& 31).toUInt32).toInt32) &&& (3 : Int32))), .val (.int (((p3.toUInt32 >>> ((4 : Int32) &&& 31).toUInt32).toInt32) &&& (3 : Int32))), .val (.int (p4 &&& (3 : Int32))), .val (.int v111), .val (.ref v112), .val (.ref y118), .val (.ref b119), .unset, .val (.int ((((p3.toUInt32 >>> ((4 : Int32) &&& 31).toUInt32).toInt32) &&& (3 : Int32)) - (((p3.toUInt32 >>> ((2 : Int32) &&& 31).toUInt32).toInt32) &&& (3 : Int32))))] []))
                refine OwnEnd.go (fun _ k => XS.iload X271.here hx rfl (hb hby at_327) rfl  k) ?_
                show OwnEnd p e below s _ _ _ (T271.setTop (mkF m 329 #[.val (.int p1), .val (.int p2), .val (.int p3), .val (.int p4), .val (.int (p1 &&& (3 : Int32))), .val (.int v101), .val (.ref v102), .val (.ref y108), .val (.int v109), .val (.int v110), .val (.int (((p3.toUInt32 >>> ((2 : Int32) &&& 31).toUInt32).toInt32) &&& (3 : Int32))), .val (.int (((p3.toUInt32 >>> ((4 : Int32) &&& 31).toUInt32).toInt32) &&& (3 : Int32))), .val (.int (p4 &&& (3 : Int32))), .val (.int v111), .val (.ref v112), .val (.ref y118), .val (.ref b119), .unset, .val (.int ((((p3.toUInt32 >>> ((4 : Int32) &&& 31).toUInt32).toInt32) &&& (3 : Int32)) - (((p3.toUInt32 >>> ((2 : Int32) &&& 31).toUInt32).toInt32) &&& (3 : Int32))))] [(.int (p4 &&& (3 : Int32)))]))
                refine OwnEnd.go (fun _ k => XS.iconst X271.here hx rfl (hb hby at_329) k) ?_
                show OwnEnd p e below s _ _ _ (T271.setTop (mkF m 330 #[.val (.int p1), .val (.int p2), .val (.int p3), .val (.int p4), .val (.int (p1 &&& (3 : Int32))), .val (.int v101), .val (.ref v102), .val (.ref y108), .val (.int v109), .val (.int v110), .val (.int (((p3.toUInt32 >>> ((2 : Int32) &&& 31).toUInt32).toInt32) &&& (3 : Int32))), .val (.int (((p3.toUInt32 >>> ((4 : Int32) &&& 31).toUInt32).toInt32) &&& (3 : Int32))), .val (.int (p4 &&& (3 : Int32))), .val (.int v111), .val (.ref v112), .val (.ref y118), .val (.ref b119), .unset, .val (.int ((((p3.toUInt32 >>> ((4 : Int32) &&& 31).toUInt32).toInt32) &&& (3 : Int32)) - (((p3.toUInt32 >>> ((2 : Int32) &&& 31).toUInt32).toInt32) &&& (3 : Int32))))] [(.int (3 : Int32)), (.int (p4 &&& (3 : Int32)))]))
                refine OwnEnd.go (fun _ k => XS.icmpNo X271.here hx rfl (hb hby at_330) rfl (teq hc269).2 k) ?_
                show OwnEnd p e below s _ _ _ (T271.setTop (mkF m 333 #[.val (.int p1), .val (.int p2), .val (.int p3), .val (.int p4), .val (.int (p1 &&& (3 : Int32))), .val (.int v101), .val (.ref v102), .val (.ref y108), .val (.int v109), .val (.int v110), .val (.int (((p3.toUInt32 >>> ((2 : Int32) &&& 31).toUInt32).toInt32) &&& (3 : Int32))), .val (.int (((p3.toUInt32 >>> ((4 : Int32) &&& 31).toUInt32).toInt32) &&& (3 : Int32))), .val (.int (p4 &&& (3 : Int32))), .val (.int v111), .val (.ref v112), .val (.ref y118), .val (.ref b119), .unset, .val (.int ((((p3.toUInt32 >>> ((4 : Int32) &&& 31).toUInt32).toInt32) &&& (3 : Int32)) - (((p3.toUInt32 >>> ((2 : Int32) &&& 31).toUInt32).toInt32) &&& (3 : Int32))))] []))
                refine OwnEnd.go (fun _ k => XS.aload X271.here hx rfl (hb hby at_333) rfl rfl k) ?_
                show OwnEnd p e below s _ _ _ (T271.setTop (mkF m 335 #[.val (.int p1), .val (.int p2), .val (.int p3), .val (.int p4), .val (.int (p1 &&& (3 : Int32))), .val (.int v101), .val (.ref v102), .val (.ref y108), .val (.int v109), .val (.int v110), .val (.int (((p3.toUInt32 >>> ((2 : Int32) &&& 31).toUInt32).toInt32) &&& (3 : Int32))), .val (.int (((p3.toUInt32 >>> ((4 : Int32) &&& 31).toUInt32).toInt32) &&& (3 : Int32))), .val (.int (p4 &&& (3 : Int32))), .val (.int v111), .val (.ref v112), .val (.ref y118), .val (.ref b119), .unset, .val (.int ((((p3.toUInt32 >>> ((4 : Int32) &&& 31).toUInt32).toInt32) &&& (3 : Int32)) - (((p3.toUInt32 >>> ((2 : Int32) &&& 31).toUInt32).toInt32) &&& (3 : Int32))))] [(.ref y118)]))
                obtain ⟨T275, X275, e275, st275⟩ := getS2 X271 hx hZ hown (host := "") (Or.inl ww8) Via.refl (rfl : T271.heap = T271.heap) (S_ATTRIBUTE.ext O271.2) (g := (mkF m 335 #[.val (.int p1), .val (.int p2), .val (.int p3), .val (.int p4), .val (.int (p1 &&& (3 : Int32))), .val (.int v101), .val (.ref v102), .val (.ref y108), .val (.int v109), .val (.int v110), .val (.int (((p3.toUInt32 >>> ((2 : Int32) &&& 31).toUInt32).toInt32) &&& (3 : Int32))), .val (.int (((p3.toUInt32 >>> ((4 : Int32) &&& 31).toUInt32).toInt32) &&& (3 : Int32))), .val (.int (p4 &&& (3 : Int32))), .val (.int v111), .val (.ref v112), .val (.ref y118), .val (.ref b119), .unset, .val (.int ((((p3.toUInt32 >>> ((4 : Int32) &&& 31).toUInt32).toInt32) &&& (3 : Int32)) - (((p3.toUInt32 >>> ((2 : Int32) &&& 31).toUInt32).toInt32) &&& (3 : Int32))))] [(.ref y118)])) rfl (hb hby at_335)
                refine OwnEnd.go (fun _ k => st275 _ k) ?_
                show OwnEnd p e below s _ _ _ (T275.setTop (mkF m 338 #[.val (.int p1), .val (.int p2), .val (.int p3), .val (.int p4), .val (.int (p1 &&& (3 : Int32))), .val (.int v101), .val (.ref v102), .val (.ref y108), .val (.int v109), .val (.int v110), .val (.int (((p3.toUInt32 >>> ((2 : Int32) &&& 31).toUInt32).toInt32) &&& (3 : Int32))), .val (.int (((p3.toUInt32 >>> ((4 : Int32) &&& 31).toUInt32).toInt32) &&& (3 : Int32))), .val (.int (p4 &&& (3 : Int32))), .val (.int v111), .val (.ref v112), .val (.ref y118), .val (.ref b119), .unset, .val (.int ((((p3.toUInt32 >>> ((4 : Int32) &&& 31).toUInt32).toInt32) &&& (3 : Int32)) - (((p3.toUInt32 >>> ((2 : Int32) &&& 31).toUInt32).toInt32) &&& (3 : Int32))))] [(.ref a_ATTRIBUTE), (.ref y118)]))
                refine OwnEnd.go (fun _ k => Jvm.RoadKit.acmp (g := (mkF m 338 #[.val (.int p1), .val (.int p2), .val (.int p3), .val (.int p4), .val (.int (p1 &&& (3 : Int32))), .val (.int v101), .val (.ref v102), .val (.ref y108), .val (.int v109), .val (.int v110), .val (.int (((p3.toUInt32 >>> ((2 : Int32) &&& 31).toUInt32).toInt32) &&& (3 : Int32))), .val (.int (((p3.toUInt32 >>> ((4 : Int32) &&& 31).toUInt32).toInt32) &&& (3 : Int32))), .val (.int (p4 &&& (3 : Int32))), .val (.int v111), .val (.ref v112), .val (.ref y118), .val (.ref b119), .unset, .val (.int ((((p3.toUInt32 >>> ((4 : Int32) &&& 31).toUInt32).toInt32) &&& (3 : Int32)) - (((p3.toUInt32 >>> ((2 : Int32) &&& 31).toUInt32).toInt32) &&& (3 : Int32))))] [(.ref a_ATTRIBUTE), (.ref y118)])) X275 hx rfl rfl rfl (pc0 := 338) (pc' := 344) (same := true) rfl (hb hby at_338) rfl (decide_eq_true (congrArg Value.ref hl270)) (by decide) (by decide) k) ?_
                show OwnEnd p e below s _ _ _ (T275.setTop (mkF m 344 #[.val (.int p1), .val (.int p2), .val (.int p3), .val (.int p4), .val (.int (p1 &&& (3 : Int32))), .val (.int v101), .val (.ref v102), .val (.ref y108), .val (.int v109), .val (.int v110), .val (.int (((p3.toUInt32 >>> ((2 : Int32) &&& 31).toUInt32).toInt32) &&& (3 : Int32))), .val (.int (((p3.toUInt32 >>> ((4 : Int32) &&& 31).toUInt32).toInt32) &&& (3 : Int32))), .val (.int (p4 &&& (3 : Int32))), .val (.int v111), .val (.ref v112), .val (.ref y118), .val (.ref b119), .unset, .val (.int ((((p3.toUInt32 >>> ((4 : Int32) &&& 31).toUInt32).toInt32) &&& (3 : Int32)) - (((p3.toUInt32 >>> ((2 : Int32) &&& 31).toUInt32).toInt32) &&& (3 : Int32))))] []))
                refine OwnEnd.go (fun _ k => XS.iload X275.here hx rfl (hb hby at_344) rfl  k) ?_
                show OwnEnd p e below s _ _ _ (T275.setTop (mkF m 346 #[.val (.int p1), .val (.int p2), .val (.int p3), .val (.int p4), .val (.int (p1 &&& (3 : Int32))), .val (.int v101), .val (.ref v102), .val (.ref y108), .val (.int v109), .val (.int v110), .val (.int (((p3.toUInt32 >>> ((2 : Int32) &&& 31).toUInt32).toInt32) &&& (3 : Int32))), .val (.int (((p3.toUInt32 >>> ((4 : Int32) &&& 31).toUInt32).toInt32) &&& (3 : Int32))), .val (.int (p4 &&& (3 : Int32))), .val (.int v111), .val (.ref v112), .val (.ref y118), .val (.ref b119), .unset, .val (.int ((((p3.toUInt32 >>> ((4 : Int32) &&& 31).toUInt32).toInt32) &&& (3 : Int32)) - (((p3.toUInt32 >>> ((2 : Int32) &&& 31).toUInt32).toInt32) &&& (3 : Int32))))] [(.int ((((p3.toUInt32 >>> ((4 : Int32) &&& 31).toUInt32).toInt32) &&& (3 : Int32)) - (((p3.toUInt32 >>> ((2 : Int32) &&& 31).toUInt32).toInt32) &&& (3 : Int32))))]))
                by_cases hc276 : ((((p3.toUInt32 >>> ((4 : Int32) &&& 31).toUInt32).toInt32) &&& (3 : Int32)) - (((p3.toUInt32 >>> ((2 : Int32) &&& 31).toUInt32).toInt32) &&& (3 : Int32))) = (0 : Int32)
                · refine OwnEnd.go (fun _ k => XS.ifNo X275.here hx rfl (hb hby at_346) rfl ((if0 _ _).trans (teq hc276).2) k) ?_
                  show OwnEnd p e below s _ _ _ (T275.setTop (mkF m 349 #[.val (.int p1), .val (.int p2), .val (.int p3), .val (.int p4), .val (.int (p1 &&& (3 : Int32))), .val (.int v101), .val (.ref v102), .val (.ref y108), .val (.int v109), .val (.int v110), .val (.int (((p3.toUInt32 >>> ((2 : Int32) &&& 31).toUInt32).toInt32) &&& (3 : Int32))), .val (.int (((p3.toUInt32 >>> ((4 : Int32) &&& 31).toUInt32).toInt32) &&& (3 : Int32))), .val (.int (p4 &&& (3 : Int32))), .val (.int v111), .val (.ref v112), .val (.ref y118), .val (.ref b119), .unset, .val (.int ((((p3.toUInt32 >>> ((4 : Int32) &&& 31).toUInt32).toInt32) &&& (3 : Int32)) - (((p3.toUInt32 >>> ((2 : Int32) &&& 31).toUInt32).toInt32) &&& (3 : Int32))))] []))
                  refine OwnEnd.go (fun _ k => XS.iconst X275.here hx rfl (hb hby at_349) k) ?_
                  show OwnEnd p e below s _ _ _ (T275.setTop (mkF m 350 #[.val (.int p1), .val (.int p2), .val (.int p3), .val (.int p4), .val (.int (p1 &&& (3 : Int32))), .val (.int v101), .val (.ref v102), .val (.ref y108), .val (.int v109), .val (.int v110), .val (.int (((p3.toUInt32 >>> ((2 : Int32) &&& 31).toUInt32).toInt32) &&& (3 : Int32))), .val (.int (((p3.toUInt32 >>> ((4 : Int32) &&& 31).toUInt32).toInt32) &&& (3 : Int32))), .val (.int (p4 &&& (3 : Int32))), .val (.int v111), .val (.ref v112), .val (.ref y118), .val (.ref b119), .unset, .val (.int ((((p3.toUInt32 >>> ((4 : Int32) &&& 31).toUInt32).toInt32) &&& (3 : Int32)) - (((p3.toUInt32 >>> ((2 : Int32) &&& 31).toUInt32).toInt32) &&& (3 : Int32))))] [(.int (1 : Int32))]))
                  refine OwnEnd.go (fun _ k => XS.goto X275.here hx rfl (pc0 := 350) (pc' := 354) rfl (hb hby at_350) (by decide) (by decide) k) ?_
                  show OwnEnd p e below s _ _ _ (T275.setTop (mkF m 354 #[.val (.int p1), .val (.int p2), .val (.int p3), .val (.int p4), .val (.int (p1 &&& (3 : Int32))), .val (.int v101), .val (.ref v102), .val (.ref y108), .val (.int v109), .val (.int v110), .val (.int (((p3.toUInt32 >>> ((2 : Int32) &&& 31).toUInt32).toInt32) &&& (3 : Int32))), .val (.int (((p3.toUInt32 >>> ((4 : Int32) &&& 31).toUInt32).toInt32) &&& (3 : Int32))), .val (.int (p4 &&& (3 : Int32))), .val (.int v111), .val (.ref v112), .val (.ref y118), .val (.ref b119), .unset, .val (.int ((((p3.toUInt32 >>> ((4 : Int32) &&& 31).toUInt32).toInt32) &&& (3 : Int32)) - (((p3.toUInt32 >>> ((2 : Int32) &&& 31).toUInt32).toInt32) &&& (3 : Int32))))] [(.int (1 : Int32))]))
                  refine OwnEnd.go (fun _ k => XS.istore X275.here hx rfl (hb hby at_354) rfl  (l' := #[.val (.int p1), .val (.int p2), .val (.int p3), .val (.int p4), .val (.int (p1 &&& (3 : Int32))), .val (.int v101), .val (.ref v102), .val (.ref y108), .val (.int v109), .val (.int v110), .val (.int (((p3.toUInt32 >>> ((2 : Int32) &&& 31).toUInt32).toInt32) &&& (3 : Int32))), .val (.int (((p3.toUInt32 >>> ((4 : Int32) &&& 31).toUInt32).toInt32) &&& (3 : Int32))), .val (.int (p4 &&& (3 : Int32))), .val (.int v111), .val (.ref v112), .val (.ref y118), .val (.ref b119), .val (.int (1 : Int32)), .val (.int ((((p3.toUInt32 >>> ((4 : Int32) &&& 31).toUInt32).toInt32) &&& (3 : Int32)) - (((p3.toUInt32 >>> ((2 : Int32) &&& 31).toUInt32).toInt32) &&& (3 : Int32))))]) rfl k) ?_
                  show OwnEnd p e below s _ _ _ (T275.setTop (mkF m 356 #[.val (.int p1), .val (.int p2), .val (.int p3), .val (.int p4), .val (.int (p1 &&& (3 : Int32))), .val (.int v101), .val (.ref v102), .val (.ref y108), .val (.int v109), .val (.int v110), .val (.int (((p3.toUInt32 >>> ((2 : Int32) &&& 31).toUInt32).toInt32) &&& (3 : Int32))), .val (.int (((p3.toUInt32 >>> ((4 : Int32) &&& 31).toUInt32).toInt32) &&& (3 : Int32))), .val (.int (p4 &&& (3 : Int32))), .val (.int v111), .val (.ref v112), .val (.ref y118), .val (.ref b119), .val (.int (1 : Int32)), .val (.int ((((p3.toUInt32 >>> ((4 : Int32) &&& 31).toUInt32).toInt32) &&& (3 : Int32)) - (((p3.toUInt32 >>> ((2 : Int32) &&& 31).toUInt32).toInt32) &&& (3 : Int32))))] []))
                  refine OwnEnd.go (fun _ k => XS.aload X275.here hx rfl (hb hby at_356) rfl rfl k) ?_
                  show OwnEnd p e below s _ _ _ (T275.setTop (mkF m 358 #[.val (.int p1), .val (.int p2), .val (.int p3), .val (.int p4), .val (.int (p1 &&& (3 : Int32))), .val (.int v101), .val (.ref v102), .val (.ref y108), .val (.int v109), .val (.int v110), .val (.int (((p3.toUInt32 >>> ((2 : Int32) &&& 31).toUInt32).toInt32) &&& (3 : Int32))), .val (.int (((p3.toUInt32 >>> ((4 : Int32) &&& 31).toUInt32).toInt32) &&& (3 : Int32))), .val (.int (p4 &&& (3 : Int32))), .val (.int v111), .val (.ref v112), .val (.ref y118), .val (.ref b119), .val (.int (1 : Int32)), .val (.int ((((p3.toUInt32 >>> ((4 : Int32) &&& 31).toUInt32).toInt32) &&& (3 : Int32)) - (((p3.toUInt32 >>> ((2 : Int32) &&& 31).toUInt32).toInt32) &&& (3 : Int32))))] [(.ref b119)]))
                  obtain ⟨_, T277, L277, X277, hQ277, st277⟩ := ownCallV X275 hx hZ hown ww55 ww56 ww58 ww57 ww14 ww59 (by decide) (rm8d1 l Z a0 hw [] b119 y134 y135 ((rc2 + (((p3.toUInt32 >>> ((4 : Int32) &&& 31).toUInt32).toInt32) &&& (3 : Int32))) + (1 : Int32)) ((0 : Int32) + (p1 &&& (3 : Int32))) (0 : Int32) ((tt2 + (((p3.toUInt32 >>> ((2 : Int32) &&& 31).toUInt32).toInt32) &&& (3 : Int32))) + (1 : Int32)) (0 : Int32) (0 : Int32) (0 : Int32) (0 : Int32) T271.heap n0 Y271  P272) e275 F273 0 (by decide) (by decide) (by decide) (by decide) (g := (mkF m 358 #[.val (.int p1), .val (.int p2), .val (.int p3), .val (.int p4), .val (.int (p1 &&& (3 : Int32))), .val (.int v101), .val (.ref v102), .val (.ref y108), .val (.int v109), .val (.int v110), .val (.int (((p3.toUInt32 >>> ((2 : Int32) &&& 31).toUInt32).toInt32) &&& (3 : Int32))), .val (.int (((p3.toUInt32 >>> ((4 : Int32) &&& 31).toUInt32).toInt32) &&& (3 : Int32))), .val (.int (p4 &&& (3 : Int32))), .val (.int v111), .val (.ref v112), .val (.ref y118), .val (.ref b119), .val (.int (1 : Int32)), .val (.int ((((p3.toUInt32 >>> ((4 : Int32) &&& 31).toUInt32).toInt32) &&& (3 : Int32)) - (((p3.toUInt32 >>> ((2 : Int32) &&& 31).toUInt32).toInt32) &&& (3 : Int32))))] [(.ref b119)])) rfl (by rw [hml]; rfl) (argsL := []) (rest := []) (lenOf pd0_4 rfl) rfl rfl (by show 2 * 0 + _ ≤ _; exact Nat.le_of_eq rfl) (hb hby at_358)
                  obtain ⟨rfl, N277q, e277⟩ := hQ277
                  have N277 := Fr.app N271 N277q
                  refine OwnEnd.go (fun _ k => st277 _ k) ?_
                  show OwnEnd p e below s _ _ _ (T277.setTop (mkF m 361 #[.val (.int p1), .val (.int p2), .val (.int p3), .val (.int p4), .val (.int (p1 &&& (3 : Int32))), .val (.int v101), .val (.ref v102), .val (.ref y108), .val (.int v109), .val (.int v110), .val (.int (((p3.toUInt32 >>> ((2 : Int32) &&& 31).toUInt32).toInt32) &&& (3 : Int32))), .val (.int (((p3.toUInt32 >>> ((4 : Int32) &&& 31).toUInt32).toInt32) &&& (3 : Int32))), .val (.int (p4 &&& (3 : Int32))), .val (.int v111), .val (.ref v112), .val (.ref y118), .val (.ref b119), .val (.int (1 : Int32)), .val (.int ((((p3.toUInt32 >>> ((4 : Int32) &&& 31).toUInt32).toInt32) &&& (3 : Int32)) - (((p3.toUInt32 >>> ((2 : Int32) &&& 31).toUInt32).toInt32) &&& (3 : Int32))))] [(.int (own_isat ((rc2 + (((p3.toUInt32 >>> ((4 : Int32) &&& 31).toUInt32).toInt32) &&& (3 : Int32))) + (1 : Int32)) ((0 : Int32) + (p1 &&& (3 : Int32))) ((tt2 + (((p3.toUInt32 >>> ((2 : Int32) &&& 31).toUInt32).toInt32) &&& (3 : Int32))) + (1 : Int32))))]))
                  refine OwnEnd.go (fun _ k => XS.iload X277.here hx rfl (hb hby at_361) rfl  k) ?_
                  show OwnEnd p e below s _ _ _ (T277.setTop (mkF m 363 #[.val (.int p1), .val (.int p2), .val (.int p3), .val (.int p4), .val (.int (p1 &&& (3 : Int32))), .val (.int v101), .val (.ref v102), .val (.ref y108), .val (.int v109), .val (.int v110), .val (.int (((p3.toUInt32 >>> ((2 : Int32) &&& 31).toUInt32).toInt32) &&& (3 : Int32))), .val (.int (((p3.toUInt32 >>> ((4 : Int32) &&& 31).toUInt32).toInt32) &&& (3 : Int32))), .val (.int (p4 &&& (3 : Int32))), .val (.int v111), .val (.ref v112), .val (.ref y118), .val (.ref b119), .val (.int (1 : Int32)), .val (.int ((((p3.toUInt32 >>> ((4 : Int32) &&& 31).toUInt32).toInt32) &&& (3 : Int32)) - (((p3.toUInt32 >>> ((2 : Int32) &&& 31).toUInt32).toInt32) &&& (3 : Int32))))] [(.int (1 : Int32)), (.int (own_isat ((rc2 + (((p3.toUInt32 >>> ((4 : Int32) &&& 31).toUInt32).toInt32) &&& (3 : Int32))) + (1 : Int32)) ((0 : Int32) + (p1 &&& (3 : Int32))) ((tt2 + (((p3.toUInt32 >>> ((2 : Int32) &&& 31).toUInt32).toInt32) &&& (3 : Int32))) + (1 : Int32))))]))
                  refine OwnEnd.go (fun _ k => XS.icmpNo X277.here hx rfl (hb hby at_363) rfl (teq (own_isat_t ((own_f3 hy221).2 hc276))).2 k) ?_
                  show OwnEnd p e below s _ _ _ (T277.setTop (mkF m 366 #[.val (.int p1), .val (.int p2), .val (.int p3), .val (.int p4), .val (.int (p1 &&& (3 : Int32))), .val (.int v101), .val (.ref v102), .val (.ref y108), .val (.int v109), .val (.int v110), .val (.int (((p3.toUInt32 >>> ((2 : Int32) &&& 31).toUInt32).toInt32) &&& (3 : Int32))), .val (.int (((p3.toUInt32 >>> ((4 : Int32) &&& 31).toUInt32).toInt32) &&& (3 : Int32))), .val (.int (p4 &&& (3 : Int32))), .val (.int v111), .val (.ref v112), .val (.ref y118), .val (.ref b119), .val (.int (1 : Int32)), .val (.int ((((p3.toUInt32 >>> ((4 : Int32) &&& 31).toUInt32).toInt32) &&& (3 : Int32)) - (((p3.toUInt32 >>> ((2 : Int32) &&& 31).toUInt32).toInt32) &&& (3 : Int32))))] []))
                  refine OwnEnd.go (fun _ k => XS.iconst X277.here hx rfl (hb hby at_366) k) ?_
                  show OwnEnd p e below s _ _ _ (T277.setTop (mkF m 367 #[.val (.int p1), .val (.int p2), .val (.int p3), .val (.int p4), .val (.int (p1 &&& (3 : Int32))), .val (.int v101), .val (.ref v102), .val (.ref y108), .val (.int v109), .val (.int v110), .val (.int (((p3.toUInt32 >>> ((2 : Int32) &&& 31).toUInt32).toInt32) &&& (3 : Int32))), .val (.int (((p3.toUInt32 >>> ((4 : Int32) &&& 31).toUInt32).toInt32) &&& (3 : Int32))), .val (.int (p4 &&& (3 : Int32))), .val (.int v111), .val (.ref v112), .val (.ref y118), .val (.ref b119), .val (.int (1 : Int32)), .val (.int ((((p3.toUInt32 >>> ((4 : Int32) &&& 31).toUInt32).toInt32) &&& (3 : Int32)) - (((p3.toUInt32 >>> ((2 : Int32) &&& 31).toUInt32).toInt32) &&& (3 : Int32))))] [(.int (1 : Int32))]))
                  refine OwnEnd.go (fun _ k => XS.goto X277.here hx rfl (pc0 := 367) (pc' := 371) rfl (hb hby at_367) (by decide) (by decide) k) ?_
                  show OwnEnd p e below s _ _ _ (T277.setTop (mkF m 371 #[.val (.int p1), .val (.int p2), .val (.int p3), .val (.int p4), .val (.int (p1 &&& (3 : Int32))), .val (.int v101), .val (.ref v102), .val (.ref y108), .val (.int v109), .val (.int v110), .val (.int (((p3.toUInt32 >>> ((2 : Int32) &&& 31).toUInt32).toInt32) &&& (3 : Int32))), .val (.int (((p3.toUInt32 >>> ((4 : Int32) &&& 31).toUInt32).toInt32) &&& (3 : Int32))), .val (.int (p4 &&& (3 : Int32))), .val (.int v111), .val (.ref v112), .val (.ref y118), .val (.ref b119), .val (.int (1 : Int32)), .val (.int ((((p3.toUInt32 >>> ((4 : Int32) &&& 31).toUInt32).toInt32) &&& (3 : Int32)) - (((p3.toUInt32 >>> ((2 : Int32) &&& 31).toUInt32).toInt32) &&& (3 : Int32))))] [(.int (1 : Int32))]))
                  refine ownRetZ X277 hx hlk hret (hb hby at_371) (by decide) (by decide) (1 : Int32) (by decide) ?_
                  show Q0 Z p1 p2 p3 p4 a_ATTRIBUTE a_TEXT a_COMMENT a_PROCESSING_INSTRUCTION a_NAMESPACE a_ELEMENT a_DOCUMENT h0 n0 _ T277.heap _
                  rw [e277]
                  exact ⟨rfl, N277⟩
                · refine OwnEnd.go (fun _ k => XS.ifYes X275.here hx rfl (pc0 := 346) (pc' := 353) rfl (hb hby at_346) rfl ((if0 _ _).trans (feq hc276).2) (by decide) (by decide) k) ?_
                  show OwnEnd p e below s _ _ _ (T275.setTop (mkF m 353 #[.val (.int p1), .val (.int p2), .val (.int p3), .val (.int p4), .val (.int (p1 &&& (3 : Int32))), .val (.int v101), .val (.ref v102), .val (.ref y108), .val (.int v109), .val (.int v110), .val (.int (((p3.toUInt32 >>> ((2 : Int32) &&& 31).toUInt32).toInt32) &&& (3 : Int32))), .val (.int (((p3.toUInt32 >>> ((4 : Int32) &&& 31).toUInt32).toInt32) &&& (3 : Int32))), .val (.int (p4 &&& (3 : Int32))), .val (.int v111), .val (.ref v112), .val (.ref y118), .val (.ref b119), .unset, .val (.int ((((p3.toUInt32 >>> ((4 : Int32) &&& 31).toUInt32).toInt32) &&& (3 : Int32)) - (((p3.toUInt32 >>> ((2 : Int32) &&& 31).toUInt32).toInt32) &&& (3 : Int32))))] []))
                  refine OwnEnd.go (fun _ k => XS.iconst X275.here hx rfl (hb hby at_353) k) ?_
                  show OwnEnd p e below s _ _ _ (T275.setTop (mkF m 354 #[.val (.int p1), .val (.int p2), .val (.int p3), .val (.int p4), .val (.int (p1 &&& (3 : Int32))), .val (.int v101), .val (.ref v102), .val (.ref y108), .val (.int v109), .val (.int v110), .val (.int (((p3.toUInt32 >>> ((2 : Int32) &&& 31).toUInt32).toInt32) &&& (3 : Int32))), .val (.int (((p3.toUInt32 >>> ((4 : Int32) &&& 31).toUInt32).toInt32) &&& (3 : Int32))), .val (.int (p4 &&& (3 : Int32))), .val (.int v111), .val (.ref v112), .val (.ref y118), .val (.ref b119), .unset, .val (.int ((((p3.toUInt32 >>> ((4 : Int32) &&& 31).toUInt32).toInt32) &&& (3 : Int32)) - (((p3.toUInt32 >>> ((2 : Int32) &&& 31).toUInt32).toInt32) &&& (3 : Int32))))] [(.int (0 : Int32))]))
                  refine OwnEnd.go (fun _ k => XS.istore X275.here hx rfl (hb hby at_354) rfl  (l' := #[.val (.int p1), .val (.int p2), .val (.int p3), .val (.int p4), .val (.int (p1 &&& (3 : Int32))), .val (.int v101), .val (.ref v102), .val (.ref y108), .val (.int v109), .val (.int v110), .val (.int (((p3.toUInt32 >>> ((2 : Int32) &&& 31).toUInt32).toInt32) &&& (3 : Int32))), .val (.int (((p3.toUInt32 >>> ((4 : Int32) &&& 31).toUInt32).toInt32) &&& (3 : Int32))), .val (.int (p4 &&& (3 : Int32))), .val (.int v111), .val (.ref v112), .val (.ref y118), .val (.ref b119), .val (.int (0 : Int32)), .val (.int ((((p3.toUInt32 >>> ((4 : Int32) &&& 31).toUInt32).toInt32) &&& (3 : Int32)) - (((p3.toUInt32 >>> ((2 : Int32) &&& 31).toUInt32).toInt32) &&& (3 : Int32))))]) rfl k) ?_
                  show OwnEnd p e below s _ _ _ (T275.setTop (mkF m 356 #[.val (.int p1), .val (.int p2), .val (.int p3), .val (.int p4), .val (.int (p1 &&& (3 : Int32))), .val (.int v101), .val (.ref v102), .val (.ref y108), .val (.int v109), .val (.int v110), .val (.int (((p3.toUInt32 >>> ((2 : Int32) &&& 31).toUInt32).toInt32) &&& (3 : Int32))), .val (.int (((p3.toUInt32 >>> ((4 : Int32) &&& 31).toUInt32).toInt32) &&& (3 : Int32))), .val (.int (p4 &&& (3 : Int32))), .val (.int v111), .val (.ref v112), .val (.ref y118), .val (.ref b119), .val (.int (0 : Int32)), .val (.int ((((p3.toUInt32 >>> ((4 : Int32) &&& 31).toUInt32).toInt32) &&& (3 : Int32)) - (((p3.toUInt32 >>> ((2 : Int32) &&& 31).toUInt32).toInt32) &&& (3 : Int32))))] []))
                  refine OwnEnd.go (fun _ k => XS.aload X275.here hx rfl (hb hby at_356) rfl rfl k) ?_
                  show OwnEnd p e below s _ _ _ (T275.setTop (mkF m 358 #[.val (.int p1), .val (.int p2), .val (.int p3), .val (.int p4), .val (.int (p1 &&& (3 : Int32))), .val (.int v101), .val (.ref v102), .val (.ref y108), .val (.int v109), .val (.int v110), .val (.int (((p3.toUInt32 >>> ((2 : Int32) &&& 31).toUInt32).toInt32) &&& (3 : Int32))), .val (.int (((p3.toUInt32 >>> ((4 : Int32) &&& 31).toUInt32).toInt32) &&& (3 : Int32))), .val (.int (p4 &&& (3 : Int32))), .val (.int v111), .val (.ref v112), .val (.ref y118), .val (.ref b119), .val (.int (0 : Int32)), .val (.int ((((p3.toUInt32 >>> ((4 : Int32) &&& 31).toUInt32).toInt32) &&& (3 : Int32)) - (((p3.toUInt32 >>> ((2 : Int32) &&& 31).toUInt32).toInt32) &&& (3 : Int32))))] [(.ref b119)]))
                  obtain ⟨_, T278, L278, X278, hQ278, st278⟩ := ownCallV X275 hx hZ hown ww55 ww56 ww58 ww57 ww14 ww59 (by decide) (rm8d1 l Z a0 hw [] b119 y134 y135 ((rc2 + (((p3.toUInt32 >>> ((4 : Int32) &&& 31).toUInt32).toInt32) &&& (3 : Int32))) + (1 : Int32)) ((0 : Int32) + (p1 &&& (3 : Int32))) (0 : Int32) ((tt2 + (((p3.toUInt32 >>> ((2 : Int32) &&& 31).toUInt32).toInt32) &&& (3 : Int32))) + (1 : Int32)) (0 : Int32) (0 : Int32) (0 : Int32) (0 : Int32) T271.heap n0 Y271  P272) e275 F273 0 (by decide) (by decide) (by decide) (by decide) (g := (mkF m 358 #[.val (.int p1), .val (.int p2), .val (.int p3), .val (.int p4), .val (.int (p1 &&& (3 : Int32))), .val (.int v101), .val (.ref v102), .val (.ref y108), .val (.int v109), .val (.int v110), .val (.int (((p3.toUInt32 >>> ((2 : Int32) &&& 31).toUInt32).toInt32) &&& (3 : Int32))), .val (.int (((p3.toUInt32 >>> ((4 : Int32) &&& 31).toUInt32).toInt32) &&& (3 : Int32))), .val (.int (p4 &&& (3 : Int32))), .val (.int v111), .val (.ref v112), .val (.ref y118), .val (.ref b119), .val (.int (0 : Int32)), .val (.int ((((p3.toUInt32 >>> ((4 : Int32) &&& 31).toUInt32).toInt32) &&& (3 : Int32)) - (((p3.toUInt32 >>> ((2 : Int32) &&& 31).toUInt32).toInt32) &&& (3 : Int32))))] [(.ref b119)])) rfl (by rw [hml]; rfl) (argsL := []) (rest := []) (lenOf pd0_4 rfl) rfl rfl (by show 2 * 0 + _ ≤ _; exact Nat.le_of_eq rfl) (hb hby at_358)
                  obtain ⟨rfl, N278q, e278⟩ := hQ278
                  have N278 := Fr.app N271 N278q
                  refine OwnEnd.go (fun _ k => st278 _ k) ?_
                  show OwnEnd p e below s _ _ _ (T278.setTop (mkF m 361 #[.val (.int p1), .val (.int p2), .val (.int p3), .val (.int p4), .val (.int (p1 &&& (3 : Int32))), .val (.int v101), .val (.ref v102), .val (.ref y108), .val (.int v109), .val (.int v110), .val (.int (((p3.toUInt32 >>> ((2 : Int32) &&& 31).toUInt32).toInt32) &&& (3 : Int32))), .val (.int (((p3.toUInt32 >>> ((4 : Int32) &&& 31).toUInt32).toInt32) &&& (3 : Int32))), .val (.int (p4 &&& (3 : Int32))), .val (.int v111), .val (.ref v112), .val (.ref y118), .val (.ref b119), .val (.int (0 : Int32)), .val (.int ((((p3.toUInt32 >>> ((4 : Int32) &&& 31).toUInt32).toInt32) &&& (3 : Int32)) - (((p3.toUInt32 >>> ((2 : Int32) &&& 31).toUInt32).toInt32) &&& (3 : Int32))))] [(.int (own_isat ((rc2 + (((p3.toUInt32 >>> ((4 : Int32) &&& 31).toUInt32).toInt32) &&& (3 : Int32))) + (1 : Int32)) ((0 : Int32) + (p1 &&& (3 : Int32))) ((tt2 + (((p3.toUInt32 >>> ((2 : Int32) &&& 31).toUInt32).toInt32) &&& (3 : Int32))) + (1 : Int32))))]))
                  refine OwnEnd.go (fun _ k => XS.iload X278.here hx rfl (hb hby at_361) rfl  k) ?_
                  show OwnEnd p e below s _ _ _ (T278.setTop (mkF m 363 #[.val (.int p1), .val (.int p2), .val (.int p3), .val (.int p4), .val (.int (p1 &&& (3 : Int32))), .val (.int v101), .val (.ref v102), .val (.ref y108), .val (.int v109), .val (.int v110), .val (.int (((p3.toUInt32 >>> ((2 : Int32) &&& 31).toUInt32).toInt32) &&& (3 : Int32))), .val (.int (((p3.toUInt32 >>> ((4 : Int32) &&& 31).toUInt32).toInt32) &&& (3 : Int32))), .val (.int (p4 &&& (3 : Int32))), .val (.int v111), .val (.ref v112), .val (.ref y118), .val (.ref b119), .val (.int (0 : Int32)), .val (.int ((((p3.toUInt32 >>> ((4 : Int32) &&& 31).toUInt32).toInt32) &&& (3 : Int32)) - (((p3.toUInt32 >>> ((2 : Int32) &&& 31).toUInt32).toInt32) &&& (3 : Int32))))] [(.int (0 : Int32)), (.int (own_isat ((rc2 + (((p3.toUInt32 >>> ((4 : Int32) &&& 31).toUInt32).toInt32) &&& (3 : Int32))) + (1 : Int32)) ((0 : Int32) + (p1 &&& (3 : Int32))) ((tt2 + (((p3.toUInt32 >>> ((2 : Int32) &&& 31).toUInt32).toInt32) &&& (3 : Int32))) + (1 : Int32))))]))
                  refine OwnEnd.go (fun _ k => XS.icmpNo X278.here hx rfl (hb hby at_363) rfl (teq (own_isat_f (fun q => hc276 ((own_f3 hy221).1 q)))).2 k) ?_
                  show OwnEnd p e below s _ _ _ (T278.setTop (mkF m 366 #[.val (.int p1), .val (.int p2), .val (.int p3), .val (.int p4), .val (.int (p1 &&& (3 : Int32))), .val (.int v101), .val (.ref v102), .val (.ref y108), .val (.int v109), .val (.int v110), .val (.int (((p3.toUInt32 >>> ((2 : Int32) &&& 31).toUInt32).toInt32) &&& (3 : Int32))), .val (.int (((p3.toUInt32 >>> ((4 : Int32) &&& 31).toUInt32).toInt32) &&& (3 : Int32))), .val (.int (p4 &&& (3 : Int32))), .val (.int v111), .val (.ref v112), .val (.ref y118), .val (.ref b119), .val (.int (0 : Int32)), .val (.int ((((p3.toUInt32 >>> ((4 : Int32) &&& 31).toUInt32).toInt32) &&& (3 : Int32)) - (((p3.toUInt32 >>> ((2 : Int32) &&& 31).toUInt32).toInt32) &&& (3 : Int32))))] []))
                  refine OwnEnd.go (fun _ k => XS.iconst X278.here hx rfl (hb hby at_366) k) ?_
                  show OwnEnd p e below s _ _ _ (T278.setTop (mkF m 367 #[.val (.int p1), .val (.int p2), .val (.int p3), .val (.int p4), .val (.int (p1 &&& (3 : Int32))), .val (.int v101), .val (.ref v102), .val (.ref y108), .val (.int v109), .val (.int v110), .val (.int (((p3.toUInt32 >>> ((2 : Int32) &&& 31).toUInt32).toInt32) &&& (3 : Int32))), .val (.int (((p3.toUInt32 >>> ((4 : Int32) &&& 31).toUInt32).toInt32) &&& (3 : Int32))), .val (.int (p4 &&& (3 : Int32))), .val (.int v111), .val (.ref v112), .val (.ref y118), .val (.ref b119), .val (.int (0 : Int32)), .val (.int ((((p3.toUInt32 >>> ((4 : Int32) &&& 31).toUInt32).toInt32) &&& (3 : Int32)) - (((p3.toUInt32 >>> ((2 : Int32) &&& 31).toUInt32).toInt32) &&& (3 : Int32))))] [(.int (1 : Int32))]))
                  refine OwnEnd.go (fun _ k => XS.goto X278.here hx rfl (pc0 := 367) (pc' := 371) rfl (hb hby at_367) (by decide) (by decide) k) ?_
                  show OwnEnd p e below s _ _ _ (T278.setTop (mkF m 371 #[.val (.int p1), .val (.int p2), .val (.int p3), .val (.int p4), .val (.int (p1 &&& (3 : Int32))), .val (.int v101), .val (.ref v102), .val (.ref y108), .val (.int v109), .val (.int v110), .val (.int (((p3.toUInt32 >>> ((2 : Int32) &&& 31).toUInt32).toInt32) &&& (3 : Int32))), .val (.int (((p3.toUInt32 >>> ((4 : Int32) &&& 31).toUInt32).toInt32) &&& (3 : Int32))), .val (.int (p4 &&& (3 : Int32))), .val (.int v111), .val (.ref v112), .val (.ref y118), .val (.ref b119), .val (.int (0 : Int32)), .val (.int ((((p3.toUInt32 >>> ((4 : Int32) &&& 31).toUInt32).toInt32) &&& (3 : Int32)) - (((p3.toUInt32 >>> ((2 : Int32) &&& 31).toUInt32).toInt32) &&& (3 : Int32))))] [(.int (1 : Int32))]))
                  refine ownRetZ X278 hx hlk hret (hb hby at_371) (by decide) (by decide) (1 : Int32) (by decide) ?_
                  show Q0 Z p1 p2 p3 p4 a_ATTRIBUTE a_TEXT a_COMMENT a_PROCESSING_INSTRUCTION a_NAMESPACE a_ELEMENT a_DOCUMENT h0 n0 _ T278.heap _
                  rw [e278]
                  exact ⟨rfl, N278⟩
              · show OwnEnd p e below s _ _ _ (T227.setTop (mkF m 268 #[.val (.int p1), .val (.int p2), .val (.int p3), .val (.int p4), .val (.int (p1 &&& (3 : Int32))), .val (.int v101), .val (.ref v102), .val (.ref y108), .val (.int v109), .val (.int v110), .val (.int (((p3.toUInt32 >>> ((2 : Int32) &&& 31).toUInt32).toInt32) &&& (3 : Int32))), .val (.int (((p3.toUInt32 >>> ((4 : Int32) &&& 31).toUInt32).toInt32) &&& (3 : Int32))), .val (.int (p4 &&& (3 : Int32))), .val (.int v111), .val (.ref v112), .val (.ref y118), .val (.ref b119), .unset, .unset] []))
                refine OwnEnd.go (fun _ k => XS.aload X227.here hx rfl (hb hby at_268) rfl rfl k) ?_
                show OwnEnd p e below s _ _ _ (T227.setTop (mkF m 270 #[.val (.int p1), .val (.int p2), .val (.int p3), .val (.int p4), .val (.int (p1 &&& (3 : Int32))), .val (.int v101), .val (.ref v102), .val (.ref y108), .val (.int v109), .val (.int v110), .val (.int (((p3.toUInt32 >>> ((2 : Int32) &&& 31).toUInt32).toInt32) &&& (3 : Int32))), .val (.int (((p3.toUInt32 >>> ((4 : Int32) &&& 31).toUInt32).toInt32) &&& (3 : Int32))), .val (.int (p4 &&& (3 : Int32))), .val (.int v111), .val (.ref v112), .val (.ref y118), .val (.ref b119), .unset, .unset] [(.ref b119)]))
                refine OwnEnd.go (fun _ k => XS.aload X227.here hx rfl (hb hby at_270) rfl rfl k) ?_
                show OwnEnd p e below s _ _ _ (T227.setTop (mkF m 272 #[.val (.int p1), .val (.int p2), .val (.int p3), .val (.int p4), .val (.int (p1 &&& (3 : Int32))), .val (.int v101), .val (.ref v102), .val (.ref y108), .val (.int v109), .val (.int v110), .val (.int (((p3.toUInt32 >>> ((2 : Int32) &&& 31).toUInt32).toInt32) &&& (3 : Int32))), .val (.int (((p3.toUInt32 >>> ((4 : Int32) &&& 31).toUInt32).toInt32) &&& (3 : Int32))), .val (.int (p4 &&& (3 : Int32))), .val (.int v111), .val (.ref v112), .val (.ref y118), .val (.ref b119), .unset, .unset] [(.ref y118), (.ref b119)]))
                obtain ⟨_, T279, L279, X279, hQ279, st279⟩ := ownCallV X227 hx hZ hown ww33 ww34 ww36 ww35 ww14 ww37 (by decide) (rm5d1other l Z a0 hw [] b119 y118 y134 y135 (rc2 + (((p3.toUInt32 >>> ((4 : Int32) &&& 31).toUInt32).toInt32) &&& (3 : Int32))) ((0 : Int32) + (p1 &&& (3 : Int32))) (0 : Int32) (tt2 + (((p3.toUInt32 >>> ((2 : Int32) &&& 31).toUInt32).toInt32) &&& (3 : Int32))) (0 : Int32) (0 : Int32) (0 : Int32) (0 : Int32) a_ATTRIBUTE a_ELEMENT a_DOCUMENT T227.heap n0 Y227 O227 S_ATTRIBUTE S_ELEMENT S_DOCUMENT hl270 P116 P117 P228) (rfl : T227.heap = T227.heap) F229 0 (by decide) (by decide) (by decide) (by decide) (g := (mkF m 272 #[.val (.int p1), .val (.int p2), .val (.int p3), .val (.int p4), .val (.int (p1 &&& (3 : Int32))), .val (.int v101), .val (.ref v102), .val (.ref y108), .val (.int v109), .val (.int v110), .val (.int (((p3.toUInt32 >>> ((2 : Int32) &&& 31).toUInt32).toInt32) &&& (3 : Int32))), .val (.int (((p3.toUInt32 >>> ((4 : Int32) &&& 31).toUInt32).toInt32) &&& (3 : Int32))), .val (.int (p4 &&& (3 : Int32))), .val (.int v111), .val (.ref v112), .val (.ref y118), .val (.ref b119), .unset, .unset] [(.ref y118), (.ref b119)])) rfl (by rw [hml]; rfl) (argsL := [(.ref y118)]) (rest := []) (lenOf pd0_3 rfl) rfl rfl (by show 2 * 0 + _ ≤ _; exact Nat.le_of_eq rfl) (hb hby at_272)
                obtain ⟨rfl, N279q, K279q, P280⟩ := hQ279
                have N279 := Fr.app N227 N279q
                have F281 := F229.keep K279q
                have K279 := K227.trans K279q (allS (Or.inr v119) (allS (Or.inr (Nat.le_trans K119.1 P131)) (allS (Or.inr (Nat.le_trans K119.1 P132)) all0)))
                have Y279 := Nat.le_trans Y227 K279q.1
                have O279 := O227.keep K279q (allS u119 (allS P129 (allS P130 all0)))
                refine OwnEnd.go (fun _ k => st279 _ k) ?_
                show OwnEnd p e below s _ _ _ (T279.setTop (mkF m 275 #[.val (.int p1), .val (.int p2), .val (.int p3), .val (.int p4), .val (.int (p1 &&& (3 : Int32))), .val (.int v101), .val (.ref v102), .val (.ref y108), .val (.int v109), .val (.int v110), .val (.int (((p3.toUInt32 >>> ((2 : Int32) &&& 31).toUInt32).toInt32) &&& (3 : Int32))), .val (.int (((p3.toUInt32 >>> ((4 : Int32) &&& 31).toUInt32).toInt32) &&& (3 : Int32))), .val (.int (p4 &&& (3 : Int32))), .val (.int v111), .val (.ref v112), .val (.ref y118), .val (.ref b119), .unset, .unset] [(.int (rc2 + (((p3.toUInt32 >>> ((4 : Int32) &&& 31).toUInt32).toInt32) &&& (3 : Int32))))]))
                refine OwnEnd.go (fun _ k => XS.pop X279.here hx rfl (hb hby at_275) rfl rfl k) ?_
                show OwnEnd p e below s _ _ _ (T279.setTop (mkF m 276 #[.val (.int p1), .val (.int p2), .val (.int p3), .val (.int p4), .val (.int (p1 &&& (3 : Int32))), .val (.int v101), .val (.ref v102), .val (.ref y108), .val (.int v109), .val (.int v110), .val (.int (((p3.toUInt32 >>> ((2 : Int32) &&& 31).toUInt32).toInt32) &&& (3 : Int32))), .val (.int (((p3.toUInt32 >>> ((4 : Int32) &&& 31).toUInt32).toInt32) &&& (3 : Int32))), .val (.int (p4 &&& (3 : Int32))), .val (.int v111), .val (.ref v112), .val (.ref y118), .val (.ref b119), .unset, .unset] []))
                refine OwnEnd.go (fun _ k => XS.iload X279.here hx rfl (hb hby at_276) rfl  k) ?_
                show OwnEnd p e below s _ _ _ (T279.setTop (mkF m 278 #[.val (.int p1), .val (.int p2), .val (.int p3), .val (.int p4), .val (.int (p1 &&& (3 : Int32))), .val (.int v101), .val (.ref v102), .val (.ref y108), .val (.int v109), .val (.int v110), .val (.int (((p3.toUInt32 >>> ((2 : Int32) &&& 31).toUInt32).toInt32) &&& (3 : Int32))), .val (.int (((p3.toUInt32 >>> ((4 : Int32) &&& 31).toUInt32).toInt32) &&& (3 : Int32))), .val (.int (p4 &&& (3 : Int32))), .val (.int v111), .val (.ref v112), .val (.ref y118), .val (.ref b119), .unset, .unset] [(.int (p4 &&& (3 : Int32)))]))
                refine OwnEnd.go (fun _ k => XS.iconst X279.here hx rfl (hb hby at_278) k) ?_
                show OwnEnd p e below s _ _ _ (T279.setTop (mkF m 279 #[.val (.int p1), .val (.int p2), .val (.int p3), .val (.int p4), .val (.int (p1 &&& (3 : Int32))), .val (.int v101), .val (.ref v102), .val (.ref y108), .val (.int v109), .val (.int v110), .val (.int (((p3.toUInt32 >>> ((2 : Int32) &&& 31).toUInt32).toInt32) &&& (3 : Int32))), .val (.int (((p3.toUInt32 >>> ((4 : Int32) &&& 31).toUInt32).toInt32) &&& (3 : Int32))), .val (.int (p4 &&& (3 : Int32))), .val (.int v111), .val (.ref v112), .val (.ref y118), .val (.ref b119), .unset, .unset] [(.int (1 : Int32)), (.int (p4 &&& (3 : Int32)))]))
                refine OwnEnd.go (fun _ k => XS.icmpYes X279.here hx rfl (pc0 := 279) (pc' := 288) rfl (hb hby at_279) rfl (feq (by rw [hc269]; decide : ¬ (p4 &&& (3 : Int32)) = (1 : Int32))).2 (by decide) (by decide) k) ?_
                show OwnEnd p e below s _ _ _ (T279.setTop (mkF m 288 #[.val (.int p1), .val (.int p2), .val (.int p3), .val (.int p4), .val (.int (p1 &&& (3 : Int32))), .val (.int v101), .val (.ref v102), .val (.ref y108), .val (.int v109), .val (.int v110), .val (.int (((p3.toUInt32 >>> ((2 : Int32) &&& 31).toUInt32).toInt32) &&& (3 : Int32))), .val (.int (((p3.toUInt32 >>> ((4 : Int32) &&& 31).toUInt32).toInt32) &&& (3 : Int32))), .val (.int (p4 &&& (3 : Int32))), .val (.int v111), .val (.ref v112), .val (.ref y118), .val (.ref b119), .unset, .unset] []))
                refine OwnEnd.go (fun _ k => XS.iload X279.here hx rfl (hb hby at_288) rfl  k) ?_
                show OwnEnd p e below s _ _ _ (T279.setTop (mkF m 290 #[.val (.int p1), .val (.int p2), .val (.int p3), .val (.int p4), .val (.int (p1 &&& (3 : Int32))), .val (.int v101), .val (.ref v102), .val (.ref y108), .val (.int v109), .val (.int v110), .val (.int (((p3.toUInt32 >>> ((2 : Int32) &&& 31).toUInt32).toInt32) &&& (3 : Int32))), .val (.int (((p3.toUInt32 >>> ((4 : Int32) &&& 31).toUInt32).toInt32) &&& (3 : Int32))), .val (.int (p4 &&& (3 : Int32))), .val (.int v111), .val (.ref v112), .val (.ref y118), .val (.ref b119), .unset, .unset] [(.int v101)]))
                refine OwnEnd.go (fun _ k => XS.ifYes X279.here hx rfl (pc0 := 290) (pc' := 299) rfl (hb hby at_290) rfl ((if0 _ _).trans (feq hc149).2) (by decide) (by decide) k) ?_
                show OwnEnd p e below s _ _ _ (T279.setTop (mkF m 299 #[.val (.int p1), .val (.int p2), .val (.int p3), .val (.int p4), .val (.int (p1 &&& (3 : Int32))), .val (.int v101), .val (.ref v102), .val (.ref y108), .val (.int v109), .val (.int v110), .val (.int (((p3.toUInt32 >>> ((2 : Int32) &&& 31).toUInt32).toInt32) &&& (3 : Int32))), .val (.int (((p3.toUInt32 >>> ((4 : Int32) &&& 31).toUInt32).toInt32) &&& (3 : Int32))), .val (.int (p4 &&& (3 : Int32))), .val (.int v111), .val (.ref v112), .val (.ref y118), .val (.ref b119), .unset, .unset] []))
                refine OwnEnd.go (fun _ k => XS.iload X279.here hx rfl (hb hby at_299) rfl  k) ?_
                show OwnEnd p e below s _ _ _ (T279.setTop (mkF m 301 #[.val (.int p1), .val (.int p2), .val (.int p3), .val (.int p4), .val (.int (p1 &&& (3 : Int32))), .val (.int v101), .val (.ref v102), .val (.ref y108), .val (.int v109), .val (.int v110), .val (.int (((p3.toUInt32 >>> ((2 : Int32) &&& 31).toUInt32).toInt32) &&& (3 : Int32))), .val (.int (((p3.toUInt32 >>> ((4 : Int32) &&& 31).toUInt32).toInt32) &&& (3 : Int32))), .val (.int (p4 &&& (3 : Int32))), .val (.int v111), .val (.ref v112), .val (.ref y118), .val (.ref b119), .unset, .unset] [(.int (((p3.toUInt32 >>> ((4 : Int32) &&& 31).toUInt32).toInt32) &&& (3 : Int32)))]))
                refine OwnEnd.go (fun _ k => XS.iload X279.here hx rfl (hb hby at_301) rfl  k) ?_
                show OwnEnd p e below s _ _ _ (T279.setTop (mkF m 303 #[.val (.int p1), .val (.int p2), .val (.int p3), .val (.int p4), .val (.int (p1 &&& (3 : Int32))), .val (.int v101), .val (.ref v102), .val (.ref y108), .val (.int v109), .val (.int v110), .val (.int (((p3.toUInt32 >>> ((2 : Int32) &&& 31).toUInt32).toInt32) &&& (3 : Int32))), .val (.int (((p3.toUInt32 >>> ((4 : Int32) &&& 31).toUInt32).toInt32) &&& (3 : Int32))), .val (.int (p4 &&& (3 : Int32))), .val (.int v111), .val (.ref v112), .val (.ref y118), .val (.ref b119), .unset, .unset] [(.int (((p3.toUInt32 >>> ((2 : Int32) &&& 31).toUInt32).toInt32) &&& (3 : Int32))), (.int (((p3.toUInt32 >>> ((4 : Int32) &&& 31).toUInt32).toInt32) &&& (3 : Int32)))]))
                refine OwnEnd.go (fun _ k => XS.isub X279.here hx rfl (hb hby at_303) rfl k) ?_
                show OwnEnd p e below s _ _ _ (T279.setTop (mkF m 304 #[.val (.int p1), .val (.int p2), .val (.int p3), .val (.int p4), .val (.int (p1 &&& (3 : Int32))), .val (.int v101), .val (.ref v102), .val (.ref y108), .val (.int v109), .val (.int v110), .val (.int (((p3.toUInt32 >>> ((2 : Int32) &&& 31).toUInt32).toInt32) &&& (3 : Int32))), .val (.int (((p3.toUInt32 >>> ((4 : Int32) &&& 31).toUInt32).toInt32) &&& (3 : Int32))), .val (.int (p4 &&& (3 : Int32))), .val (.int v111), .val (.ref v112), .val (.ref y118), .val (.ref b119), .unset, .unset] [(.int ((((p3.toUInt32 >>> ((4 : Int32) &&& 31).toUInt32).toInt32) &&& (3 : Int32)) - (((p3.toUInt32 >>> ((2 : Int32) &&& 31).toUInt32).toInt32) &&& (3 : Int32))))]))
                refine OwnEnd.go (fun _ k => XS.istore X279.here hx rfl (hb hby at_304) rfl  (l' := #[.val (.int p1), .val (.int p2), .val (.int p3), .val (.int p4), .val (.int (p1 &&& (3 : Int32))), .val (.int v101), .val (.ref v102), .val (.ref y108), .val (.int v109), .val (.int v110), .val (.int (((p3.toUInt32 >>> ((2 : Int32) &&& 31).toUInt32).toInt32) &&& (3 : Int32))), .val (.int (((p3.toUInt32 >>> ((4 : Int32) &&& 31).toUInt32).toInt32) &&& (3 : Int32))), .val (.int (p4 &&& (3 : Int32))), .val (.int v111), .val (.ref v112), .val (.ref y118), .val (.ref b119), .unset, .val (.int ((((p3.toUInt32 >>> ((4 : Int32) &&& 31).toUInt32).toInt32) &&& (3 : Int32)) - (((p3.toUInt32 >>> ((2 : Int32) &&& 31).toUInt32).toInt32) &&& (3 : Int32))))]) rfl k) ?_
                show OwnEnd p e below s _ _ _ (T279.setTop (mkF m 306 #[.val (.int p1), .val (.int p2), .val (.int p3), .val (.int p4), .val (.int (p1 &&& (3 : Int32))), .val (.int v101), .val (.ref v102), .val (.ref y108), .val (.int v109), .val (.int v110), .val (.int (((p3.toUInt32 >>> ((2 : Int32) &&& 31).toUInt32).toInt32) &&& (3 : Int32))), .val (.int (((p3.toUInt32 >>> ((4 : Int32) &&& 31).toUInt32).toInt32) &&& (3 : Int32))), .val (.int (p4 &&& (3 : Int32))), .val (.int v111), .val (.ref v112), .val (.ref y118), .val (.ref b119), .unset, .val (.int ((((p3.toUInt32 >>> ((4 : Int32) &&& 31).toUInt32).toInt32) &&& (3 : Int32)) - (((p3.toUInt32 >>> ((2 : Int32) &&& 31).toUInt32).toInt32) &&& (3 : Int32))))] []))
                refine OwnEnd.go (fun _ k => XS.iload X279.here hx rfl (hb hby at_306) rfl  k) ?_
                show OwnEnd p e below s _ _ _ (T279.setTop (mkF m 308 #[.val (.int p1), .val (.int p2), .val (.int p3), .val (.int p4), .val (.int (p1 &&& (3 : Int32))), .val (.int v101), .val (.ref v102), .val (.ref y108), .val (.int v109), .val (.int v110), .val (.int (((p3.toUInt32 >>> ((2 : Int32) &&& 31).toUInt32).toInt32) &&& (3 : Int32))), .val (.int (((p3.toUInt32 >>> ((4 : Int32) &&& 31).toUInt32).toInt32) &&& (3 : Int32))), .val (.int (p4 &&& (3 : Int32))), .val (.int v111), .val (.ref v112), .val (.ref y118), .val (.ref b119), .unset, .val (.int ((((p3.toUInt32 >>> ((4 : Int32) &&& 31).toUInt32).toInt32) &&& (3 : Int32)) - (((p3.toUInt32 >>> ((2 : Int32) &&& 31).toUInt32).toInt32) &&& (3 : Int32))))] [(.int (p4 &&& (3 : Int32)))]))
                refine OwnEnd.go (fun _ k => XS.iconst X279.here hx rfl (hb hby at_308) k) ?_
                show OwnEnd p e below s _ _ _ (T279.setTop (mkF m 309 #[.val (.int p1), .val (.int p2), .val (.int p3), .val (.int p4), .val (.int (p1 &&& (3 : Int32))), .val (.int v101), .val (.ref v102), .val (.ref y108), .val (.int v109), .val (.int v110), .val (.int (((p3.toUInt32 >>> ((2 : Int32) &&& 31).toUInt32).toInt32) &&& (3 : Int32))), .val (.int (((p3.toUInt32 >>> ((4 : Int32) &&& 31).toUInt32).toInt32) &&& (3 : Int32))), .val (.int (p4 &&& (3 : Int32))), .val (.int v111), .val (.ref v112), .val (.ref y118), .val (.ref b119), .unset, .val (.int ((((p3.toUInt32 >>> ((4 : Int32) &&& 31).toUInt32).toInt32) &&& (3 : Int32)) - (((p3.toUInt32 >>> ((2 : Int32) &&& 31).toUInt32).toInt32) &&& (3 : Int32))))] [(.int (2 : Int32)), (.int (p4 &&& (3 : Int32)))]))
                refine OwnEnd.go (fun _ k => XS.icmpYes X279.here hx rfl (pc0 := 309) (pc' := 327) rfl (hb hby at_309) rfl (feq (by rw [hc269]; decide : ¬ (p4 &&& (3 : Int32)) = (2 : Int32))).2 (by decide) (by decide) k) ?_
                show OwnEnd p e below s _ _ _ (T279.setTop (mkF m 327 #[.val (.int p1), .val (.int p2), .val (.int p3), .val (.int p4), .val (.int (p1 &&& (3 : Int32))), .val (.int v101), .val (.ref v102), .val (.ref y108), .val (.int v109), .val (.int v110), .val (.int (((p3.toUInt32 >>> ((2 : Int32) &&& 31).toUInt32).toInt32) &&& (3 : Int32))), .val (.int (((p3.toUInt32 >>> ((4 : Int32) &&& 31).toUInt32).toInt32) &&& (3 : Int32))), .val (.int (p4 &&& (3 : Int32))), .val (.int v111), .val (.ref v112), .val (.ref y118), .val (.ref b119), .unset, .val (.int ((((p3.toUInt32 >>> ((4 : Int32) &&& 31).toUInt32).toInt32) &&& (3 : Int32)) - (((p3.toUInt32 >>> ((2 : Int32) &&& 31).toUInt32).toInt32) &&& (3 : Int32))))] []))
                refine OwnEnd.go (fun _ k => XS.iload X279.here hx rfl (hb hby at_327) rfl  k) ?_
                show OwnEnd p e below s _ _ _ (T279.setTop (mkF m 329 #[.val (.int p1), .val (.int p2), .val (.int p3), .val (.int p4), .val (.int (p1 &&& (3 : Int32))), .val (.int v101), .val (.ref v102), .val (.ref y108), .val (.int v109), .val (.int v110), .val (.int (((p3.toUInt32 >>> ((2 : Int32) &&& 31).toUInt32).toInt32) &&& (3 : Int32))), .val (.int (((p3.toUInt32 >>> ((4 : Int32) &&& 31).toUInt32).toInt32) &&& (3 : Int32))), .val (.int (p4 &&& (3 : Int32))), .val (.int v111), .val (.ref v112), .val (.ref y118), .val (.ref b119), .unset, .val (.int ((((p3.toUInt32 >>> ((4 : Int32) &&& 31).toUInt32).toInt32) &&& (3 : Int32)) - (((p3.toUInt32 >>> ((2 : Int32) &&& 31).toUInt32).toInt32) &&& (3 : Int32))))] [(.int (p4 &&& (3 : Int32)))]))
                refine OwnEnd.go (fun _ k => XS.iconst X279.here hx rfl (hb hby at_329) k) ?_
                show OwnEnd p e below s _ _ _ (T279.setTop (mkF m 330 #[.val (.int p1), .val (.int p2), .val (.int p3), .val (.int p4), .val (.int (p1 &&& (3 : Int32))), .val (.int v101), .val (.ref v102), .val (.ref y108), .val (.int v109), .val (.int v110), .val (.int (((p3.toUInt32 >>> ((2 : Int32) &&& 31).toUInt32).toInt32) &&& (3 : Int32))), .val (.int (((p3.toUInt32 >>> ((4 : Int32) &&& 31).toUInt32).toInt32) &&& (3 : Int32))), .val (.int (p4 &&& (3 : Int32))), .val (.int v111), .val (.ref v112), .val (.ref y118), .val (.ref b119), .unset, .val (.int ((((p3.toUInt32 >>> ((4 : Int32) &&& 31).toUInt32).toInt32) &&& (3 : Int32)) - (((p3.toUInt32 >>> ((2 : Int32) &&& 31).toUInt32).toInt32) &&& (3 : Int32))))] [(.int (3 : Int32)), (.int (p4 &&& (3 : Int32)))]))
                refine OwnEnd.go (fun _ k => XS.icmpNo X279.here hx rfl (hb hby at_330) rfl (teq hc269).2 k) ?_
                show OwnEnd p e below s _ _ _ (T279.setTop (mkF m 333 #[.val (.int p1), .val (.int p2), .val (.int p3), .val (.int p4), .val (.int (p1 &&& (3 : Int32))), .val (.int v101), .val (.ref v102), .val (.ref y108), .val (.int v109), .val (.int v110), .val (.int (((p3.toUInt32 >>> ((2 : Int32) &&& 31).toUInt32).toInt32) &&& (3 : Int32))), .val (.int (((p3.toUInt32 >>> ((4 : Int32) &&& 31).toUInt32).toInt32) &&& (3 : Int32))), .val (.int (p4 &&& (3 : Int32))), .val (.int v111), .val (.ref v112), .val (.ref y118), .val (.ref b119), .unset, .val (.int ((((p3.toUInt32 >>> ((4 : Int32) &&& 31).toUInt32).toInt32) &&& (3 : Int32)) - (((p3.toUInt32 >>> ((2 : Int32) &&& 31).toUInt32).toInt32) &&& (3 : Int32))))] []))
                refine OwnEnd.go (fun _ k => XS.aload X279.here hx rfl (hb hby at_333) rfl rfl k) ?_
                show OwnEnd p e below s _ _ _ (T279.setTop (mkF m 335 #[.val (.int p1), .val (.int p2), .val (.int p3), .val (.int p4), .val (.int (p1 &&& (3 : Int32))), .val (.int v101), .val (.ref v102), .val (.ref y108), .val (.int v109), .val (.int v110), .val (.int (((p3.toUInt32 >>> ((2 : Int32) &&& 31).toUInt32).toInt32) &&& (3 : Int32))), .val (.int (((p3.toUInt32 >>> ((4 : Int32) &&& 31).toUInt32).toInt32) &&& (3 : Int32))), .val (.int (p4 &&& (3 : Int32))), .val (.int v111), .val (.ref v112), .val (.ref y118), .val (.ref b119), .unset, .val (.int ((((p3.toUInt32 >>> ((4 : Int32) &&& 31).toUInt32).toInt32) &&& (3 : Int32)) - (((p3.toUInt32 >>> ((2 : Int32) &&& 31).toUInt32).toInt32) &&& (3 : Int32))))] [(.ref y118)]))
                obtain ⟨T283, X283, e283, st283⟩ := getS2 X279 hx hZ hown (host := "") (Or.inl ww8) Via.refl (rfl : T279.heap = T279.heap) (S_ATTRIBUTE.ext O279.2) (g := (mkF m 335 #[.val (.int p1), .val (.int p2), .val (.int p3), .val (.int p4), .val (.int (p1 &&& (3 : Int32))), .val (.int v101), .val (.ref v102), .val (.ref y108), .val (.int v109), .val (.int v110), .val (.int (((p3.toUInt32 >>> ((2 : Int32) &&& 31).toUInt32).toInt32) &&& (3 : Int32))), .val (.int (((p3.toUInt32 >>> ((4 : Int32) &&& 31).toUInt32).toInt32) &&& (3 : Int32))), .val (.int (p4 &&& (3 : Int32))), .val (.int v111), .val (.ref v112), .val (.ref y118), .val (.ref b119), .unset, .val (.int ((((p3.toUInt32 >>> ((4 : Int32) &&& 31).toUInt32).toInt32) &&& (3 : Int32)) - (((p3.toUInt32 >>> ((2 : Int32) &&& 31).toUInt32).toInt32) &&& (3 : Int32))))] [(.ref y118)])) rfl (hb hby at_335)
                refine OwnEnd.go (fun _ k => st283 _ k) ?_
                show OwnEnd p e below s _ _ _ (T283.setTop (mkF m 338 #[.val (.int p1), .val (.int p2), .val (.int p3), .val (.int p4), .val (.int (p1 &&& (3 : Int32))), .val (.int v101), .val (.ref v102), .val (.ref y108), .val (.int v109), .val (.int v110), .val (.int (((p3.toUInt32 >>> ((2 : Int32) &&& 31).toUInt32).toInt32) &&& (3 : Int32))), .val (.int (((p3.toUInt32 >>> ((4 : Int32) &&& 31).toUInt32).toInt32) &&& (3 : Int32))), .val (.int (p4 &&& (3 : Int32))), .val (.int v111), .val (.ref v112), .val (.ref y118), .val (.ref b119), .unset, .val (.int ((((p3.toUInt32 >>> ((4 : Int32) &&& 31).toUInt32).toInt32) &&& (3 : Int32)) - (((p3.toUInt32 >>> ((2 : Int32) &&& 31).toUInt32).toInt32) &&& (3 : Int32))))] [(.ref a_ATTRIBUTE), (.ref y118)]))
                refine OwnEnd.go (fun _ k => Jvm.RoadKit.acmp (g := (mkF m 338 #[.val (.int p1), .val (.int p2), .val (.int p3), .val (.int p4), .val (.int (p1 &&& (3 : Int32))), .val (.int v101), .val (.ref v102), .val (.ref y108), .val (.int v109), .val (.int v110), .val (.int (((p3.toUInt32 >>> ((2 : Int32) &&& 31).toUInt32).toInt32) &&& (3 : Int32))), .val (.int (((p3.toUInt32 >>> ((4 : Int32) &&& 31).toUInt32).toInt32) &&& (3 : Int32))), .val (.int (p4 &&& (3 : Int32))), .val (.int v111), .val (.ref v112), .val (.ref y118), .val (.ref b119), .unset, .val (.int ((((p3.toUInt32 >>> ((4 : Int32) &&& 31).toUInt32).toInt32) &&& (3 : Int32)) - (((p3.toUInt32 >>> ((2 : Int32) &&& 31).toUInt32).toInt32) &&& (3 : Int32))))] [(.ref a_ATTRIBUTE), (.ref y118)])) X283 hx rfl rfl rfl (pc0 := 338) (pc' := 341) (same := false) rfl (hb hby at_338) rfl (decide_eq_false fun q => hl270 (Value.ref.inj q)) (by decide) (by decide) k) ?_
                show OwnEnd p e below s _ _ _ (T283.setTop (mkF m 341 #[.val (.int p1), .val (.int p2), .val (.int p3), .val (.int p4), .val (.int (p1 &&& (3 : Int32))), .val (.int v101), .val (.ref v102), .val (.ref y108), .val (.int v109), .val (.int v110), .val (.int (((p3.toUInt32 >>> ((2 : Int32) &&& 31).toUInt32).toInt32) &&& (3 : Int32))), .val (.int (((p3.toUInt32 >>> ((4 : Int32) &&& 31).toUInt32).toInt32) &&& (3 : Int32))), .val (.int (p4 &&& (3 : Int32))), .val (.int v111), .val (.ref v112), .val (.ref y118), .val (.ref b119), .unset, .val (.int ((((p3.toUInt32 >>> ((4 : Int32) &&& 31).toUInt32).toInt32) &&& (3 : Int32)) - (((p3.toUInt32 >>> ((2 : Int32) &&& 31).toUInt32).toInt32) &&& (3 : Int32))))] []))
                refine OwnEnd.go (fun _ k => XS.iinc X283.here hx rfl (hb hby at_341) rfl (l' := #[.val (.int p1), .val (.int p2), .val (.int p3), .val (.int p4), .val (.int (p1 &&& (3 : Int32))), .val (.int v101), .val (.ref v102), .val (.ref y108), .val (.int v109), .val (.int v110), .val (.int (((p3.toUInt32 >>> ((2 : Int32) &&& 31).toUInt32).toInt32) &&& (3 : Int32))), .val (.int (((p3.toUInt32 >>> ((4 : Int32) &&& 31).toUInt32).toInt32) &&& (3 : Int32))), .val (.int (p4 &&& (3 : Int32))), .val (.int v111), .val (.ref v112), .val (.ref y118), .val (.ref b119), .unset, .val (.int (((((p3.toUInt32 >>> ((4 : Int32) &&& 31).toUInt32).toInt32) &&& (3 : Int32)) - (((p3.toUInt32 >>> ((2 : Int32) &&& 31).toUInt32).toInt32) &&& (3 : Int32))) + (1 : Int32)))]) rfl k) ?_
                show OwnEnd p e below s _ _ _ (T283.setTop (mkF m 344 #[.val (.int p1), .val (.int p2), .val (.int p3), .val (.int p4), .val (.int (p1 &&& (3 : Int32))), .val (.int v101), .val (.ref v102), .val (.ref y108), .val (.int v109), .val (.int v110), .val (.int (((p3.toUInt32 >>> ((2 : Int32) &&& 31).toUInt32).toInt32) &&& (3 : Int32))), .val (.int (((p3.toUInt32 >>> ((4 : Int32) &&& 31).toUInt32).toInt32) &&& (3 : Int32))), .val (.int (p4 &&& (3 : Int32))), .val (.int v111), .val (.ref v112), .val (.ref y118), .val (.ref b119), .unset, .val (.int (((((p3.toUInt32 >>> ((4 : Int32) &&& 31).toUInt32).toInt32) &&& (3 : Int32)) - (((p3.toUInt32 >>> ((2 : Int32) &&& 31).toUInt32).toInt32) &&& (3 : Int32))) + (1 : Int32)))] []))
                refine OwnEnd.go (fun _ k => XS.iload X283.here hx rfl (hb hby at_344) rfl  k) ?_
                show OwnEnd p e below s _ _ _ (T283.setTop (mkF m 346 #[.val (.int p1), .val (.int p2), .val (.int p3), .val (.int p4), .val (.int (p1 &&& (3 : Int32))), .val (.int v101), .val (.ref v102), .val (.ref y108), .val (.int v109), .val (.int v110), .val (.int (((p3.toUInt32 >>> ((2 : Int32) &&& 31).toUInt32).toInt32) &&& (3 : Int32))), .val (.int (((p3.toUInt32 >>> ((4 : Int32) &&& 31).toUInt32).toInt32) &&& (3 : Int32))), .val (.int (p4 &&& (3 : Int32))), .val (.int v111), .val (.ref v112), .val (.ref y118), .val (.ref b119), .unset, .val (.int (((((p3.toUInt32 >>> ((4 : Int32) &&& 31).toUInt32).toInt32) &&& (3 : Int32)) - (((p3.toUInt32 >>> ((2 : Int32) &&& 31).toUInt32).toInt32) &&& (3 : Int32))) + (1 : Int32)))] [(.int (((((p3.toUInt32 >>> ((4 : Int32) &&& 31).toUInt32).toInt32) &&& (3 : Int32)) - (((p3.toUInt32 >>> ((2 : Int32) &&& 31).toUInt32).toInt32) &&& (3 : Int32))) + (1 : Int32)))]))
                by_cases hc284 : (((((p3.toUInt32 >>> ((4 : Int32) &&& 31).toUInt32).toInt32) &&& (3 : Int32)) - (((p3.toUInt32 >>> ((2 : Int32) &&& 31).toUInt32).toInt32) &&& (3 : Int32))) + (1 : Int32)) = (0 : Int32)
                · refine OwnEnd.go (fun _ k => XS.ifNo X283.here hx rfl (hb hby at_346) rfl ((if0 _ _).trans (teq hc284).2) k) ?_
                  show OwnEnd p e below s _ _ _ (T283.setTop (mkF m 349 #[.val (.int p1), .val (.int p2), .val (.int p3), .val (.int p4), .val (.int (p1 &&& (3 : Int32))), .val (.int v101), .val (.ref v102), .val (.ref y108), .val (.int v109), .val (.int v110), .val (.int (((p3.toUInt32 >>> ((2 : Int32) &&& 31).toUInt32).toInt32) &&& (3 : Int32))), .val (.int (((p3.toUInt32 >>> ((4 : Int32) &&& 31).toUInt32).toInt32) &&& (3 : Int32))), .val (.int (p4 &&& (3 : Int32))), .val (.int v111), .val (.ref v112), .val (.ref y118), .val (.ref b119), .unset, .val (.int (((((p3.toUInt32 >>> ((4 : Int32) &&& 31).toUInt32).toInt32) &&& (3 : Int32)) - (((p3.toUInt32 >>> ((2 : Int32) &&& 31).toUInt32).toInt32) &&& (3 : Int32))) + (1 : Int32)))] []))
                  refine OwnEnd.go (fun _ k => XS.iconst X283.here hx rfl (hb hby at_349) k) ?_
                  show OwnEnd p e below s _ _ _ (T283.setTop (mkF m 350 #[.val (.int p1), .val (.int p2), .val (.int p3), .val (.int p4), .val (.int (p1 &&& (3 : Int32))), .val (.int v101), .val (.ref v102), .val (.ref y108), .val (.int v109), .val (.int v110), .val (.int (((p3.toUInt32 >>> ((2 : Int32) &&& 31).toUInt32).toInt32) &&& (3 : Int32))), .val (.int (((p3.toUInt32 >>> ((4 : Int32) &&& 31).toUInt32).toInt32) &&& (3 : Int32))), .val (.int (p4 &&& (3 : Int32))), .val (.int v111), .val (.ref v112), .val (.ref y118), .val (.ref b119), .unset, .val (.int (((((p3.toUInt32 >>> ((4 : Int32) &&& 31).toUInt32).toInt32) &&& (3 : Int32)) - (((p3.toUInt32 >>> ((2 : Int32) &&& 31).toUInt32).toInt32) &&& (3 : Int32))) + (1 : Int32)))] [(.int (1 : Int32))]))
                  refine OwnEnd.go (fun _ k => XS.goto X283.here hx rfl (pc0 := 350) (pc' := 354) rfl (hb hby at_350) (by decide) (by decide) k) ?_
                  show OwnEnd p e below s _ _ _ (T283.setTop (mkF m 354 #[.val (.int p1), .val (.int p2), .val (.int p3), .val (.int p4), .val (.int (p1 &&& (3 : Int32))), .val (.int v101), .val (.ref v102), .val (.ref y108), .val (.int v109), .val (.int v110), .val (.int (((p3.toUInt32 >>> ((2 : Int32) &&& 31).toUInt32).toInt32) &&& (3 : Int32))), .val (.int (((p3.toUInt32 >>> ((4 : Int32) &&& 31).toUInt32).toInt32) &&& (3 : Int32))), .val (.int (p4 &&& (3 : Int32))), .val (.int v111), .val (.ref v112), .val (.ref y118), .val (.ref b119), .unset, .val (.int (((((p3.toUInt32 >>> ((4 : Int32) &&& 31).toUInt32).toInt32) &&& (3 : Int32)) - (((p3.toUInt32 >>> ((2 : Int32) &&& 31).toUInt32).toInt32) &&& (3 : Int32))) + (1 : Int32)))] [(.int (1 : Int32))]))
                  refine OwnEnd.go (fun _ k => XS.istore X283.here hx rfl (hb hby at_354) rfl  (l' := #[.val (.int p1), .val (.int p2), .val (.int p3), .val (.int p4), .val (.int (p1 &&& (3 : Int32))), .val (.int v101), .val (.ref v102), .val (.ref y108), .val (.int v109), .val (.int v110), .val (.int (((p3.toUInt32 >>> ((2 : Int32) &&& 31).toUInt32).toInt32) &&& (3 : Int32))), .val (.int (((p3.toUInt32 >>> ((4 : Int32) &&& 31).toUInt32).toInt32) &&& (3 : Int32))), .val (.int (p4 &&& (3 : Int32))), .val (.int v111), .val (.ref v112), .val (.ref y118), .val (.ref b119), .val (.int (1 : Int32)), .val (.int (((((p3.toUInt32 >>> ((4 : Int32) &&& 31).toUInt32).toInt32) &&& (3 : Int32)) - (((p3.toUInt32 >>> ((2 : Int32) &&& 31).toUInt32).toInt32) &&& (3 : Int32))) + (1 : Int32)))]) rfl k) ?_
                  show OwnEnd p e below s _ _ _ (T283.setTop (mkF m 356 #[.val (.int p1), .val (.int p2), .val (.int p3), .val (.int p4), .val (.int (p1 &&& (3 : Int32))), .val (.int v101), .val (.ref v102), .val (.ref y108), .val (.int v109), .val (.int v110), .val (.int (((p3.toUInt32 >>> ((2 : Int32) &&& 31).toUInt32).toInt32) &&& (3 : Int32))), .val (.int (((p3.toUInt32 >>> ((4 : Int32) &&& 31).toUInt32).toInt32) &&& (3 : Int32))), .val (.int (p4 &&& (3 : Int32))), .val (.int v111), .val (.ref v112), .val (.ref y118), .val (.ref b119), .val (.int (1 : Int32)), .val (.int (((((p3.toUInt32 >>> ((4 : Int32) &&& 31).toUInt32).toInt32) &&& (3 : Int32)) - (((p3.toUInt32 >>> ((2 : Int32) &&& 31).toUInt32).toInt32) &&& (3 : Int32))) + (1 : Int32)))] []))
                  refine OwnEnd.go (fun _ k => XS.aload X283.here hx rfl (hb hby at_356) rfl rfl k) ?_
                  show OwnEnd p e below s _ _ _ (T283.setTop (mkF m 358 #[.val (.int p1), .val (.int p2), .val (.int p3), .val (.int p4), .val (.int (p1 &&& (3 : Int32))), .val (.int v101), .val (.ref v102), .val (.ref y108), .val (.int v109), .val (.int v110), .val (.int (((p3.toUInt32 >>> ((2 : Int32) &&& 31).toUInt32).toInt32) &&& (3 : Int32))), .val (.int (((p3.toUInt32 >>> ((4 : Int32) &&& 31).toUInt32).toInt32) &&& (3 : Int32))), .val (.int (p4 &&& (3 : Int32))), .val (.int v111), .val (.ref v112), .val (.ref y118), .val (.ref b119), .val (.int (1 : Int32)), .val (.int (((((p3.toUInt32 >>> ((4 : Int32) &&& 31).toUInt32).toInt32) &&& (3 : Int32)) - (((p3.toUInt32 >>> ((2 : Int32) &&& 31).toUInt32).toInt32) &&& (3 : Int32))) + (1 : Int32)))] [(.ref b119)]))
                  obtain ⟨_, T285, L285, X285, hQ285, st285⟩ := ownCallV X283 hx hZ hown ww55 ww56 ww58 ww57 ww14 ww59 (by decide) (rm8d1 l Z a0 hw [] b119 y134 y135 ((rc2 + (((p3.toUInt32 >>> ((4 : Int32) &&& 31).toUInt32).toInt32) &&& (3 : Int32))) + (1 : Int32)) ((0 : Int32) + (p1 &&& (3 : Int32))) (0 : Int32) (tt2 + (((p3.toUInt32 >>> ((2 : Int32) &&& 31).toUInt32).toInt32) &&& (3 : Int32))) (0 : Int32) (0 : Int32) (0 : Int32) (0 : Int32) T279.heap n0 Y279  P280) e283 F281 0 (by decide) (by decide) (by decide) (by decide) (g := (mkF m 358 #[.val (.int p1), .val (.int p2), .val (.int p3), .val (.int p4), .val (.int (p1 &&& (3 : Int32))), .val (.int v101), .val (.ref v102), .val (.ref y108), .val (.int v109), .val (.int v110), .val (.int (((p3.toUInt32 >>> ((2 : Int32) &&& 31).toUInt32).toInt32) &&& (3 : Int32))), .val (.int (((p3.toUInt32 >>> ((4 : Int32) &&& 31).toUInt32).toInt32) &&& (3 : Int32))), .val (.int (p4 &&& (3 : Int32))), .val (.int v111), .val (.ref v112), .val (.ref y118), .val (.ref b119), .val (.int (1 : Int32)), .val (.int (((((p3.toUInt32 >>> ((4 : Int32) &&& 31).toUInt32).toInt32) &&& (3 : Int32)) - (((p3.toUInt32 >>> ((2 : Int32) &&& 31).toUInt32).toInt32) &&& (3 : Int32))) + (1 : Int32)))] [(.ref b119)])) rfl (by rw [hml]; rfl) (argsL := []) (rest := []) (lenOf pd0_4 rfl) rfl rfl (by show 2 * 0 + _ ≤ _; exact Nat.le_of_eq rfl) (hb hby at_358)
                  obtain ⟨rfl, N285q, e285⟩ := hQ285
                  have N285 := Fr.app N279 N285q
                  refine OwnEnd.go (fun _ k => st285 _ k) ?_
                  show OwnEnd p e below s _ _ _ (T285.setTop (mkF m 361 #[.val (.int p1), .val (.int p2), .val (.int p3), .val (.int p4), .val (.int (p1 &&& (3 : Int32))), .val (.int v101), .val (.ref v102), .val (.ref y108), .val (.int v109), .val (.int v110), .val (.int (((p3.toUInt32 >>> ((2 : Int32) &&& 31).toUInt32).toInt32) &&& (3 : Int32))), .val (.int (((p3.toUInt32 >>> ((4 : Int32) &&& 31).toUInt32).toInt32) &&& (3 : Int32))), .val (.int (p4 &&& (3 : Int32))), .val (.int v111), .val (.ref v112), .val (.ref y118), .val (.ref b119), .val (.int (1 : Int32)), .val (.int (((((p3.toUInt32 >>> ((4 : Int32) &&& 31).toUInt32).toInt32) &&& (3 : Int32)) - (((p3.toUInt32 >>> ((2 : Int32) &&& 31).toUInt32).toInt32) &&& (3 : Int32))) + (1 : Int32)))] [(.int (own_isat ((rc2 + (((p3.toUInt32 >>> ((4 : Int32) &&& 31).toUInt32).toInt32) &&& (3 : Int32))) + (1 : Int32)) ((0 : Int32) + (p1 &&& (3 : Int32))) (tt2 + (((p3.toUInt32 >>> ((2 : Int32) &&& 31).toUInt32).toInt32) &&& (3 : Int32)))))]))
                  refine OwnEnd.go (fun _ k => XS.iload X285.here hx rfl (hb hby at_361) rfl  k) ?_
                  show OwnEnd p e below s _ _ _ (T285.setTop (mkF m 363 #[.val (.int p1), .val (.int p2), .val (.int p3), .val (.int p4), .val (.int (p1 &&& (3 : Int32))), .val (.int v101), .val (.ref v102), .val (.ref y108), .val (.int v109), .val (.int v110), .val (.int (((p3.toUInt32 >>> ((2 : Int32) &&& 31).toUInt32).toInt32) &&& (3 : Int32))), .val (.int (((p3.toUInt32 >>> ((4 : Int32) &&& 31).toUInt32).toInt32) &&& (3 : Int32))), .val (.int (p4 &&& (3 : Int32))), .val (.int v111), .val (.ref v112), .val (.ref y118), .val (.ref b119), .val (.int (1 : Int32)), .val (.int (((((p3.toUInt32 >>> ((4 : Int32) &&& 31).toUInt32).toInt32) &&& (3 : Int32)) - (((p3.toUInt32 >>> ((2 : Int32) &&& 31).toUInt32).toInt32) &&& (3 : Int32))) + (1 : Int32)))] [(.int (1 : Int32)), (.int (own_isat ((rc2 + (((p3.toUInt32 >>> ((4 : Int32) &&& 31).toUInt32).toInt32) &&& (3 : Int32))) + (1 : Int32)) ((0 : Int32) + (p1 &&& (3 : Int32))) (tt2 + (((p3.toUInt32 >>> ((2 : Int32) &&& 31).toUInt32).toInt32) &&& (3 : Int32)))))]))
                  refine OwnEnd.go (fun _ k => XS.icmpNo X285.here hx rfl (hb hby at_363) rfl (teq (own_isat_t ((own_f1 hy221).2 hc284))).2 k) ?_
                  show OwnEnd p e below s _ _ _ (T285.setTop (mkF m 366 #[.val (.int p1), .val (.int p2), .val (.int p3), .val (.int p4), .val (.int (p1 &&& (3 : Int32))), .val (.int v101), .val (.ref v102), .val (.ref y108), .val (.int v109), .val (.int v110), .val (.int (((p3.toUInt32 >>> ((2 : Int32) &&& 31).toUInt32).toInt32) &&& (3 : Int32))), .val (.int (((p3.toUInt32 >>> ((4 : Int32) &&& 31).toUInt32).toInt32) &&& (3 : Int32))), .val (.int (p4 &&& (3 : Int32))), .val (.int v111), .val (.ref v112), .val (.ref y118), .val (.ref b119), .val (.int (1 : Int32)), .val (.int (((((p3.toUInt32 >>> ((4 : Int32) &&& 31).toUInt32).toInt32) &&& (3 : Int32)) - (((p3.toUInt32 >>> ((2 : Int32) &&& 31).toUInt32).toInt32) &&& (3 : Int32))) + (1 : Int32)))] []))
                  refine OwnEnd.go (fun _ k => XS.iconst X285.here hx rfl (hb hby at_366) k) ?_
                  show OwnEnd p e below s _ _ _ (T285.setTop (mkF m 367 #[.val (.int p1), .val (.int p2), .val (.int p3), .val (.int p4), .val (.int (p1 &&& (3 : Int32))), .val (.int v101), .val (.ref v102), .val (.ref y108), .val (.int v109), .val (.int v110), .val (.int (((p3.toUInt32 >>> ((2 : Int32) &&& 31).toUInt32).toInt32) &&& (3 : Int32))), .val (.int (((p3.toUInt32 >>> ((4 : Int32) &&& 31).toUInt32).toInt32) &&& (3 : Int32))), .val (.int (p4 &&& (3 : Int32))), .val (.int v111), .val (.ref v112), .val (.ref y118), .val (.ref b119), .val (.int (1 : Int32)), .val (.int (((((p3.toUInt32 >>> ((4 : Int32) &&& 31).toUInt32).toInt32) &&& (3 : Int32)) - (((p3.toUInt32 >>> ((2 : Int32) &&& 31).toUInt32).toInt32) &&& (3 : Int32))) + (1 : Int32)))] [(.int (1 : Int32))]))
                  refine OwnEnd.go (fun _ k => XS.goto X285.here hx rfl (pc0 := 367) (pc' := 371) rfl (hb hby at_367) (by decide) (by decide) k) ?_
                  show OwnEnd p e below s _ _ _ (T285.setTop (mkF m 371 #[.val (.int p1), .val (.int p2), .val (.int p3), .val (.int p4), .val (.int (p1 &&& (3 : Int32))), .val (.int v101), .val (.ref v102), .val (.ref y108), .val (.int v109), .val (.int v110), .val (.int (((p3.toUInt32 >>> ((2 : Int32) &&& 31).toUInt32).toInt32) &&& (3 : Int32))), .val (.int (((p3.toUInt32 >>> ((4 : Int32) &&& 31).toUInt32).toInt32) &&& (3 : Int32))), .val (.int (p4 &&& (3 : Int32))), .val (.int v111), .val (.ref v112), .val (.ref y118), .val (.ref b119), .val (.int (1 : Int32)), .val (.int (((((p3.toUInt32 >>> ((4 : Int32) &&& 31).toUInt32).toInt32) &&& (3 : Int32)) - (((p3.toUInt32 >>> ((2 : Int32) &&& 31).toUInt32).toInt32) &&& (3 : Int32))) + (1 : Int32)))] [(.int (1 : Int32))]))
                  refine ownRetZ X285 hx hlk hret (hb hby at_371) (by decide) (by decide) (1 : Int32) (by decide) ?_
                  show Q0 Z p1 p2 p3 p4 a_ATTRIBUTE a_TEXT a_COMMENT a_PROCESSING_INSTRUCTION a_NAMESPACE a_ELEMENT a_DOCUMENT h0 n0 _ T285.heap _
                  rw [e285]
                  exact ⟨rfl, N285⟩
                · refine OwnEnd.go (fun _ k => XS.ifYes X283.here hx rfl (pc0 := 346) (pc' := 353) rfl (hb hby at_346) rfl ((if0 _ _).trans (feq hc284).2) (by decide) (by decide) k) ?_
                  show OwnEnd p e below s _ _ _ (T283.setTop (mkF m 353 #[.val (.int p1), .val (.int p2), .val (.int p3), .val (.int p4), .val (.int (p1 &&& (3 : Int32))), .val (.int v101), .val (.ref v102), .val (.ref y108), .val (.int v109), .val (.int v110), .val (.int (((p3.toUInt32 >>> ((2 : Int32) &&& 31).toUInt32).toInt32) &&& (3 : Int32))), .val (.int (((p3.toUInt32 >>> ((4 : Int32) &&& 31).toUInt32).toInt32) &&& (3 : Int32))), .val (.int (p4 &&& (3 : Int32))), .val (.int v111), .val (.ref v112), .val (.ref y118), .val (.ref b119), .unset, .val (.int (((((p3.toUInt32 >>> ((4 : Int32) &&& 31).toUInt32).toInt32) &&& (3 : Int32)) - (((p3.toUInt32 >>> ((2 : Int32) &&& 31).toUInt32).toInt32) &&& (3 : Int32))) + (1 : Int32)))] []))
                  refine OwnEnd.go (fun _ k => XS.iconst X283.here hx rfl (hb hby at_353) k) ?_
                  show OwnEnd p e below s _ _ _ (T283.setTop (mkF m 354 #[.val (.int p1), .val (.int p2), .val (.int p3), .val (.int p4), .val (.int (p1 &&& (3 : Int32))), .val (.int v101), .val (.ref v102), .val (.ref y108), .val (.int v109), .val (.int v110), .val (.int (((p3.toUInt32 >>> ((2 : Int32) &&& 31).toUInt32).toInt32) &&& (3 : Int32))), .val (.int (((p3.toUInt32 >>> ((4 : Int32) &&& 31).toUInt32).toInt32) &&& (3 : Int32))), .val (.int (p4 &&& (3 : Int32))), .val (.int v111), .val (.ref v112), .val (.ref y118), .val (.ref b119), .unset, .val (.int (((((p3.toUInt32 >>> ((4 : Int32) &&& 31).toUInt32).toInt32) &&& (3 : Int32)) - (((p3.toUInt32 >>> ((2 : Int32) &&& 31).toUInt32).toInt32) &&& (3 : Int32))) + (1 : Int32)))] [(.int (0 : Int32))]))
                  refine OwnEnd.go (fun _ k => XS.istore X283.here hx rfl (hb hby at_354) rfl  (l' := #[.val (.int p1), .val (.int p2), .val (.int p3), .val (.int p4), .val (.int (p1 &&& (3 : Int32))), .val (.int v101), .val (.ref v102), .val (.ref y108), .val (.int v109), .val (.int v110), .val (.int (((p3.toUInt32 >>> ((2 : Int32) &&& 31).toUInt32).toInt32) &&& (3 : Int32))), .val (.int (((p3.toUInt32 >>> ((4 : Int32) &&& 31).toUInt32).toInt32) &&& (3 : Int32))), .val (.int (p4 &&& (3 : Int32))), .val (.int v111), .val (.ref v112), .val (.ref y118), .val (.ref b119), .val (.int (0 : Int32)), .val (.int (((((p3.toUInt32 >>> ((4 : Int32) &&& 31).toUInt32).toInt32) &&& (3 : Int32)) - (((p3.toUInt32 >>> ((2 : Int32) &&& 31).toUInt32).toInt32) &&& (3 : Int32))) + (1 : Int32)))]) rfl k) ?_
                  show OwnEnd p e below s _ _ _ (T283.setTop (mkF m 356 #[.val (.int p1), .val (.int p2), .val (.int p3), .val (.int p4), .val (.int (p1 &&& (3 : Int32))), .val (.int v101), .val (.ref v102), .val (.ref y108), .val (.int v109), .val (.int v110), .val (.int (((p3.toUInt32 >>> ((2 : Int32) &&& 31).toUInt32).toInt32) &&& (3 : Int32))), .val (.int (((p3.toUInt32 >>> ((4 : Int32) &&& 31).toUInt32).toInt32) &&& (3 : Int32))), .val (.int (p4 &&& (3 : Int32))), .val (.int v111), .val (.ref v112), .val (.ref y118), .val (.ref b119), .val (.int (0 : Int32)), .val (.int (((((p3.toUInt32 >>> ((4 : Int32) &&& 31).toUInt32).toInt32) &&& (3 : Int32)) - (((p3.toUInt32 >>> ((2 : Int32) &&& 31).toUInt32).toInt32) &&& (3 : Int32))) + (1 : Int32)))] []))
                  refine OwnEnd.go (fun _ k => XS.aload X283.here hx rfl (hb hby at_356) rfl rfl k) ?_
                  show OwnEnd p e below s _ _ _ (T283.setTop (mkF m 358 #[.val (.int p1), .val (.int p2), .val (.int p3), .val (.int p4), .val (.int (p1 &&& (3 : Int32))), .val (.int v101), .val (.ref v102), .val (.ref y108), .val (.int v109), .val (.int v110), .val (.int (((p3.toUInt32 >>> ((2 : Int32) &&& 31).toUInt32).toInt32) &&& (3 : Int32))), .val (.int (((p3.toUInt32 >>> ((4 : Int32) &&& 31).toUInt32).toInt32) &&& (3 : Int32))), .val (.int (p4 &&& (3 : Int32))), .val (.int v111), .val (.ref v112), .val (.ref y118), .val (.ref b119), .val (.int (0 : Int32)), .val (.int (((((p3.toUInt32 >>> ((4 : Int32) &&& 31).toUInt32).toInt32) &&& (3 : Int32)) - (((p3.toUInt32 >>> ((2 : Int32) &&& 31).toUInt32).toInt32) &&& (3 : Int32))) + (1 : Int32)))] [(.ref b119)]))
                  obtain ⟨_, T286, L286, X286, hQ286, st286⟩ := ownCallV X283 hx hZ hown ww55 ww56 ww58 ww57 ww14 ww59 (by decide) (rm8d1 l Z a0 hw [] b119 y134 y135 ((rc2 + (((p3.toUInt32 >>> ((4 : Int32) &&& 31).toUInt32).toInt32) &&& (3 : Int32))) + (1 : Int32)) ((0 : Int32) + (p1 &&& (3 : Int32))) (0 : Int32) (tt2 + (((p3.toUInt32 >>> ((2 : Int32) &&& 31).toUInt32).toInt32) &&& (3 : Int32))) (0 : Int32) (0 : Int32) (0 : Int32) (0 : Int32) T279.heap n0 Y279  P280) e283 F281 0 (by decide) (by decide) (by decide) (by decide) (g := (mkF m 358 #[.val (.int p1), .val (.int p2), .val (.int p3), .val (.int p4), .val (.int (p1 &&& (3 : Int32))), .val (.int v101), .val (.ref v102), .val (.ref y108), .val (.int v109), .val (.int v110), .val (.int (((p3.toUInt32 >>> ((2 : Int32) &&& 31).toUInt32).toInt32) &&& (3 : Int32))), .val (.int (((p3.toUInt32 >>> ((4 : Int32) &&& 31).toUInt32).toInt32) &&& (3 : Int32))), .val (.int (p4 &&& (3 : Int32))), .val (.int v111), .val (.ref v112), .val (.ref y118), .val (.ref b119), .val (.int (0 : Int32)), .val (.int (((((p3.toUInt32 >>> ((4 : Int32) &&& 31).toUInt32).toInt32) &&& (3 : Int32)) - (((p3.toUInt32 >>> ((2 : Int32) &&& 31).toUInt32).toInt32) &&& (3 : Int32))) + (1 : Int32)))] [(.ref b119)])) rfl (by rw [hml]; rfl) (argsL := []) (rest := []) (lenOf pd0_4 rfl) rfl rfl (by show 2 * 0 + _ ≤ _; exact Nat.le_of_eq rfl) (hb hby at_358)
                  obtain ⟨rfl, N286q, e286⟩ := hQ286
                  have N286 := Fr.app N279 N286q
                  refine OwnEnd.go (fun _ k => st286 _ k) ?_
                  show OwnEnd p e below s _ _ _ (T286.setTop (mkF m 361 #[.val (.int p1), .val (.int p2), .val (.int p3), .val (.int p4), .val (.int (p1 &&& (3 : Int32))), .val (.int v101), .val (.ref v102), .val (.ref y108), .val (.int v109), .val (.int v110), .val (.int (((p3.toUInt32 >>> ((2 : Int32) &&& 31).toUInt32).toInt32) &&& (3 : Int32))), .val (.int (((p3.toUInt32 >>> ((4 : Int32) &&& 31).toUInt32).toInt32) &&& (3 : Int32))), .val (.int (p4 &&& (3 : Int32))), .val (.int v111), .val (.ref v112), .val (.ref y118), .val (.ref b119), .val (.int (0 : Int32)), .val (.int (((((p3.toUInt32 >>> ((4 : Int32) &&& 31).toUInt32).toInt32) &&& (3 : Int32)) - (((p3.toUInt32 >>> ((2 : Int32) &&& 31).toUInt32).toInt32) &&& (3 : Int32))) + (1 : Int32)))] [(.int (own_isat ((rc2 + (((p3.toUInt32 >>> ((4 : Int32) &&& 31).toUInt32).toInt32) &&& (3 : Int32))) + (1 : Int32)) ((0 : Int32) + (p1 &&& (3 : Int32))) (tt2 + (((p3.toUInt32 >>> ((2 : Int32) &&& 31).toUInt32).toInt32) &&& (3 : Int32)))))]))
                  refine OwnEnd.go (fun _ k => XS.iload X286.here hx rfl (hb hby at_361) rfl  k) ?_
                  show OwnEnd p e below s _ _ _ (T286.setTop (mkF m 363 #[.val (.int p1), .val (.int p2), .val (.int p3), .val (.int p4), .val (.int (p1 &&& (3 : Int32))), .val (.int v101), .val (.ref v102), .val (.ref y108), .val (.int v109), .val (.int v110), .val (.int (((p3.toUInt32 >>> ((2 : Int32) &&& 31).toUInt32).toInt32) &&& (3 : Int32))), .val (.int (((p3.toUInt32 >>> ((4 : Int32) &&& 31).toUInt32).toInt32) &&& (3 : Int32))), .val (.int (p4 &&& (3 : Int32))), .val (.int v111), .val (.ref v112), .val (.ref y118), .val (.ref b119), .val (.int (0 : Int32)), .val (.int (((((p3.toUInt32 >>> ((4 : Int32) &&& 31).toUInt32).toInt32) &&& (3 : Int32)) - (((p3.toUInt32 >>> ((2 : Int32) &&& 31).toUInt32).toInt32) &&& (3 : Int32))) + (1 : Int32)))] [(.int (0 : Int32)), (.int (own_isat ((rc2 + (((p3.toUInt32 >>> ((4 : Int32) &&& 31).toUInt32).toInt32) &&& (3 : Int32))) + (1 : Int32)) ((0 : Int32) + (p1 &&& (3 : Int32))) (tt2 + (((p3.toUInt32 >>> ((2 : Int32) &&& 31).toUInt32).toInt32) &&& (3 : Int32)))))]))
                  refine OwnEnd.go (fun _ k => XS.icmpNo X286.here hx rfl (hb hby at_363) rfl (teq (own_isat_f (fun q => hc284 ((own_f1 hy221).1 q)))).2 k) ?_
                  show OwnEnd p e below s _ _ _ (T286.setTop (mkF m 366 #[.val (.int p1), .val (.int p2), .val (.int p3), .val (.int p4), .val (.int (p1 &&& (3 : Int32))), .val (.int v101), .val (.ref v102), .val (.ref y108), .val (.int v109), .val (.int v110), .val (.int (((p3.toUInt32 >>> ((2 : Int32) &&& 31).toUInt32).toInt32) &&& (3 : Int32))), .val (.int (((p3.toUInt32 >>> ((4 : Int32) &&& 31).toUInt32).toInt32) &&& (3 : Int32))), .val (.int (p4 &&& (3 : Int32))), .val (.int v111), .val (.ref v112), .val (.ref y118), .val (.ref b119), .val (.int (0 : Int32)), .val (.int (((((p3.toUInt32 >>> ((4 : Int32) &&& 31).toUInt32).toInt32) &&& (3 : Int32)) - (((p3.toUInt32 >>> ((2 : Int32) &&& 31).toUInt32).toInt32) &&& (3 : Int32))) + (1 : Int32)))] []))
                  refine OwnEnd.go (fun _ k => XS.iconst X286.here hx rfl (hb hby at_366) k) ?_
                  show OwnEnd p e below s _ _ _ (T286.setTop (mkF m 367 #[.val (.int p1), .val (.int p2), .val (.int p3), .val (.int p4), .val (.int (p1 &&& (3 : Int32))), .val (.int v101), .val (.ref v102), .val (.ref y108), .val (.int v109), .val (.int v110), .val (.int (((p3.toUInt32 >>> ((2 : Int32) &&& 31).toUInt32).toInt32) &&& (3 : Int32))), .val (.int (((p3.toUInt32 >>> ((4 : Int32) &&& 31).toUInt32).toInt32) &&& (3 : Int32))), .val (.int (p4 &&& (3 : Int32))), .val (.int v111), .val (.ref v112), .val (.ref y118), .val (.ref b119), .val (.int (0 : Int32)), .val (.int (((((p3.toUInt32 >>> ((4 : Int32) &&& 31).toUInt32).toInt32) &&& (3 : Int32)) - (((p3.toUInt32 >>> ((2 : Int32) &&& 31).toUInt32).toInt32) &&& (3 : Int32))) + (1 : Int32)))] [(.int (1 : Int32))]))
                  refine OwnEnd.go (fun _ k => XS.goto X286.here hx rfl (pc0 := 367) (pc' := 371) rfl (hb hby at_367) (by decide) (by decide) k) ?_
                  show OwnEnd p e below s _ _ _ (T286.setTop (mkF m 371 #[.val (.int p1), .val (.int p2), .val (.int p3), .val (.int p4), .val (.int (p1 &&& (3 : Int32))), .val (.int v101), .val (.ref v102), .val (.ref y108), .val (.int v109), .val (.int v110), .val (.int (((p3.toUInt32 >>> ((2 : Int32) &&& 31).toUInt32).toInt32) &&& (3 : Int32))), .val (.int (((p3.toUInt32 >>> ((4 : Int32) &&& 31).toUInt32).toInt32) &&& (3 : Int32))), .val (.int (p4 &&& (3 : Int32))), .val (.int v111), .val (.ref v112), .val (.ref y118), .val (.ref b119), .val (.int (0 : Int32)), .val (.int (((((p3.toUInt32 >>> ((4 : Int32) &&& 31).toUInt32).toInt32) &&& (3 : Int32)) - (((p3.toUInt32 >>> ((2 : Int32) &&& 31).toUInt32).toInt32) &&& (3 : Int32))) + (1 : Int32)))] [(.int (1 : Int32))]))
                  refine ownRetZ X286 hx hlk hret (hb hby at_371) (by decide) (by decide) (1 : Int32) (by decide) ?_
                  show Q0 Z p1 p2 p3 p4 a_ATTRIBUTE a_TEXT a_COMMENT a_PROCESSING_INSTRUCTION a_NAMESPACE a_ELEMENT a_DOCUMENT h0 n0 _ T286.heap _
                  rw [e286]
                  exact ⟨rfl, N286⟩
            · refine OwnEnd.go (fun _ k => XS.icmpYes X227.here hx rfl (pc0 := 265) (pc' := 276) rfl (hb hby at_265) rfl (feq hc269).2 (by decide) (by decide) k) ?_
              show OwnEnd p e below s _ _ _ (T227.setTop (mkF m 276 #[.val (.int p1), .val (.int p2), .val (.int p3), .val (.int p4), .val (.int (p1 &&& (3 : Int32))), .val (.int v101), .val (.ref v102), .val (.ref y108), .val (.int v109), .val (.int v110), .val (.int (((p3.toUInt32 >>> ((2 : Int32) &&& 31).toUInt32).toInt32) &&& (3 : Int32))), .val (.int (((p3.toUInt32 >>> ((4 : Int32) &&& 31).toUInt32).toInt32) &&& (3 : Int32))), .val (.int (p4 &&& (3 : Int32))), .val (.int v111), .val (.ref v112), .val (.ref y118), .val (.ref b119), .unset, .unset] []))
              refine OwnEnd.go (fun _ k => XS.iload X227.here hx rfl (hb hby at_276) rfl  k) ?_
              show OwnEnd p e below s _ _ _ (T227.setTop (mkF m 278 #[.val (.int p1), .val (.int p2), .val (.int p3), .val (.int p4), .val (.int (p1 &&& (3 : Int32))), .val (.int v101), .val (.ref v102), .val (.ref y108), .val (.int v109), .val (.int v110), .val (.int (((p3.toUInt32 >>> ((2 : Int32) &&& 31).toUInt32).toInt32) &&& (3 : Int32))), .val (.int (((p3.toUInt32 >>> ((4 : Int32) &&& 31).toUInt32).toInt32) &&& (3 : Int32))), .val (.int (p4 &&& (3 : Int32))), .val (.int v111), .val (.ref v112), .val (.ref y118), .val (.ref b119), .unset, .unset] [(.int (p4 &&& (3 : Int32)))]))
              refine OwnEnd.go (fun _ k => XS.iconst X227.here hx rfl (hb hby at_278) k) ?_
              show OwnEnd p e below s _ _ _ (T227.setTop (mkF m 279 #[.val (.int p1), .val (.int p2), .val (.int p3), .val (.int p4), .val (.int (p1 &&& (3 : Int32))), .val (.int v101), .val (.ref v102), .val (.ref y108), .val (.int v109), .val (.int v110), .val (.int (((p3.toUInt32 >>> ((2 : Int32) &&& 31).toUInt32).toInt32) &&& (3 : Int32))), .val (.int (((p3.toUInt32 >>> ((4 : Int32) &&& 31).toUInt32).toInt32) &&& (3 : Int32))), .val (.int (p4 &&& (3 : Int32))), .val (.int v111), .val (.ref v112), .val (.ref y118), .val (.ref b119), .unset, .unset] [(.int (1 : Int32)), (.int (p4 &&& (3 : Int32)))]))
              refine OwnEnd.go (fun _ k => XS.icmpYes X227.here hx rfl (pc0 := 279) (pc' := 288) rfl (hb hby at_279) rfl (feq hc231).2 (by decide) (by decide) k) ?_
              show OwnEnd p e below s _ _ _ (T227.setTop (mkF m 288 #[.val (.int p1), .val (.int p2), .val (.int p3), .val (.int p4), .val (.int (p1 &&& (3 : Int32))), .val (.int v101), .val (.ref v102), .val (.ref y108), .val (.int v109), .val (.int v110), .val (.int (((p3.toUInt32 >>> ((2 : Int32) &&& 31).toUInt32).toInt32) &&& (3 : Int32))), .val (.int (((p3.toUInt32 >>> ((4 : Int32) &&& 31).toUInt32).toInt32) &&& (3 : Int32))), .val (.int (p4 &&& (3 : Int32))), .val (.int v111), .val (.ref v112), .val (.ref y118), .val (.ref b119), .unset, .unset] []))
              refine OwnEnd.go (fun _ k => XS.iload X227.here hx rfl (hb hby at_288) rfl  k) ?_
              show OwnEnd p e below s _ _ _ (T227.setTop (mkF m 290 #[.val (.int p1), .val (.int p2), .val (.int p3), .val (.int p4), .val (.int (p1 &&& (3 : Int32))), .val (.int v101), .val (.ref v102), .val (.ref y108), .val (.int v109), .val (.int v110), .val (.int (((p3.toUInt32 >>> ((2 : Int32) &&& 31).toUInt32).toInt32) &&& (3 : Int32))), .val (.int (((p3.toUInt32 >>> ((4 : Int32) &&& 31).toUInt32).toInt32) &&& (3 : Int32))), .val (.int (p4 &&& (3 : Int32))), .val (.int v111), .val (.ref v112), .val (.ref y118), .val (.ref b119), .unset, .unset] [(.int v101)]))
              refine OwnEnd.go (fun _ k => XS.ifYes X227.here hx rfl (pc0 := 290) (pc' := 299) rfl (hb hby at_290) rfl ((if0 _ _).trans (feq hc149).2) (by decide) (by decide) k) ?_
              show OwnEnd p e below s _ _ _ (T227.setTop (mkF m 299 #[.val (.int p1), .val (.int p2), .val (.int p3), .val (.int p4), .val (.int (p1 &&& (3 : Int32))), .val (.int v101), .val (.ref v102), .val (.ref y108), .val (.int v109), .val (.int v110), .val (.int (((p3.toUInt32 >>> ((2 : Int32) &&& 31).toUInt32).toInt32) &&& (3 : Int32))), .val (.int (((p3.toUInt32 >>> ((4 : Int32) &&& 31).toUInt32).toInt32) &&& (3 : Int32))), .val (.int (p4 &&& (3 : Int32))), .val (.int v111), .val (.ref v112), .val (.ref y118), .val (.ref b119), .unset, .unset] []))
              refine OwnEnd.go (fun _ k => XS.iload X227.here hx rfl (hb hby at_299) rfl  k) ?_
              show OwnEnd p e below s _ _ _ (T227.setTop (mkF m 301 #[.val (.int p1), .val (.int p2), .val (.int p3), .val (.int p4), .val (.int (p1 &&& (3 : Int32))), .val (.int v101), .val (.ref v102), .val (.ref y108), .val (.int v109), .val (.int v110), .val (.int (((p3.toUInt32 >>> ((2 : Int32) &&& 31).toUInt32).toInt32) &&& (3 : Int32))), .val (.int (((p3.toUInt32 >>> ((4 : Int32) &&& 31).toUInt32).toInt32) &&& (3 : Int32))), .val (.int (p4 &&& (3 : Int32))), .val (.int v111), .val (.ref v112), .val (.ref y118), .val (.ref b119), .unset, .unset] [(.int (((p3.toUInt32 >>> ((4 : Int32) &&& 31).toUInt32).toInt32) &&& (3 : Int32)))]))
              refine OwnEnd.go (fun _ k => XS.iload X227.here hx rfl (hb hby at_301) rfl  k) ?_
              show OwnEnd p e below s _ _ _ (T227.setTop (mkF m 303 #[.val (.int p1), .val (.int p2), .val (.int p3), .val (.int p4), .val (.int (p1 &&& (3 : Int32))), .val (.int v101), .val (.ref v102), .val (.ref y108), .val (.int v109), .val (.int v110), .val (.int (((p3.toUInt32 >>> ((2 : Int32) &&& 31).toUInt32).toInt32) &&& (3 : Int32))), .val (.int (((p3.toUInt32 >>> ((4 : Int32) &&& 31).toUInt32).toInt32) &&& (3 : Int32))), .val (.int (p4 &&& (3 : Int32))), .val (.int v111), .val (.ref v112), .val (.ref y118), .val (.ref b119), .unset, .unset] [(.int (((p3.toUInt32 >>> ((2 : Int32) &&& 31).toUInt32).toInt32) &&& (3 : Int32))), (.int (((p3.toUInt32 >>> ((4 : Int32) &&& 31).toUInt32).toInt32) &&& (3 : Int32)))]))
              refine OwnEnd.go (fun _ k => XS.isub X227.here hx rfl (hb hby at_303) rfl k) ?_
              show OwnEnd p e below s _ _ _ (T227.setTop (mkF m 304 #[.val (.int p1), .val (.int p2), .val (.int p3), .val (.int p4), .val (.int (p1 &&& (3 : Int32))), .val (.int v101), .val (.ref v102), .val (.ref y108), .val (.int v109), .val (.int v110), .val (.int (((p3.toUInt32 >>> ((2 : Int32) &&& 31).toUInt32).toInt32) &&& (3 : Int32))), .val (.int (((p3.toUInt32 >>> ((4 : Int32) &&& 31).toUInt32).toInt32) &&& (3 : Int32))), .val (.int (p4 &&& (3 : Int32))), .val (.int v111), .val (.ref v112), .val (.ref y118), .val (.ref b119), .unset, .unset] [(.int ((((p3.toUInt32 >>> ((4 : Int32) &&& 31).toUInt32).toInt32) &&& (3 : Int32)) - (((p3.toUInt32 >>> ((2 : Int32) &&& 31).toUInt32).toInt32) &&& (3 : Int32))))]))
              refine OwnEnd.go (fun _ k => XS.istore X227.here hx rfl (hb hby at_304) rfl  (l' := #[.val (.int p1), .val (.int p2), .val (.int p3), .val (.int p4), .val (.int (p1 &&& (3 : Int32))), .val (.int v101), .val (.ref v102), .val (.ref y108), .val (.int v109), .val (.int v110), .val (.int (((p3.toUInt32 >>> ((2 : Int32) &&& 31).toUInt32).toInt32) &&& (3 : Int32))), .val (.int (((p3.toUInt32 >>> ((4 : Int32) &&& 31).toUInt32).toInt32) &&& (3 : Int32))), .val (.int (p4 &&& (3 : Int32))), .val (.int v111), .val (.ref v112), .val (.ref y118), .val (.ref b119), .unset, .val (.int ((((p3.toUInt32 >>> ((4 : Int32) &&& 31).toUInt32).toInt32) &&& (3 : Int32)) - (((p3.toUInt32 >>> ((2 : Int32) &&& 31).toUInt32).toInt32) &&& (3 : Int32))))]) rfl k) ?_
              show OwnEnd p e below s _ _ _ (T227.setTop (mkF m 306 #[.val (.int p1), .val (.int p2), .val (.int p3), .val (.int p4), .val (.int (p1 &&& (3 : Int32))), .val (.int v101), .val (.ref v102), .val (.ref y108), .val (.int v109), .val (.int v110), .val (.int (((p3.toUInt32 >>> ((2 : Int32) &&& 31).toUInt32).toInt32) &&& (3 : Int32))), .val (.int (((p3.toUInt32 >>> ((4 : Int32) &&& 31).toUInt32).toInt32) &&& (3 : Int32))), .val (.int (p4 &&& (3 : Int32))), .val (.int v111), .val (.ref v112), .val (.ref y118), .val (.ref b119), .unset, .val (.int ((((p3.toUInt32 >>> ((4 : Int32) &&& 31).toUInt32).toInt32) &&& (3 : Int32)) - (((p3.toUInt32 >>> ((2 : Int32) &&& 31).toUInt32).toInt32) &&& (3 : Int32))))] []))
              refine OwnEnd.go (fun _ k => XS.iload X227.here hx rfl (hb hby at_306) rfl  k) ?_
              show OwnEnd p e below s _ _ _ (T227.setTop (mkF m 308 #[.val (.int p1), .val (.int p2), .val (.int p3), .val (.int p4), .val (.int (p1 &&& (3 : Int32))), .val (.int v101), .val (.ref v102), .val (.ref y108), .val (.int v109), .val (.int v110), .val (.int (((p3.toUInt32 >>> ((2 : Int32) &&& 31).toUInt32).toInt32) &&& (3 : Int32))), .val (.int (((p3.toUInt32 >>> ((4 : Int32) &&& 31).toUInt32).toInt32) &&& (3 : Int32))), .val (.int (p4 &&& (3 : Int32))), .val (.int v111), .val (.ref v112), .val (.ref y118), .val (.ref b119), .unset, .val (.int ((((p3.toUInt32 >>> ((4 : Int32) &&& 31).toUInt32).toInt32) &&& (3 : Int32)) - (((p3.toUInt32 >>> ((2 : Int32) &&& 31).toUInt32).toInt32) &&& (3 : Int32))))] [(.int (p4 &&& (3 : Int32)))]))
              refine OwnEnd.go (fun _ k => XS.iconst X227.here hx rfl (hb hby at_308) k) ?_
              show OwnEnd p e below s _ _ _ (T227.setTop (mkF m 309 #[.val (.int p1), .val (.int p2), .val (.int p3), .val (.int p4), .val (.int (p1 &&& (3 : Int32))), .val (.int v101), .val (.ref v102), .val (.ref y108), .val (.int v109), .val (.int v110), .val (.int (((p3.toUInt32 >>> ((2 : Int32) &&& 31).toUInt32).toInt32) &&& (3 : Int32))), .val (.int (((p3.toUInt32 >>> ((4 : Int32) &&& 31).toUInt32).toInt32) &&& (3 : Int32))), .val (.int (p4 &&& (3 : Int32))), .val (.int v111), .val (.ref v112), .val (.ref y118), .val (.ref b119), .unset, .val (.int ((((p3.toUInt32 >>> ((4 : Int32) &&& 31).toUInt32).toInt32) &&& (3 : Int32)) - (((p3.toUInt32 >>> ((2 : Int32) &&& 31).toUInt32).toInt32) &&& (3 : Int32))))] [(.int (2 : Int32)), (.int (p4 &&& (3 : Int32)))]))
              refine OwnEnd.go (fun _ k => XS.icmpYes X227.here hx rfl (pc0 := 309) (pc' := 327) rfl (hb hby at_309) rfl (feq hc244).2 (by decide) (by decide) k) ?_
              show OwnEnd p e below s _ _ _ (T227.setTop (mkF m 327 #[.val (.int p1), .val (.int p2), .val (.int p3), .val (.int p4), .val (.int (p1 &&& (3 : Int32))), .val (.int v101), .val (.ref v102), .val (.ref y108), .val (.int v109), .val (.int v110), .val (.int (((p3.toUInt32 >>> ((2 : Int32) &&& 31).toUInt32).toInt32) &&& (3 : Int32))), .val (.int (((p3.toUInt32 >>> ((4 : Int32) &&& 31).toUInt32).toInt32) &&& (3 : Int32))), .val (.int (p4 &&& (3 : Int32))), .val (.int v111), .val (.ref v112), .val (.ref y118), .val (.ref b119), .unset, .val (.int ((((p3.toUInt32 >>> ((4 : Int32) &&& 31).toUInt32).toInt32) &&& (3 : Int32)) - (((p3.toUInt32 >>> ((2 : Int32) &&& 31).toUInt32).toInt32) &&& (3 : Int32))))] []))
              refine OwnEnd.go (fun _ k => XS.iload X227.here hx rfl (hb hby at_327) rfl  k) ?_
              show OwnEnd p e below s _ _ _ (T227.setTop (mkF m 329 #[.val (.int p1), .val (.int p2), .val (.int p3), .val (.int p4), .val (.int (p1 &&& (3 : Int32))), .val (.int v101), .val (.ref v102), .val (.ref y108), .val (.int v109), .val (.int v110), .val (.int (((p3.toUInt32 >>> ((2 : Int32) &&& 31).toUInt32).toInt32) &&& (3 : Int32))), .val (.int (((p3.toUInt32 >>> ((4 : Int32) &&& 31).toUInt32).toInt32) &&& (3 : Int32))), .val (.int (p4 &&& (3 : Int32))), .val (.int v111), .val (.ref v112), .val (.ref y118), .val (.ref b119), .unset, .val (.int ((((p3.toUInt32 >>> ((4 : Int32) &&& 31).toUInt32).toInt32) &&& (3 : Int32)) - (((p3.toUInt32 >>> ((2 : Int32) &&& 31).toUInt32).toInt32) &&& (3 : Int32))))] [(.int (p4 &&& (3 : Int32)))]))
              refine OwnEnd.go (fun _ k => XS.iconst X227.here hx rfl (hb hby at_329) k) ?_
              show OwnEnd p e below s _ _ _ (T227.setTop (mkF m 330 #[.val (.int p1), .val (.int p2), .val (.int p3), .val (.int p4), .val (.int (p1 &&& (3 : Int32))), .val (.int v101), .val (.ref v102), .val (.ref y108), .val (.int v109), .val (.int v110), .val (.int (((p3.toUInt32 >>> ((2 : Int32) &&& 31).toUInt32).toInt32) &&& (3 : Int32))), .val (.int (((p3.toUInt32 >>> ((4 : Int32) &&& 31).toUInt32).toInt32) &&& (3 : Int32))), .val (.int (p4 &&& (3 : Int32))), .val (.int v111), .val (.ref v112), .val (.ref y118), .val (.ref b119), .unset, .val (.int ((((p3.toUInt32 >>> ((4 : Int32) &&& 31).toUInt32).toInt32) &&& (3 : Int32)) - (((p3.toUInt32 >>> ((2 : Int32) &&& 31).toUInt32).toInt32) &&& (3 : Int32))))] [(.int (3 : Int32)), (.int (p4 &&& (3 : Int32)))]))
              refine OwnEnd.go (fun _ k => XS.icmpYes X227.here hx rfl (pc0 := 330) (pc' := 344) rfl (hb hby at_330) rfl (feq hc269).2 (by decide) (by decide) k) ?_
              show OwnEnd p e below s _ _ _ (T227.setTop (mkF m 344 #[.val (.int p1), .val (.int p2), .val (.int p3), .val (.int p4), .val (.int (p1 &&& (3 : Int32))), .val (.int v101), .val (.ref v102), .val (.ref y108), .val (.int v109), .val (.int v110), .val (.int (((p3.toUInt32 >>> ((2 : Int32) &&& 31).toUInt32).toInt32) &&& (3 : Int32))), .val (.int (((p3.toUInt32 >>> ((4 : Int32) &&& 31).toUInt32).toInt32) &&& (3 : Int32))), .val (.int (p4 &&& (3 : Int32))), .val (.int v111), .val (.ref v112), .val (.ref y118), .val (.ref b119), .unset, .val (.int ((((p3.toUInt32 >>> ((4 : Int32) &&& 31).toUInt32).toInt32) &&& (3 : Int32)) - (((p3.toUInt32 >>> ((2 : Int32) &&& 31).toUInt32).toInt32) &&& (3 : Int32))))] []))
              refine OwnEnd.go (fun _ k => XS.iload X227.here hx rfl (hb hby at_344) rfl  k) ?_
              show OwnEnd p e below s _ _ _ (T227.setTop (mkF m 346 #[.val (.int p1), .val (.int p2), .val (.int p3), .val (.int p4), .val (.int (p1 &&& (3 : Int32))), .val (.int v101), .val (.ref v102), .val (.ref y108), .val (.int v109), .val (.int v110), .val (.int (((p3.toUInt32 >>> ((2 : Int32) &&& 31).toUInt32).toInt32) &&& (3 : Int32))), .val (.int (((p3.toUInt32 >>> ((4 : Int32) &&& 31).toUInt32).toInt32) &&& (3 : Int32))), .val (.int (p4 &&& (3 : Int32))), .val (.int v111), .val (.ref v112), .val (.ref y118), .val (.ref b119), .unset, .val (.int ((((p3.toUInt32 >>> ((4 : Int32) &&& 31).toUInt32).toInt32) &&& (3 : Int32)) - (((p3.toUInt32 >>> ((2 : Int32) &&& 31).toUInt32).toInt32) &&& (3 : Int32))))] [(.int ((((p3.toUInt32 >>> ((4 : Int32) &&& 31).toUInt32).toInt32) &&& (3 : Int32)) - (((p3.toUInt32 >>> ((2 : Int32) &&& 31).toUInt32).toInt32) &&& (3 : Int32))))]))
              by_cases hc287 : ((((p3.toUInt32 >>> ((4 : Int32) &&& 31).toUInt32).toInt32) &&& (3 : Int32)) - (((p3.toUInt32 >>> ((2 : Int32) &&& 31).toUInt32).toInt32) &&& (3 : Int32))) = (0 : Int32)
              · refine OwnEnd.go (fun _ k => XS.ifNo X227.here hx rfl (hb hby at_346) rfl ((if0 _ _).trans (teq hc287).2) k) ?_
                show OwnEnd p e below s _ _ _ (T227.setTop (mkF m 349 #[.val (.int p1), .val (.int p2), .val (.int p3), .val (.int p4), .val (.int (p1 &&& (3 : Int32))), .val (.int v101), .val (.ref v102), .val (.ref y108), .val (.int v109), .val (.int v110), .val (.int (((p3.toUInt32 >>> ((2 : Int32) &&& 31).toUInt32).toInt32) &&& (3 : Int32))), .val (.int (((p3.toUInt32 >>> ((4 : Int32) &&& 31).toUInt32).toInt32) &&& (3 : Int32))), .val (.int (p4 &&& (3 : Int32))), .val (.int v111), .val (.ref v112), .val (.ref y118), .val (.ref b119), .unset, .val (.int ((((p3.toUInt32 >>> ((4 : Int32) &&& 31).toUInt32).toInt32) &&& (3 : Int32)) - (((p3.toUInt32 >>> ((2 : Int32) &&& 31).toUInt32).toInt32) &&& (3 : Int32))))] []))
                refine OwnEnd.go (fun _ k => XS.iconst X227.here hx rfl (hb hby at_349) k) ?_
                show OwnEnd p e below s _ _ _ (T227.setTop (mkF m 350 #[.val (.int p1), .val (.int p2), .val (.int p3), .val (.int p4), .val (.int (p1 &&& (3 : Int32))), .val (.int v101), .val (.ref v102), .val (.ref y108), .val (.int v109), .val (.int v110), .val (.int (((p3.toUInt32 >>> ((2 : Int32) &&& 31).toUInt32).toInt32) &&& (3 : Int32))), .val (.int (((p3.toUInt32 >>> ((4 : Int32) &&& 31).toUInt32).toInt32) &&& (3 : Int32))), .val (.int (p4 &&& (3 : Int32))), .val (.int v111), .val (.ref v112), .val (.ref y118), .val (.ref b119), .unset, .val (.int ((((p3.toUInt32 >>> ((4 : Int32) &&& 31).toUInt32).toInt32) &&& (3 : Int32)) - (((p3.toUInt32 >>> ((2 : Int32) &&& 31).toUInt32).toInt32) &&& (3 : Int32))))] [(.int (1 : Int32))]))
                refine OwnEnd.go (fun _ k => XS.goto X227.here hx rfl (pc0 := 350) (pc' := 354) rfl (hb hby at_350) (by decide) (by decide) k) ?_
                show OwnEnd p e below s _ _ _ (T227.setTop (mkF m 354 #[.val (.int p1), .val (.int p2), .val (.int p3), .val (.int p4), .val (.int (p1 &&& (3 : Int32))), .val (.int v101), .val (.ref v102), .val (.ref y108), .val (.int v109), .val (.int v110), .val (.int (((p3.toUInt32 >>> ((2 : Int32) &&& 31).toUInt32).toInt32) &&& (3 : Int32))), .val (.int (((p3.toUInt32 >>> ((4 : Int32) &&& 31).toUInt32).toInt32) &&& (3 : Int32))), .val (.int (p4 &&& (3 : Int32))), .val (.int v111), .val (.ref v112), .val (.ref y118), .val (.ref b119), .unset, .val (.int ((((p3.toUInt32 >>> ((4 : Int32) &&& 31).toUInt32).toInt32) &&& (3 : Int32)) - (((p3.toUInt32 >>> ((2 : Int32) &&& 31).toUInt32).toInt32) &&& (3 : Int32))))] [(.int (1 : Int32))]))
                refine OwnEnd.go (fun _ k => XS.istore X227.here hx rfl (hb hby at_354) rfl  (l' := #[.val (.int p1), .val (.int p2), .val (.int p3), .val (.int p4), .val (.int (p1 &&& (3 : Int32))), .val (.int v101), .val (.ref v102), .val (.ref y108), .val (.int v109), .val (.int v110), .val (.int (((p3.toUInt32 >>> ((2 : Int32) &&& 31).toUInt32).toInt32) &&& (3 : Int32))), .val (.int (((p3.toUInt32 >>> ((4 : Int32) &&& 31).toUInt32).toInt32) &&& (3 : Int32))), .val (.int (p4 &&& (3 : Int32))), .val (.int v111), .val (.ref v112), .val (.ref y118), .val (.ref b119), .val (.int (1 : Int32)), .val (.int ((((p3.toUInt32 >>> ((4 : Int32) &&& 31).toUInt32).toInt32) &&& (3 : Int32)) - (((p3.toUInt32 >>> ((2 : Int32) &&& 31).toUInt32).toInt32) &&& (3 : Int32))))]) rfl k) ?_
                show OwnEnd p e below s _ _ _ (T227.setTop (mkF m 356 #[.val (.int p1), .val (.int p2), .val (.int p3), .val (.int p4), .val (.int (p1 &&& (3 : Int32))), .val (.int v101), .val (.ref v102), .val (.ref y108), .val (.int v109), .val (.int v110), .val (.int (((p3.toUInt32 >>> ((2 : Int32) &&& 31).toUInt32).toInt32) &&& (3 : Int32))), .val (.int (((p3.toUInt32 >>> ((4 : Int32) &&& 31).toUInt32).toInt32) &&& (3 : Int32))), .val (.int (p4 &&& (3 : Int32))), .val (.int v111), .val (.ref v112), .val (.ref y118), .val (.ref b119), .val (.int (1 : Int32)), .val (.int ((((p3.toUInt32 >>> ((4 : Int32) &&& 31).toUInt32).toInt32) &&& (3 : Int32)) - (((p3.toUInt32 >>> ((2 : Int32) &&& 31).toUInt32).toInt32) &&& (3 : Int32))))] []))
                refine OwnEnd.go (fun _ k => XS.aload X227.here hx rfl (hb hby at_356) rfl rfl k) ?_
                show OwnEnd p e below s _ _ _ (T227.setTop (mkF m 358 #[.val (.int p1), .val (.int p2), .val (.int p3), .val (.int p4), .val (.int (p1 &&& (3 : Int32))), .val (.int v101), .val (.ref v102), .val (.ref y108), .val (.int v109), .val (.int v110), .val (.int (((p3.toUInt32 >>> ((2 : Int32) &&& 31).toUInt32).toInt32) &&& (3 : Int32))), .val (.int (((p3.toUInt32 >>> ((4 : Int32) &&& 31).toUInt32).toInt32) &&& (3 : Int32))), .val (.int (p4 &&& (3 : Int32))), .val (.int v111), .val (.ref v112), .val (.ref y118), .val (.ref b119), .val (.int (1 : Int32)), .val (.int ((((p3.toUInt32 >>> ((4 : Int32) &&& 31).toUInt32).toInt32) &&& (3 : Int32)) - (((p3.toUInt32 >>> ((2 : Int32) &&& 31).toUInt32).toInt32) &&& (3 : Int32))))] [(.ref b119)]))
                obtain ⟨_, T288, L288, X288, hQ288, st288⟩ := ownCallV X227 hx hZ hown ww55 ww56 ww58 ww57 ww14 ww59 (by decide) (rm8d1 l Z a0 hw [] b119 y134 y135 (rc2 + (((p3.toUInt32 >>> ((4 : Int32) &&& 31).toUInt32).toInt32) &&& (3 : Int32))) ((0 : Int32) + (p1 &&& (3 : Int32))) (0 : Int32) (tt2 + (((p3.toUInt32 >>> ((2 : Int32) &&& 31).toUInt32).toInt32) &&& (3 : Int32))) (0 : Int32) (0 : Int32) (0 : Int32) (0 : Int32) T227.heap n0 Y227  P228) (rfl : T227.heap = T227.heap) F229 0 (by decide) (by decide) (by decide) (by decide) (g := (mkF m 358 #[.val (.int p1), .val (.int p2), .val (.int p3), .val (.int p4), .val (.int (p1 &&& (3 : Int32))), .val (.int v101), .val (.ref v102), .val (.ref y108), .val (.int v109), .val (.int v110), .val (.int (((p3.toUInt32 >>> ((2 : Int32) &&& 31).toUInt32).toInt32) &&& (3 : Int32))), .val (.int (((p3.toUInt32 >>> ((4 : Int32) &&& 31).toUInt32).toInt32) &&& (3 : Int32))), .val (.int (p4 &&& (3 : Int32))), .val (.int v111), .val (.ref v112), .val (.ref y118), .val (.ref b119), .val (.int (1 : Int32)), .val (.int ((((p3.toUInt32 >>> ((4 : Int32) &&& 31).toUInt32).toInt32) &&& (3 : Int32)) - (((p3.toUInt32 >>> ((2 : Int32) &&& 31).toUInt32).toInt32) &&& (3 : Int32))))] [(.ref b119)])) rfl (by rw [hml]; rfl) (argsL := []) (rest := []) (lenOf pd0_4 rfl) rfl rfl (by show 2 * 0 + _ ≤ _; exact Nat.le_of_eq rfl) (hb hby at_358)
                obtain ⟨rfl, N288q, e288⟩ := hQ288
                have N288 := Fr.app N227 N288q
                refine OwnEnd.go (fun _ k => st288 _ k) ?_
                show OwnEnd p e below s _ _ _ (T288.setTop (mkF m 361 #[.val (.int p1), .val (.int p2), .val (.int p3), .val (.int p4), .val (.int (p1 &&& (3 : Int32))), .val (.int v101), .val (.ref v102), .val (.ref y108), .val (.int v109), .val (.int v110), .val (.int (((p3.toUInt32 >>> ((2 : Int32) &&& 31).toUInt32).toInt32) &&& (3 : Int32))), .val (.int (((p3.toUInt32 >>> ((4 : Int32) &&& 31).toUInt32).toInt32) &&& (3 : Int32))), .val (.int (p4 &&& (3 : Int32))), .val (.int v111), .val (.ref v112), .val (.ref y118), .val (.ref b119), .val (.int (1 : Int32)), .val (.int ((((p3.toUInt32 >>> ((4 : Int32) &&& 31).toUInt32).toInt32) &&& (3 : Int32)) - (((p3.toUInt32 >>> ((2 : Int32) &&& 31).toUInt32).toInt32) &&& (3 : Int32))))] [(.int (own_isat (rc2 + (((p3.toUInt32 >>> ((4 : Int32) &&& 31).toUInt32).toInt32) &&& (3 : Int32))) ((0 : Int32) + (p1 &&& (3 : Int32))) (tt2 + (((p3.toUInt32 >>> ((2 : Int32) &&& 31).toUInt32).toInt32) &&& (3 : Int32)))))]))
                refine OwnEnd.go (fun _ k => XS.iload X288.here hx rfl (hb hby at_361) rfl  k) ?_
                show OwnEnd p e below s _ _ _ (T288.setTop (mkF m 363 #[.val (.int p1), .val (.int p2), .val (.int p3), .val (.int p4), .val (.int (p1 &&& (3 : Int32))), .val (.int v101), .val (.ref v102), .val (.ref y108), .val (.int v109), .val (.int v110), .val (.int (((p3.toUInt32 >>> ((2 : Int32) &&& 31).toUInt32).toInt32) &&& (3 : Int32))), .val (.int (((p3.toUInt32 >>> ((4 : Int32) &&& 31).toUInt32).toInt32) &&& (3 : Int32))), .val (.int (p4 &&& (3 : Int32))), .val (.int v111), .val (.ref v112), .val (.ref y118), .val (.ref b119), .val (.int (1 : Int32)), .val (.int ((((p3.toUInt32 >>> ((4 : Int32) &&& 31).toUInt32).toInt32) &&& (3 : Int32)) - (((p3.toUInt32 >>> ((2 : Int32) &&& 31).toUInt32).toInt32) &&& (3 : Int32))))] [(.int (1 : Int32)), (.int (own_isat (rc2 + (((p3.toUInt32 >>> ((4 : Int32) &&& 31).toUInt32).toInt32) &&& (3 : Int32))) ((0 : Int32) + (p1 &&& (3 : Int32))) (tt2 + (((p3.toUInt32 >>> ((2 : Int32) &&& 31).toUInt32).toInt32) &&& (3 : Int32)))))]))
                refine OwnEnd.go (fun _ k => XS.icmpNo X288.here hx rfl (hb hby at_363) rfl (teq (own_isat_t ((own_f0 hy221).2 hc287))).2 k) ?_
                show OwnEnd p e below s _ _ _ (T288.setTop (mkF m 366 #[.val (.int p1), .val (.int p2), .val (.int p3), .val (.int p4), .val (.int (p1 &&& (3 : Int32))), .val (.int v101), .val (.ref v102), .val (.ref y108), .val (.int v109), .val (.int v110), .val (.int (((p3.toUInt32 >>> ((2 : Int32) &&& 31).toUInt32).toInt32) &&& (3 : Int32))), .val (.int (((p3.toUInt32 >>> ((4 : Int32) &&& 31).toUInt32).toInt32) &&& (3 : Int32))), .val (.int (p4 &&& (3 : Int32))), .val (.int v111), .val (.ref v112), .val (.ref y118), .val (.ref b119), .val (.int (1 : Int32)), .val (.int ((((p3.toUInt32 >>> ((4 : Int32) &&& 31).toUInt32).toInt32) &&& (3 : Int32)) - (((p3.toUInt32 >>> ((2 : Int32) &&& 31).toUInt32).toInt32) &&& (3 : Int32))))] []))
                refine OwnEnd.go (fun _ k => XS.iconst X288.here hx rfl (hb hby at_366) k) ?_
                show OwnEnd p e below s _ _ _ (T288.setTop (mkF m 367 #[.val (.int p1), .val (.int p2), .val (.int p3), .val (.int p4), .val (.int (p1 &&& (3 : Int32))), .val (.int v101), .val (.ref v102), .val (.ref y108), .val (.int v109), .val (.int v110), .val (.int (((p3.toUInt32 >>> ((2 : Int32) &&& 31).toUInt32).toInt32) &&& (3 : Int32))), .val (.int (((p3.toUInt32 >>> ((4 : Int32) &&& 31).toUInt32).toInt32) &&& (3 : Int32))), .val (.int (p4 &&& (3 : Int32))), .val (.int v111), .val (.ref v112), .val (.ref y118), .val (.ref b119), .val (.int (1 : Int32)), .val (.int ((((p3.toUInt32 >>> ((4 : Int32) &&& 31).toUInt32).toInt32) &&& (3 : Int32)) - (((p3.toUInt32 >>> ((2 : Int32) &&& 31).toUInt32).toInt32) &&& (3 : Int32))))] [(.int (1 : Int32))]))
                refine OwnEnd.go (fun _ k => XS.goto X288.here hx rfl (pc0 := 367) (pc' := 371) rfl (hb hby at_367) (by decide) (by decide) k) ?_
                show OwnEnd p e below s _ _ _ (T288.setTop (mkF m 371 #[.val (.int p1), .val (.int p2), .val (.int p3), .val (.int p4), .val (.int (p1 &&& (3 : Int32))), .val (.int v101), .val (.ref v102), .val (.ref y108), .val (.int v109), .val (.int v110), .val (.int (((p3.toUInt32 >>> ((2 : Int32) &&& 31).toUInt32).toInt32) &&& (3 : Int32))), .val (.int (((p3.toUInt32 >>> ((4 : Int32) &&& 31).toUInt32).toInt32) &&& (3 : Int32))), .val (.int (p4 &&& (3 : Int32))), .val (.int v111), .val (.ref v112), .val (.ref y118), .val (.ref b119), .val (.int (1 : Int32)), .val (.int ((((p3.toUInt32 >>> ((4 : Int32) &&& 31).toUInt32).toInt32) &&& (3 : Int32)) - (((p3.toUInt32 >>> ((2 : Int32) &&& 31).toUInt32).toInt32) &&& (3 : Int32))))] [(.int (1 : Int32))]))
                refine ownRetZ X288 hx hlk hret (hb hby at_371) (by decide) (by decide) (1 : Int32) (by decide) ?_
                show Q0 Z p1 p2 p3 p4 a_ATTRIBUTE a_TEXT a_COMMENT a_PROCESSING_INSTRUCTION a_NAMESPACE a_ELEMENT a_DOCUMENT h0 n0 _ T288.heap _
                rw [e288]
                exact ⟨rfl, N288⟩
              · refine OwnEnd.go (fun _ k => XS.ifYes X227.here hx rfl (pc0 := 346) (pc' := 353) rfl (hb hby at_346) rfl ((if0 _ _).trans (feq hc287).2) (by decide) (by decide) k) ?_
                show OwnEnd p e below s _ _ _ (T227.setTop (mkF m 353 #[.val (.int p1), .val (.int p2), .val (.int p3), .val (.int p4), .val (.int (p1 &&& (3 : Int32))), .val (.int v101), .val (.ref v102), .val (.ref y108), .val (.int v109), .val (.int v110), .val (.int (((p3.toUInt32 >>> ((2 : Int32) &&& 31).toUInt32).toInt32) &&& (3 : Int32))), .val (.int (((p3.toUInt32 >>> ((4 : Int32) &&& 31).toUInt32).toInt32) &&& (3 : Int32))), .val (.int (p4 &&& (3 : Int32))), .val (.int v111), .val (.ref v112), .val (.ref y118), .val (.ref b119), .unset, .val (.int ((((p3.toUInt32 >>> ((4 : Int32) &&& 31).toUInt32).toInt32) &&& (3 : Int32)) - (((p3.toUInt32 >>> ((2 : Int32) &&& 31).toUInt32).toInt32) &&& (3 : Int32))))] []))
                refine OwnEnd.go (fun _ k => XS.iconst X227.here hx rfl (hb hby at_353) k) ?_
                show OwnEnd p e below s _ _ _ (T227.setTop (mkF m 354 #[.val (.int p1), .val (.int p2), .val (.int p3), .val (.int p4), .val (.int (p1 &&& (3 : Int32))), .val (.int v101), .val (.ref v102), .val (.ref y108), .val (.int v109), .val (.int v110), .val (.int (((p3.toUInt32 >>> ((2 : Int32) &&& 31).toUInt32).toInt32) &&& (3 : Int32))), .val (.int (((p3.toUInt32 >>> ((4 : Int32) &&& 31).toUInt32).toInt32) &&& (3 : Int32))), .val (.int (p4 &&& (3 : Int32))), .val (.int v111), .val (.ref v112), .val (.ref y118), .val (.ref b119), .unset, .val (.int ((((p3.toUInt32 >>> ((4 : Int32) &&& 31).toUInt32).toInt32) &&& (3 : Int32)) - (((p3.toUInt32 >>> ((2 : Int32) &&& 31).toUInt32).toInt32) &&& (3 : Int32))))] [(.int (0 : Int32))]))
                refine OwnEnd.go (fun _ k => XS.istore X227.here hx rfl (hb hby at_354) rfl  (l' := #[.val (.int p1), .val (.int p2), .val (.int p3), .val (.int p4), .val (.int (p1 &&& (3 : Int32))), .val (.int v101), .val (.ref v102), .val (.ref y108), .val (.int v109), .val (.int v110), .val (.int (((p3.toUInt32 >>> ((2 : Int32) &&& 31).toUInt32).toInt32) &&& (3 : Int32))), .val (.int (((p3.toUInt32 >>> ((4 : Int32) &&& 31).toUInt32).toInt32) &&& (3 : Int32))), .val (.int (p4 &&& (3 : Int32))), .val (.int v111), .val (.ref v112), .val (.ref y118), .val (.ref b119), .val (.int (0 : Int32)), .val (.int ((((p3.toUInt32 >>> ((4 : Int32) &&& 31).toUInt32).toInt32) &&& (3 : Int32)) - (((p3.toUInt32 >>> ((2 : Int32) &&& 31).toUInt32).toInt32) &&& (3 : Int32))))]) rfl k) ?_
                show OwnEnd p e below s _ _ _ (T227.setTop (mkF m 356 #[.val (.int p1), .val (.int p2), .val (.int p3), .val (.int p4), .val (.int (p1 &&& (3 : Int32))), .val (.int v101), .val (.ref v102), .val (.ref y108), .val (.int v109), .val (.int v110), .val (.int (((p3.toUInt32 >>> ((2 : Int32) &&& 31).toUInt32).toInt32) &&& (3 : Int32))), .val (.int (((p3.toUInt32 >>> ((4 : Int32) &&& 31).toUInt32).toInt32) &&& (3 : Int32))), .val (.int (p4 &&& (3 : Int32))), .val (.int v111), .val (.ref v112), .val (.ref y118), .val (.ref b119), .val (.int (0 : Int32)), .val (.int ((((p3.toUInt32 >>> ((4 : Int32) &&& 31).toUInt32).toInt32) &&& (3 : Int32)) - (((p3.toUInt32 >>> ((2 : Int32) &&& 31).toUInt32).toInt32) &&& (3 : Int32))))] []))
                refine OwnEnd.go (fun _ k => XS.aload X227.here hx rfl (hb hby at_356) rfl rfl k) ?_
                show OwnEnd p e below s _ _ _ (T227.setTop (mkF m 358 #[.val (.int p1), .val (.int p2), .val (.int p3), .val (.int p4), .val (.int (p1 &&& (3 : Int32))), .val (.int v101), .val (.ref v102), .val (.ref y108), .val (.int v109), .val (.int v110), .val (.int (((p3.toUInt32 >>> ((2 : Int32) &&& 31).toUInt32).toInt32) &&& (3 : Int32))), .val (.int (((p3.toUInt32 >>> ((4 : Int32) &&& 31).toUInt32).toInt32) &&& (3 : Int32))), .val (.int (p4 &&& (3 : Int32))), .val (.int v111), .val (.ref v112), .val (.ref y118), .val (.ref b119), .val (.int (0 : Int32)), .val (.int ((((p3.toUInt32 >>> ((4 : Int32) &&& 31).toUInt32).toInt32) &&& (3 : Int32)) - (((p3.toUInt32 >>> ((2 : Int32) &&& 31).toUInt32).toInt32) &&& (3 : Int32))))] [(.ref b119)]))
                obtain ⟨_, T289, L289, X289, hQ289, st289⟩ := ownCallV X227 hx hZ hown ww55 ww56 ww58 ww57 ww14 ww59 (by decide) (rm8d1 l Z a0 hw [] b119 y134 y135 (rc2 + (((p3.toUInt32 >>> ((4 : Int32) &&& 31).toUInt32).toInt32) &&& (3 : Int32))) ((0 : Int32) + (p1 &&& (3 : Int32))) (0 : Int32) (tt2 + (((p3.toUInt32 >>> ((2 : Int32) &&& 31).toUInt32).toInt32) &&& (3 : Int32))) (0 : Int32) (0 : Int32) (0 : Int32) (0 : Int32) T227.heap n0 Y227  P228) (rfl : T227.heap = T227.heap) F229 0 (by decide) (by decide) (by decide) (by decide) (g := (mkF m 358 #[.val (.int p1), .val (.int p2), .val (.int p3), .val (.int p4), .val (.int (p1 &&& (3 : Int32))), .val (.int v101), .val (.ref v102), .val (.ref y108), .val (.int v109), .val (.int v110), .val (.int (((p3.toUInt32 >>> ((2 : Int32) &&& 31).toUInt32).toInt32) &&& (3 : Int32))), .val (.int (((p3.toUInt32 >>> ((4 : Int32) &&& 31).toUInt32).toInt32) &&& (3 : Int32))), .val (.int (p4 &&& (3 : Int32))), .val (.int v111), .val (.ref v112), .val (.ref y118), .val (.ref b119), .val (.int (0 : Int32)), .val (.int ((((p3.toUInt32 >>> ((4 : Int32) &&& 31).toUInt32).toInt32) &&& (3 : Int32)) - (((p3.toUInt32 >>> ((2 : Int32) &&& 31).toUInt32).toInt32) &&& (3 : Int32))))] [(.ref b119)])) rfl (by rw [hml]; rfl) (argsL := []) (rest := []) (lenOf pd0_4 rfl) rfl rfl (by show 2 * 0 + _ ≤ _; exact Nat.le_of_eq rfl) (hb hby at_358)
                obtain ⟨rfl, N289q, e289⟩ := hQ289
                have N289 := Fr.app N227 N289q
                refine OwnEnd.go (fun _ k => st289 _ k) ?_
                show OwnEnd p e below s _ _ _ (T289.setTop (mkF m 361 #[.val (.int p1), .val (.int p2), .val (.int p3), .val (.int p4), .val (.int (p1 &&& (3 : Int32))), .val (.int v101), .val (.ref v102), .val (.ref y108), .val (.int v109), .val (.int v110), .val (.int (((p3.toUInt32 >>> ((2 : Int32) &&& 31).toUInt32).toInt32) &&& (3 : Int32))), .val (.int (((p3.toUInt32 >>> ((4 : Int32) &&& 31).toUInt32).toInt32) &&& (3 : Int32))), .val (.int (p4 &&& (3 : Int32))), .val (.int v111), .val (.ref v112), .val (.ref y118), .val (.ref b119), .val (.int (0 : Int32)), .val (.int ((((p3.toUInt32 >>> ((4 : Int32) &&& 31).toUInt32).toInt32) &&& (3 : Int32)) - (((p3.toUInt32 >>> ((2 : Int32) &&& 31).toUInt32).toInt32) &&& (3 : Int32))))] [(.int (own_isat (rc2 + (((p3.toUInt32 >>> ((4 : Int32) &&& 31).toUInt32).toInt32) &&& (3 : Int32))) ((0 : Int32) + (p1 &&& (3 : Int32))) (tt2 + (((p3.toUInt32 >>> ((2 : Int32) &&& 31).toUInt32).toInt32) &&& (3 : Int32)))))]))
                refine OwnEnd.go (fun _ k => XS.iload X289.here hx rfl (hb hby at_361) rfl  k) ?_
                show OwnEnd p e below s _ _ _ (T289.setTop (mkF m 363 #[.val (.int p1), .val (.int p2), .val (.int p3), .val (.int p4), .val (.int (p1 &&& (3 : Int32))), .val (.int v101), .val (.ref v102), .val (.ref y108), .val (.int v109), .val (.int v110), .val (.int (((p3.toUInt32 >>> ((2 : Int32) &&& 31).toUInt32).toInt32) &&& (3 : Int32))), .val (.int (((p3.toUInt32 >>> ((4 : Int32) &&& 31).toUInt32).toInt32) &&& (3 : Int32))), .val (.int (p4 &&& (3 : Int32))), .val (.int v111), .val (.ref v112), .val (.ref y118), .val (.ref b119), .val (.int (0 : Int32)), .val (.int ((((p3.toUInt32 >>> ((4 : Int32) &&& 31).toUInt32).toInt32) &&& (3 : Int32)) - (((p3.toUInt32 >>> ((2 : Int32) &&& 31).toUInt32).toInt32) &&& (3 : Int32))))] [(.int (0 : Int32)), (.int (own_isat (rc2 + (((p3.toUInt32 >>> ((4 : Int32) &&& 31).toUInt32).toInt32) &&& (3 : Int32))) ((0 : Int32) + (p1 &&& (3 : Int32))) (tt2 + (((p3.toUInt32 >>> ((2 : Int32) &&& 31).toUInt32).toInt32) &&& (3 : Int32)))))]))
                refine OwnEnd.go (fun _ k => XS.icmpNo X289.here hx rfl (hb hby at_363) rfl (teq (own_isat_f (fun q => hc287 ((own_f0 hy221).1 q)))).2 k) ?_
                show OwnEnd p e below s _ _ _ (T289.setTop (mkF m 366 #[.val (.int p1), .val (.int p2), .val (.int p3), .val (.int p4), .val (.int (p1 &&& (3 : Int32))), .val (.int v101), .val (.ref v102), .val (.ref y108), .val (.int v109), .val (.int v110), .val (.int (((p3.toUInt32 >>> ((2 : Int32) &&& 31).toUInt32).toInt32) &&& (3 : Int32))), .val (.int (((p3.toUInt32 >>> ((4 : Int32) &&& 31).toUInt32).toInt32) &&& (3 : Int32))), .val (.int (p4 &&& (3 : Int32))), .val (.int v111), .val (.ref v112), .val (.ref y118), .val (.ref b119), .val (.int (0 : Int32)), .val (.int ((((p3.toUInt32 >>> ((4 : Int32) &&& 31).toUInt32).toInt32) &&& (3 : Int32)) - (((p3.toUInt32 >>> ((2 : Int32) &&& 31).toUInt32).toInt32) &&& (3 : Int32))))] []))
                refine OwnEnd.go (fun _ k => XS.iconst X289.here hx rfl (hb hby at_366) k) ?_
                show OwnEnd p e below s _ _ _ (T289.setTop (mkF m 367 #[.val (.int p1), .val (.int p2), .val (.int p3), .val (.int p4), .val (.int (p1 &&& (3 : Int32))), .val (.int v101), .val (.ref v102), .val (.ref y108), .val (.int v109), .val (.int v110), .val (.int (((p3.toUInt32 >>> ((2 : Int32) &&& 31).toUInt32).toInt32) &&& (3 : Int32))), .val (.int (((p3.toUInt32 >>> ((4 : Int32) &&& 31).toUInt32).toInt32) &&& (3 : Int32))), .val (.int (p4 &&& (3 : Int32))), .val (.int v111), .val (.ref v112), .val (.ref y118), .val (.ref b119), .val (.int (0 : Int32)), .val (.int ((((p3.toUInt32 >>> ((4 : Int32) &&& 31).toUInt32).toInt32) &&& (3 : Int32)) - (((p3.toUInt32 >>> ((2 : Int32) &&& 31).toUInt32).toInt32) &&& (3 : Int32))))] [(.int (1 : Int32))]))
                refine OwnEnd.go (fun _ k => XS.goto X289.here hx rfl (pc0 := 367) (pc' := 371) rfl (hb hby at_367) (by decide) (by decide) k) ?_
                show OwnEnd p e below s _ _ _ (T289.setTop (mkF m 371 #[.val (.int p1), .val (.int p2), .val (.int p3), .val (.int p4), .val (.int (p1 &&& (3 : Int32))), .val (.int v101), .val (.ref v102), .val (.ref y108), .val (.int v109), .val (.int v110), .val (.int (((p3.toUInt32 >>> ((2 : Int32) &&& 31).toUInt32).toInt32) &&& (3 : Int32))), .val (.int (((p3.toUInt32 >>> ((4 : Int32) &&& 31).toUInt32).toInt32) &&& (3 : Int32))), .val (.int (p4 &&& (3 : Int32))), .val (.int v111), .val (.ref v112), .val (.ref y118), .val (.ref b119), .val (.int (0 : Int32)), .val (.int ((((p3.toUInt32 >>> ((4 : Int32) &&& 31).toUInt32).toInt32) &&& (3 : Int32)) - (((p3.toUInt32 >>> ((2 : Int32) &&& 31).toUInt32).toInt32) &&& (3 : Int32))))] [(.int (1 : Int32))]))
                refine ownRetZ X289 hx hlk hret (hb hby at_371) (by decide) (by decide) (1 : Int32) (by decide) ?_
                show Q0 Z p1 p2 p3 p4 a_ATTRIBUTE a_TEXT a_COMMENT a_PROCESSING_INSTRUCTION a_NAMESPACE a_ELEMENT a_DOCUMENT h0 n0 _ T289.heap _
                rw [e289]
                exact ⟨rfl, N289⟩
      by_cases hc290 : v110 = (0 : Int32)
      · refine OwnEnd.go (fun _ k => XS.ifYes X219.here hx rfl (pc0 := 183) (pc' := 195) rfl (hb hby at_183) rfl ((if0 _ _).trans (teq hc290).1) (by decide) (by decide) k) ?_
        show OwnEnd p e below s _ _ _ (T219.setTop (mkF m 195 #[.val (.int p1), .val (.int p2), .val (.int p3), .val (.int p4), .val (.int (p1 &&& (3 : Int32))), .val (.int v101), .val (.ref v102), .val (.ref y108), .val (.int v109), .val (.int v110), .val (.int (((p3.toUInt32 >>> ((2 : Int32) &&& 31).toUInt32).toInt32) &&& (3 : Int32))), .val (.int (((p3.toUInt32 >>> ((4 : Int32) &&& 31).toUInt32).toInt32) &&& (3 : Int32))), .val (.int (p4 &&& (3 : Int32))), .val (.int v111), .val (.ref v112), .val (.ref y118), .val (.ref b119), .unset, .unset] []))
        exact J221 _ _ rc1 tt1 X219 N219 K219 Y219 O219 B219 hy219
      · refine OwnEnd.go (fun _ k => XS.ifNo X219.here hx rfl (hb hby at_183) rfl ((if0 _ _).trans (feq hc290).1) k) ?_
        show OwnEnd p e below s _ _ _ (T219.setTop (mkF m 186 #[.val (.int p1), .val (.int p2), .val (.int p3), .val (.int p4), .val (.int (p1 &&& (3 : Int32))), .val (.int v101), .val (.ref v102), .val (.ref y108), .val (.int v109), .val (.int v110), .val (.int (((p3.toUInt32 >>> ((2 : Int32) &&& 31).toUInt32).toInt32) &&& (3 : Int32))), .val (.int (((p3.toUInt32 >>> ((4 : Int32) &&& 31).toUInt32).toInt32) &&& (3 : Int32))), .val (.int (p4 &&& (3 : Int32))), .val (.int v111), .val (.ref v112), .val (.ref y118), .val (.ref b119), .unset, .unset] []))
        refine OwnEnd.go (fun _ k => XS.aload X219.here hx rfl (hb hby at_186) rfl rfl k) ?_
        show OwnEnd p e below s _ _ _ (T219.setTop (mkF m 188 #[.val (.int p1), .val (.int p2), .val (.int p3), .val (.int p4), .val (.int (p1 &&& (3 : Int32))), .val (.int v101), .val (.ref v102), .val (.ref y108), .val (.int v109), .val (.int v110), .val (.int (((p3.toUInt32 >>> ((2 : Int32) &&& 31).toUInt32).toInt32) &&& (3 : Int32))), .val (.int (((p3.toUInt32 >>> ((4 : Int32) &&& 31).toUInt32).toInt32) &&& (3 : Int32))), .val (.int (p4 &&& (3 : Int32))), .val (.int v111), .val (.ref v112), .val (.ref y118), .val (.ref b119), .unset, .unset] [(.ref b119)]))
        obtain ⟨T291, X291, e291, st291⟩ := getS2 X219 hx hZ hown (host := "") (Or.inl ww8) Via.refl (rfl : T219.heap = T219.heap) (S_ATTRIBUTE.ext O219.2) (g := (mkF m 188 #[.val (.int p1), .val (.int p2), .val (.int p3), .val (.int p4), .val (.int (p1 &&& (3 : Int32))), .val (.int v101), .val (.ref v102), .val (.ref y108), .val (.int v109), .val (.int v110), .val (.int (((p3.toUInt32 >>> ((2 : Int32) &&& 31).toUInt32).toInt32) &&& (3 : Int32))), .val (.int (((p3.toUInt32 >>> ((4 : Int32) &&& 31).toUInt32).toInt32) &&& (3 : Int32))), .val (.int (p4 &&& (3 : Int32))), .val (.int v111), .val (.ref v112), .val (.ref y118), .val (.ref b119), .unset, .unset] [(.ref b119)])) rfl (hb hby at_188)
        refine OwnEnd.go (fun _ k => st291 _ k) ?_
        show OwnEnd p e below s _ _ _ (T291.setTop (mkF m 191 #[.val (.int p1), .val (.int p2), .val (.int p3), .val (.int p4), .val (.int (p1 &&& (3 : Int32))), .val (.int v101), .val (.ref v102), .val (.ref y108), .val (.int v109), .val (.int v110), .val (.int (((p3.toUInt32 >>> ((2 : Int32) &&& 31).toUInt32).toInt32) &&& (3 : Int32))), .val (.int (((p3.toUInt32 >>> ((4 : Int32) &&& 31).toUInt32).toInt32) &&& (3 : Int32))), .val (.int (p4 &&& (3 : Int32))), .val (.int v111), .val (.ref v112), .val (.ref y118), .val (.ref b119), .unset, .unset] [(.ref a_ATTRIBUTE), (.ref b119)]))
        obtain ⟨_, T292, L292, X292, hQ292, st292⟩ := ownCallV X291 hx hZ hown ww33 ww34 ww36 ww35 ww14 ww37 (by decide) (rm5d1attr l Z a0 hw [] b119 a_ATTRIBUTE y134 y135 rc1 ((0 : Int32) + (p1 &&& (3 : Int32))) (0 : Int32) tt1 (0 : Int32) (0 : Int32) (0 : Int32) (0 : Int32) a_ATTRIBUTE a_ELEMENT a_DOCUMENT T219.heap n0 Y219 O219 S_ATTRIBUTE S_ELEMENT S_DOCUMENT rfl n_ATTRIBUTE_ELEMENT n_ATTRIBUTE_DOCUMENT B219) e291 EA220 0 (by decide) (by decide) (by decide) (by decide) (g := (mkF m 191 #[.val (.int p1), .val (.int p2), .val (.int p3), .val (.int p4), .val (.int (p1 &&& (3 : Int32))), .val (.int v101), .val (.ref v102), .val (.ref y108), .val (.int v109), .val (.int v110), .val (.int (((p3.toUInt32 >>> ((2 : Int32) &&& 31).toUInt32).toInt32) &&& (3 : Int32))), .val (.int (((p3.toUInt32 >>> ((4 : Int32) &&& 31).toUInt32).toInt32) &&& (3 : Int32))), .val (.int (p4 &&& (3 : Int32))), .val (.int v111), .val (.ref v112), .val (.ref y118), .val (.ref b119), .unset, .unset] [(.ref a_ATTRIBUTE), (.ref b119)])) rfl (by rw [hml]; rfl) (argsL := [(.ref a_ATTRIBUTE)]) (rest := []) (lenOf pd0_3 rfl) rfl rfl (by show 2 * 0 + _ ≤ _; exact Nat.le_of_eq rfl) (hb hby at_191)
        obtain ⟨rfl, N292q, K292q, P293⟩ := hQ292
        have N292 := Fr.app N219 N292q
        have F295 := EA220.keep K292q
        have K292 := K219.trans K292q (allS (Or.inr v119) (allS (Or.inr (Nat.le_trans K119.1 P131)) (allS (Or.inr (Nat.le_trans K119.1 P132)) all0)))
        have Y292 := Nat.le_trans Y219 K292q.1
        have O292 := O219.keep K292q (allS u119 (allS P129 (allS P130 all0)))
        refine OwnEnd.go (fun _ k => st292 _ k) ?_
        show OwnEnd p e below s _ _ _ (T292.setTop (mkF m 194 #[.val (.int p1), .val (.int p2), .val (.int p3), .val (.int p4), .val (.int (p1 &&& (3 : Int32))), .val (.int v101), .val (.ref v102), .val (.ref y108), .val (.int v109), .val (.int v110), .val (.int (((p3.toUInt32 >>> ((2 : Int32) &&& 31).toUInt32).toInt32) &&& (3 : Int32))), .val (.int (((p3.toUInt32 >>> ((4 : Int32) &&& 31).toUInt32).toInt32) &&& (3 : Int32))), .val (.int (p4 &&& (3 : Int32))), .val (.int v111), .val (.ref v112), .val (.ref y118), .val (.ref b119), .unset, .unset] [(.int rc1)]))
        refine OwnEnd.go (fun _ k => XS.pop X292.here hx rfl (hb hby at_194) rfl rfl k) ?_
        show OwnEnd p e below s _ _ _ (T292.setTop (mkF m 195 #[.val (.int p1), .val (.int p2), .val (.int p3), .val (.int p4), .val (.int (p1 &&& (3 : Int32))), .val (.int v101), .val (.ref v102), .val (.ref y108), .val (.int v109), .val (.int v110), .val (.int (((p3.toUInt32 >>> ((2 : Int32) &&& 31).toUInt32).toInt32) &&& (3 : Int32))), .val (.int (((p3.toUInt32 >>> ((4 : Int32) &&& 31).toUInt32).toInt32) &&& (3 : Int32))), .val (.int (p4 &&& (3 : Int32))), .val (.int v111), .val (.ref v112), .val (.ref y118), .val (.ref b119), .unset, .unset] []))
        exact J221 _ _ (rc1 + (1 : Int32)) (tt1 + (1 : Int32)) X292 N292 K292 Y292 O292 P293 (own_h1 hy219)
    by_cases hc296 : v109 = (0 : Int32)
    · refine OwnEnd.go (fun _ k => XS.ifYes X215.here hx rfl (pc0 := 169) (pc' := 181) rfl (hb hby at_169) rfl ((if0 _ _).trans (teq hc296).1) (by decide) (by decide) k) ?_
      show OwnEnd p e below s _ _ _ (T215.setTop (mkF m 181 #[.val (.int p1), .val (.int p2), .val (.int p3), .val (.int p4), .val (.int (p1 &&& (3 : Int32))), .val (.int v101), .val (.ref v102), .val (.ref y108), .val (.int v109), .val (.int v110), .val (.int (((p3.toUInt32 >>> ((2 : Int32) &&& 31).toUInt32).toInt32) &&& (3 : Int32))), .val (.int (((p3.toUInt32 >>> ((4 : Int32) &&& 31).toUInt32).toInt32) &&& (3 : Int32))), .val (.int (p4 &&& (3 : Int32))), .val (.int v111), .val (.ref v112), .val (.ref y118), .val (.ref b119), .unset, .unset] []))
      exact J219 _ _ (((0 : Int32) + (p1 &&& (3 : Int32))) + (1 : Int32)) (0 : Int32) X215 N215 K215 Y215 O215 P216 (own_h0 _)
    · refine OwnEnd.go (fun _ k => XS.ifNo X215.here hx rfl (hb hby at_169) rfl ((if0 _ _).trans (feq hc296).1) k) ?_
      show OwnEnd p e below s _ _ _ (T215.setTop (mkF m 172 #[.val (.int p1), .val (.int p2), .val (.int p3), .val (.int p4), .val (.int (p1 &&& (3 : Int32))), .val (.int v101), .val (.ref v102), .val (.ref y108), .val (.int v109), .val (.int v110), .val (.int (((p3.toUInt32 >>> ((2 : Int32) &&& 31).toUInt32).toInt32) &&& (3 : Int32))), .val (.int (((p3.toUInt32 >>> ((4 : Int32) &&& 31).toUInt32).toInt32) &&& (3 : Int32))), .val (.int (p4 &&& (3 : Int32))), .val (.int v111), .val (.ref v112), .val (.ref y118), .val (.ref b119), .unset, .unset] []))
      refine OwnEnd.go (fun _ k => XS.aload X215.here hx rfl (hb hby at_172) rfl rfl k) ?_
      show OwnEnd p e below s _ _ _ (T215.setTop (mkF m 174 #[.val (.int p1), .val (.int p2), .val (.int p3), .val (.int p4), .val (.int (p1 &&& (3 : Int32))), .val (.int v101), .val (.ref v102), .val (.ref y108), .val (.int v109), .val (.int v110), .val (.int (((p3.toUInt32 >>> ((2 : Int32) &&& 31).toUInt32).toInt32) &&& (3 : Int32))), .val (.int (((p3.toUInt32 >>> ((4 : Int32) &&& 31).toUInt32).toInt32) &&& (3 : Int32))), .val (.int (p4 &&& (3 : Int32))), .val (.int v111), .val (.ref v112), .val (.ref y118), .val (.ref b119), .unset, .unset] [(.ref b119)]))
      obtain ⟨T297, X297, e297, st297⟩ := getS2 X215 hx hZ hown (host := "") (Or.inl ww8) Via.refl (rfl : T215.heap = T215.heap) (S_ATTRIBUTE.ext O215.2) (g := (mkF m 174 #[.val (.int p1), .val (.int p2), .val (.int p3), .val (.int p4), .val (.int (p1 &&& (3 : Int32))), .val (.int v101), .val (.ref v102), .val (.ref y108), .val (.int v109), .val (.int v110), .val (.int (((p3.toUInt32 >>> ((2 : Int32) &&& 31).toUInt32).toInt32) &&& (3 : Int32))), .val (.int (((p3.toUInt32 >>> ((4 : Int32) &&& 31).toUInt32).toInt32) &&& (3 : Int32))), .val (.int (p4 &&& (3 : Int32))), .val (.int v111), .val (.ref v112), .val (.ref y118), .val (.ref b119), .unset, .unset] [(.ref b119)])) rfl (hb hby at_174)
      refine OwnEnd.go (fun _ k => st297 _ k) ?_
      show OwnEnd p e below s _ _ _ (T297.setTop (mkF m 177 #[.val (.int p1), .val (.int p2), .val (.int p3), .val (.int p4), .val (.int (p1 &&& (3 : Int32))), .val (.int v101), .val (.ref v102), .val (.ref y108), .val (.int v109), .val (.int v110), .val (.int (((p3.toUInt32 >>> ((2 : Int32) &&& 31).toUInt32).toInt32) &&& (3 : Int32))), .val (.int (((p3.toUInt32 >>> ((4 : Int32) &&& 31).toUInt32).toInt32) &&& (3 : Int32))), .val (.int (p4 &&& (3 : Int32))), .val (.int v111), .val (.ref v112), .val (.ref y118), .val (.ref b119), .unset, .unset] [(.ref a_ATTRIBUTE), (.ref b119)]))
      obtain ⟨_, T298, L298, X298, hQ298, st298⟩ := ownCallV X297 hx hZ hown ww33 ww34 ww36 ww35 ww14 ww37 (by decide) (rm5d1attr l Z a0 hw [] b119 a_ATTRIBUTE y134 y135 (((0 : Int32) + (p1 &&& (3 : Int32))) + (1 : Int32)) ((0 : Int32) + (p1 &&& (3 : Int32))) (0 : Int32) (0 : Int32) (0 : Int32) (0 : Int32) (0 : Int32) (0 : Int32) a_ATTRIBUTE a_ELEMENT a_DOCUMENT T215.heap n0 Y215 O215 S_ATTRIBUTE S_ELEMENT S_DOCUMENT rfl n_ATTRIBUTE_ELEMENT n_ATTRIBUTE_DOCUMENT P216) e297 F217 0 (by decide) (by decide) (by decide) (by decide) (g := (mkF m 177 #[.val (.int p1), .val (.int p2), .val (.int p3), .val (.int p4), .val (.int (p1 &&& (3 : Int32))), .val (.int v101), .val (.ref v102), .val (.ref y108), .val (.int v109), .val (.int v110), .val (.int (((p3.toUInt32 >>> ((2 : Int32) &&& 31).toUInt32).toInt32) &&& (3 : Int32))), .val (.int (((p3.toUInt32 >>> ((4 : Int32) &&& 31).toUInt32).toInt32) &&& (3 : Int32))), .val (.int (p4 &&& (3 : Int32))), .val (.int v111), .val (.ref v112), .val (.ref y118), .val (.ref b119), .unset, .unset] [(.ref a_ATTRIBUTE), (.ref b119)])) rfl (by rw [hml]; rfl) (argsL := [(.ref a_ATTRIBUTE)]) (rest := []) (lenOf pd0_3 rfl) rfl rfl (by show 2 * 0 + _ ≤ _; exact Nat.le_of_eq rfl) (hb hby at_177)
      obtain ⟨rfl, N298q, K298q, P299⟩ := hQ298
      have N298 := Fr.app N215 N298q
      have F300 := F217.keep K298q
      have K298 := K215.trans K298q (allS (Or.inr v119) (allS (Or.inr (Nat.le_trans K119.1 P131)) (allS (Or.inr (Nat.le_trans K119.1 P132)) all0)))
      have Y298 := Nat.le_trans Y215 K298q.1
      have O298 := O215.keep K298q (allS u119 (allS P129 (allS P130 all0)))
      refine OwnEnd.go (fun _ k => st298 _ k) ?_
      show OwnEnd p e below s _ _ _ (T298.setTop (mkF m 180 #[.val (.int p1), .val (.int p2), .val (.int p3), .val (.int p4), .val (.int (p1 &&& (3 : Int32))), .val (.int v101), .val (.ref v102), .val (.ref y108), .val (.int v109), .val (.int v110), .val (.int (((p3.toUInt32 >>> ((2 : Int32) &&& 31).toUInt32).toInt32) &&& (3 : Int32))), .val (.int (((p3.toUInt32 >>> ((4 : Int32) &&& 31).toUInt32).toInt32) &&& (3 : Int32))), .val (.int (p4 &&& (3 : Int32))), .val (.int v111), .val (.ref v112), .val (.ref y118), .val (.ref b119), .unset, .unset] [(.int (((0 : Int32) + (p1 &&& (3 : Int32))) + (1 : Int32)))]))
      refine OwnEnd.go (fun _ k => XS.pop X298.here hx rfl (hb hby at_180) rfl rfl k) ?_
      show OwnEnd p e below s _ _ _ (T298.setTop (mkF m 181 #[.val (.int p1), .val (.int p2), .val (.int p3), .val (.int p4), .val (.int (p1 &&& (3 : Int32))), .val (.int v101), .val (.ref v102), .val (.ref y108), .val (.int v109), .val (.int v110), .val (.int (((p3.toUInt32 >>> ((2 : Int32) &&& 31).toUInt32).toInt32) &&& (3 : Int32))), .val (.int (((p3.toUInt32 >>> ((4 : Int32) &&& 31).toUInt32).toInt32) &&& (3 : Int32))), .val (.int (p4 &&& (3 : Int32))), .val (.int v111), .val (.ref v112), .val (.ref y118), .val (.ref b119), .unset, .unset] []))
      exact J219 _ _ ((((0 : Int32) + (p1 &&& (3 : Int32))) + (1 : Int32)) + (1 : Int32)) ((0 : Int32) + (1 : Int32)) X298 N298 K298 Y298 O298 P299 (own_h1 (own_h0 _))
set_option maxRecDepth 65536 in
set_option maxHeartbeats 40000000 in
theorem comes_1 {Post : Tables → Env → Array Value → State → Outcome → State → Prop} (hpost : ∀ tb e args s v u, (limb_1_1.after args s (.returned v) u = true ∧ limb_1_2.after args s (.returned v) u = true ∧ True) → FrameEnd s (.returned v) u (Jvm.fieldLocs frame_1_writes args s ++ Jvm.arrayLocs frame_1_arrays args s ++ Jvm.staticLocs frame_1_statics s) 16 128 → Post tb e args s (.returned v) u) :
    ArmFor flags0 classFile x code maxLocals ret World_1 tables_1 room_1 Calls_1 rest_1 Pre_1 Post := by
  intro l hfl _ _ p e ha hc hk s m args below hf hA hF happ hP
  obtain ⟨hcalls, hrest, hpre⟩ := hP
  obtain ⟨-, -, -, hnamed, -, -, -, hat⟩ := (Spec.applies_iff hf).mp happ
  obtain ⟨hg, hn⟩ := and_e (Cond.before_iff.mp (show (Jvm.Cond.and given_1 narrow_1).before args s = true from hpre))
  obtain ⟨hcount, hg⟩ := and_e hg
  obtain ⟨hv0, hg⟩ := and_e hg
  obtain ⟨hv1, hg⟩ := and_e hg
  obtain ⟨hv2, hg⟩ := and_e hg
  have hv3 := hg
  obtain ⟨w0, w1, w2, w3, rfl⟩ : ∃ w0 w1 w2 w3 : Value, args = #[w0, w1, w2, w3] := by
    have hs : args.size = 4 := by simpa [Cond.value, given_1] using hcount
    obtain ⟨L⟩ := args
    match L, hs with
    | [w0, w1, w2, w3], _ => exact ⟨w0, w1, w2, w3, rfl⟩
  have hw := fun d (hd : d ∈ tables_1) => atoms_spec (ws := Jvm.Cond.code x code maxLocals ret :: tables_1) hat d (List.mem_cons_of_mem _ hd)
  have hfit : Fit s := fun {y c} hc i hi => by
    obtain ⟨ha, rfl⟩ := Array.getElem?_eq_some_iff.mp hc
    have q := List.all_eq_true.mp ((Array.all_eq_true_iff_forall_mem.mp hF) _ (Array.getElem_mem ha)) i (List.mem_range.mpr hi)
    simpa [Array.getElem?_eq_getElem hi] using q
  obtain ⟨i0, ei0⟩ := is_v hv0
  obtain rfl : w0 = (.int i0) := Option.some.inj ei0
  obtain ⟨i1, ei1⟩ := is_v hv1
  obtain rfl : w1 = (.int i1) := Option.some.inj ei1
  obtain ⟨i2, ei2⟩ := is_v hv2
  obtain rfl : w2 = (.int i2) := Option.some.inj ei2
  obtain ⟨i3, ei3⟩ := is_v hv3
  obtain rfl : w3 = (.int i3) := Option.some.inj ei3
  have ww1 := hw _ (List.mem_of_getElem? (i := 1) rfl)
  have ww2 := hw _ (List.mem_of_getElem? (i := 2) rfl)
  have ww9 := hw _ (List.mem_of_getElem? (i := 9) rfl)
  have ww11 := hw _ (List.mem_of_getElem? (i := 11) rfl)
  have ww72 := hw _ (List.mem_of_getElem? (i := 72) rfl)
  have ww74 := hw _ (List.mem_of_getElem? (i := 74) rfl)
  have ww76 := hw _ (List.mem_of_getElem? (i := 76) rfl)
  have ww78 := hw _ (List.mem_of_getElem? (i := 78) rfl)
  obtain ⟨na1, nb1⟩ := and_e hn
  obtain ⟨na2, nb2⟩ := and_e nb1
  obtain ⟨na3, nb3⟩ := and_e nb2
  obtain ⟨na4, nb4⟩ := and_e nb3
  obtain ⟨na5, nb5⟩ := and_e nb4
  obtain ⟨na6, nb6⟩ := and_e nb5
  obtain ⟨na7, nb7⟩ := and_e nb6
  obtain ⟨na8, nb8⟩ := and_e nb7
  obtain ⟨na9, nb9⟩ := and_e nb8
  obtain ⟨na10, nb10⟩ := and_e nb9
  obtain ⟨na11, nb11⟩ := and_e nb10
  obtain ⟨na12, nb12⟩ := and_e nb11
  obtain ⟨na13, nb13⟩ := and_e nb12
  obtain ⟨a_DOCUMENT, ev_DOCUMENT⟩ := exa_v na1
  have E_DOCUMENT := Exa.start ev_DOCUMENT na1
  have S_DOCUMENT := Sta.start ev_DOCUMENT (Or.inr ⟨ww1, ww2⟩)
  obtain ⟨a_ATTRIBUTE, ev_ATTRIBUTE⟩ := exa_v na2
  have E_ATTRIBUTE := Exa.start ev_ATTRIBUTE na2
  have S_ATTRIBUTE := Sta.start ev_ATTRIBUTE (Or.inr ⟨ww1, ww9⟩)
  obtain ⟨a_ELEMENT, ev_ELEMENT⟩ := exa_v na3
  have E_ELEMENT := Exa.start ev_ELEMENT na3
  have S_ELEMENT := Sta.start ev_ELEMENT (Or.inr ⟨ww1, ww11⟩)
  obtain ⟨a_NAMESPACE, ev_NAMESPACE⟩ := exa_v na7
  have E_NAMESPACE := Exa.start ev_NAMESPACE na7
  have S_NAMESPACE := Sta.start ev_NAMESPACE (Or.inr ⟨ww1, ww72⟩)
  obtain ⟨a_PROCESSING_INSTRUCTION, ev_PROCESSING_INSTRUCTION⟩ := exa_v na8
  have E_PROCESSING_INSTRUCTION := Exa.start ev_PROCESSING_INSTRUCTION na8
  have S_PROCESSING_INSTRUCTION := Sta.start ev_PROCESSING_INSTRUCTION (Or.inr ⟨ww1, ww74⟩)
  obtain ⟨a_COMMENT, ev_COMMENT⟩ := exa_v na10
  have E_COMMENT := Exa.start ev_COMMENT na10
  have S_COMMENT := Sta.start ev_COMMENT (Or.inr ⟨ww1, ww76⟩)
  obtain ⟨a_TEXT, ev_TEXT⟩ := exa_v na12
  have E_TEXT := Exa.start ev_TEXT na12
  have S_TEXT := Sta.start ev_TEXT (Or.inr ⟨ww1, ww78⟩)
  have D_DOCUMENT : Fld s s.heap a_DOCUMENT "java/lang/Enum" "ordinal" "I" (.int (0 : Int32)) := ownOrd ev_DOCUMENT na4
  have D_ATTRIBUTE : Fld s s.heap a_ATTRIBUTE "java/lang/Enum" "ordinal" "I" (.int (2 : Int32)) := ownOrd ev_ATTRIBUTE na5
  have D_ELEMENT : Fld s s.heap a_ELEMENT "java/lang/Enum" "ordinal" "I" (.int (1 : Int32)) := ownOrd ev_ELEMENT na6
  have D_NAMESPACE : Fld s s.heap a_NAMESPACE "java/lang/Enum" "ordinal" "I" (.int (6 : Int32)) := ownOrd ev_NAMESPACE na9
  have D_PROCESSING_INSTRUCTION : Fld s s.heap a_PROCESSING_INSTRUCTION "java/lang/Enum" "ordinal" "I" (.int (5 : Int32)) := ownOrd ev_PROCESSING_INSTRUCTION na13
  have D_COMMENT : Fld s s.heap a_COMMENT "java/lang/Enum" "ordinal" "I" (.int (4 : Int32)) := ownOrd ev_COMMENT na11
  have D_TEXT : Fld s s.heap a_TEXT "java/lang/Enum" "ordinal" "I" (.int (3 : Int32)) := ownOrd ev_TEXT nb13
  have n_ATTRIBUTE_ELEMENT : a_ATTRIBUTE ≠ a_ELEMENT := Fld.ne D_ATTRIBUTE D_ELEMENT (by decide)
  have n_ATTRIBUTE_DOCUMENT : a_ATTRIBUTE ≠ a_DOCUMENT := Fld.ne D_ATTRIBUTE D_DOCUMENT (by decide)
  have n_TEXT_ELEMENT : a_TEXT ≠ a_ELEMENT := Fld.ne D_TEXT D_ELEMENT (by decide)
  have n_TEXT_DOCUMENT : a_TEXT ≠ a_DOCUMENT := Fld.ne D_TEXT D_DOCUMENT (by decide)
  have n_COMMENT_ELEMENT : a_COMMENT ≠ a_ELEMENT := Fld.ne D_COMMENT D_ELEMENT (by decide)
  have n_COMMENT_DOCUMENT : a_COMMENT ≠ a_DOCUMENT := Fld.ne D_COMMENT D_DOCUMENT (by decide)
  have n_PROCESSING_INSTRUCTION_ELEMENT : a_PROCESSING_INSTRUCTION ≠ a_ELEMENT := Fld.ne D_PROCESSING_INSTRUCTION D_ELEMENT (by decide)
  have n_PROCESSING_INSTRUCTION_DOCUMENT : a_PROCESSING_INSTRUCTION ≠ a_DOCUMENT := Fld.ne D_PROCESSING_INSTRUCTION D_DOCUMENT (by decide)
  have n_NAMESPACE_ELEMENT : a_NAMESPACE ≠ a_ELEMENT := Fld.ne D_NAMESPACE D_ELEMENT (by decide)
  have n_NAMESPACE_DOCUMENT : a_NAMESPACE ≠ a_DOCUMENT := Fld.ne D_NAMESPACE D_DOCUMENT (by decide)
  obtain ⟨n, o, h1, h2, h3, _, L, rfl, ⟨rfl, N⟩, hq⟩ := rm0 l s _ hw tables_1 i0 i1 i2 i3 a_ATTRIBUTE a_TEXT a_COMMENT a_PROCESSING_INSTRUCTION a_NAMESPACE a_ELEMENT a_DOCUMENT s.heap s.heap.size (Nat.le_refl _) (Old.start s) S_ATTRIBUTE S_TEXT S_COMMENT S_PROCESSING_INSTRUCTION S_NAMESPACE S_ELEMENT S_DOCUMENT n_ATTRIBUTE_ELEMENT n_ATTRIBUTE_DOCUMENT n_TEXT_ELEMENT n_TEXT_DOCUMENT n_COMMENT_ELEMENT n_COMMENT_DOCUMENT n_PROCESSING_INSTRUCTION_ELEMENT n_PROCESSING_INSTRUCTION_DOCUMENT n_NAMESPACE_ELEMENT n_NAMESPACE_DOCUMENT p e ha hc hk s m _ below hf ((Spec.applies_iff_loose hf).mp happ).1 ⟨rfl, State.Warmed39.refl s, rfl⟩ trivial
  refine ⟨n, _, h1, h2, h3, hpost _ _ _ _ _ _ ⟨Cond.after_iff.mpr rfl, Cond.after_iff.mpr (eq_i res_at (Term.int_eval (1)) rfl), trivial⟩ ⟨hq.1, hq.2.1, (hq.2.2.sift fun y hy => Or.inr (N y hy)).mono (by decide) (by decide)⟩⟩
theorem main_1_1 : Claimed_1_1 := comes_1 fun _ _ _ _ _ _ h hF => ⟨h.1, hF⟩
theorem main_1_2 : Claimed_1_2 := comes_1 fun _ _ _ _ _ _ h hF => ⟨h.2.1, hF⟩
end Jvm.Pilot.@@N@@
namespace Jvm.Pilot.@@N@@
open Jvm Jvm.ClassFile Sem Op Lib Jvm.Free Jvm.Stand Jvm.Pilot.@@N@@.Jvm.D
/-! MADE BY PROGRAM (witnessworld.py) out of the Statement's table words and the real class files: 13 classes; the members and pool entries that the words name. The judged class is class 1, her method 2. -/
namespace start1
open Jvm.ClassFile
def u (s : String) : CpInfo := .utf8 (stringToUtf16 s)
/-- a pool by its gaps: so many unusable entries, then the entry; so many at the end -/
def gap : Nat → List CpInfo → List CpInfo
  | 0, r => r
  | n + 1, r => .unusable :: gap n r
def poolList (es : List (Nat × CpInfo)) (last : Nat) : List CpInfo := es.foldr (fun e r => gap e.1 (e.2 :: r)) (gap last [])
def pool (es : List (Nat × CpInfo)) (last : Nat) : Array CpInfo := ⟨poolList es last⟩
def fileOf (pool : Array CpInfo) (this : Nat) (attrs : Array Attribute := #[]) (ms : Array MethodInfo := #[]) (fl : Nat := 33) (sup : Nat := 0) (ifs : Array Nat := #[]) (fds : Array FieldInfo := #[]) : ClassFile where
  minorVersion := 0
  majorVersion := 65
  constantPool := pool
  accessFlags := fl
  thisClass := this
  superClass := sup
  interfaces := ifs
  fields := fds
  methods := ms
  attributes := attrs
def plain (name : String) (sup : Option ClassId) : Class where
  name := name
  kind := .ordinary
  loader := none
  accessFlags := 33
  super := sup
  interfaces := #[]
  cf := none
  fields := #[]
  methods := #[]
  instanceTypes := #[]
  staticTypes := #[]
  resolved := #[]
  callSites := []
  init := .initialized
  statics := none
  mirror := none

def pool0 : Array CpInfo := pool [(5, u "<init>"), (0, u "()V"), (1, .class_ 10), (1, u "java/lang/Object")] 113

def k0c0 : Code := { maxStack := 0, maxLocals := 1, code := object_method_1_code, exceptionTable := #[], attributes := #[] }
def k0m0 : Method := { name := "<init>", desc := "()V", sig := { parameters := [], returnType := none }, accessFlags := 1, code := some k0c0 }
/-- java/lang/Object -/
def k0 : Class := { plain "java/lang/Object" none with
  accessFlags := 33
  interfaces := #[]
  cf := some (fileOf pool0 8 #[] #[{ accessFlags := 1, nameIndex := 5, descriptorIndex := 6, attributes := #[] }] 33 0 #[] #[])
  fields := #[]
  methods := #[k0m0]
  instanceTypes := #[]
  staticTypes := #[]
  resolved := Array.replicate 124 none
  statics := none }

def pool1 : Array CpInfo := pool [(2, .class_ 4), (0, .nameAndType 5 6), (0, u "java/lang/Object"), (0, u "<init>"), (0, u "()V"), (0, .integer 2147483647), (0, .fieldref 9 10), (0, .class_ 11), (0, .nameAndType 12 13), (0, u "com/example/rewoven_tree/rewoventree/storage/NodeKind"), (0, u "ATTRIBUTE"), (0, u "Lcom/example/rewoven_tree/rewoventree/storage/NodeKind;"), (0, .fieldref 9 15), (0, .nameAndType 16 13), (0, u "TEXT"), (0, .fieldref 9 18), (0, .nameAndType 19 13), (0, u "COMMENT"), (0, .fieldref 9 21), (0, .nameAndType 22 13), (0, u "PROCESSING_INSTRUCTION"), (0, .fieldref 9 24), (0, .nameAndType 25 13), (0, u "NAMESPACE"), (0, .fieldref 9 27), (0, .nameAndType 28 13), (0, u "DOCUMENT"), (0, .fieldref 9 30), (0, .nameAndType 31 13), (0, u "ELEMENT"), (0, .methodref 33 34), (0, .class_ 35), (0, .nameAndType 36 37), (0, u "com/example/rewoven_tree/rewoventree/storage/TableShapeIsAtAttributesPinLaw"), (0, u "leaf"), (0, u "(I)Lcom/example/rewoven_tree/rewoventree/storage/NodeKind;"), (0, .class_ 39), (0, u "com/example/rewoven_tree/rewoventree/storage/TableShape"), (0, .methodref 38 3), (0, .methodref 38 42), (0, .nameAndType 43 44), (0, u "pass"), (0, u "(I)V"), (0, .methodref 38 46), (0, .nameAndType 47 48), (0, u "place"), (0, u "(Lcom/example/rewoven_tree/rewoventree/storage/NodeKind;)I"), (0, .methodref 38 50), (0, .nameAndType 51 44), (0, u "addAttributes"), (0, .methodref 38 53), (0, .nameAndType 54 6), (0, u "end"), (0, .methodref 38 56), (0, .nameAndType 57 58), (0, u "isAtAttributes"), (0, u "()Z"), (3, u "law"), (0, u "(IIII)Z")] 2

def k1m0 : Method := { name := "<init>", desc := "()V", sig := { parameters := [], returnType := none }, accessFlags := 1, code := none }
def k1c1 : Code := { maxStack := 2, maxLocals := 2, code := method_2_code, exceptionTable := #[], attributes := #[] }
def k1m1 : Method := { name := "leaf", desc := "(I)Lcom/example/rewoven_tree/rewoventree/storage/NodeKind;", sig := { parameters := [.int], returnType := some (.object "com/example/rewoven_tree/rewoventree/storage/NodeKind") }, accessFlags := 10, code := some k1c1 }
def k1c2 : Code := { maxStack := 2, maxLocals := 19, code := code, exceptionTable := #[], attributes := #[] }
def k1m2 : Method := { name := "law", desc := "(IIII)Z", sig := { parameters := [.int, .int, .int, .int], returnType := some .boolean }, accessFlags := 9, code := some k1c2 }
/-- com/example/rewoven_tree/rewoventree/storage/TableShapeIsAtAttributesPinLaw -/
def k1 : Class := { plain "com/example/rewoven_tree/rewoventree/storage/TableShapeIsAtAttributesPinLaw" (some 0) with
  accessFlags := 49
  interfaces := #[]
  cf := some (fileOf pool1 33 #[] #[{ accessFlags := 1, nameIndex := 5, descriptorIndex := 6, attributes := #[] }, { accessFlags := 10, nameIndex := 36, descriptorIndex := 37, attributes := #[] }, { accessFlags := 9, nameIndex := 62, descriptorIndex := 63, attributes := #[] }] 49 2 #[] #[])
  fields := #[]
  methods := #[k1m0, k1m1, k1m2]
  instanceTypes := #[]
  staticTypes := #[]
  resolved := Array.replicate 66 none
  statics := none }

def pool2 : Array CpInfo := pool [(1, .class_ 2), (0, u "java/lang/constant/Constable"), (0, .class_ 4), (0, u "java/lang/Object")] 6

/-- java/lang/constant/Constable -/
def k2 : Class := { plain "java/lang/constant/Constable" (some 0) with
  accessFlags := 1537
  interfaces := #[]
  cf := some (fileOf pool2 1 #[] #[] 1537 3 #[] #[])
  fields := #[]
  methods := #[]
  instanceTypes := #[]
  staticTypes := #[]
  resolved := Array.replicate 11 none
  statics := none }

def pool3 : Array CpInfo := pool [(1, .class_ 2), (0, u "java/lang/Comparable"), (0, .class_ 4), (0, u "java/lang/Object")] 7

/-- java/lang/Comparable -/
def k3 : Class := { plain "java/lang/Comparable" (some 0) with
  accessFlags := 1537
  interfaces := #[]
  cf := some (fileOf pool3 1 #[] #[] 1537 3 #[] #[])
  fields := #[]
  methods := #[]
  instanceTypes := #[]
  staticTypes := #[]
  resolved := Array.replicate 12 none
  statics := none }

def pool4 : Array CpInfo := pool [(1, .class_ 2), (0, u "java/io/Serializable"), (0, .class_ 4), (0, u "java/lang/Object")] 2

/-- java/io/Serializable -/
def k4 : Class := { plain "java/io/Serializable" (some 0) with
  accessFlags := 1537
  interfaces := #[]
  cf := some (fileOf pool4 1 #[] #[] 1537 3 #[] #[])
  fields := #[]
  methods := #[]
  instanceTypes := #[]
  staticTypes := #[]
  resolved := Array.replicate 7 none
  statics := none }

def pool5 : Array CpInfo := pool [(2, .class_ 4), (1, u "java/lang/Enum"), (0, u "name"), (0, u "Ljava/lang/String;"), (2, u "ordinal"), (0, u "I"), (1, .class_ 14), (1, u "java/lang/Object"), (4, u "hash"), (86, .class_ 108), (1, u "java/lang/Enum$EnumDesc"), (2, .class_ 112), (0, u "java/lang/constant/Constable"), (0, .class_ 114), (0, u "java/lang/Comparable"), (0, .class_ 116), (0, u "java/io/Serializable")] 87

/-- java/lang/Enum -/
def k5 : Class := { plain "java/lang/Enum" (some 0) with
  accessFlags := 1057
  interfaces := #[2, 3, 4]
  cf := some (fileOf pool5 2 #[.nestMembers #[106]] #[] 1057 12 #[111, 113, 115] #[{ accessFlags := 18, nameIndex := 5, descriptorIndex := 6, attributes := #[] }, { accessFlags := 18, nameIndex := 9, descriptorIndex := 10, attributes := #[] }, { accessFlags := 2, nameIndex := 19, descriptorIndex := 10, attributes := #[] }])
  fields := #[{ name := "name", type := (.object "java/lang/String"), accessFlags := 18, slot := 0, constantValue := 0 }, { name := "ordinal", type := .int, accessFlags := 18, slot := 1, constantValue := 0 }, { name := "hash", type := .int, accessFlags := 2, slot := 2, constantValue := 0 }]
  methods := #[]
  instanceTypes := #[(.object "java/lang/String"), .int, .int]
  staticTypes := #[]
  resolved := Array.replicate 204 none
  statics := none }

def pool6 : Array CpInfo := pool [(1, .class_ 2), (0, u "com/example/rewoven_tree/rewoventree/storage/NodeKind"), (2, u "DOCUMENT"), (0, u "Lcom/example/rewoven_tree/rewoventree/storage/NodeKind;"), (2, u "ELEMENT"), (2, u "ATTRIBUTE"), (2, u "TEXT"), (2, u "COMMENT"), (2, u "PROCESSING_INSTRUCTION"), (2, u "NAMESPACE"), (2, u "$VALUES"), (0, u "[Lcom/example/rewoven_tree/rewoventree/storage/NodeKind;"), (6, .class_ 37), (1, u "java/lang/Enum"), (8, u "code"), (0, u "I"), (2, u "BY_CODE")] 68

/-- com/example/rewoven_tree/rewoventree/storage/NodeKind -/
def k6 : Class := { plain "com/example/rewoven_tree/rewoventree/storage/NodeKind" (some 5) with
  accessFlags := 16433
  interfaces := #[]
  cf := some (fileOf pool6 1 #[] #[] 16433 35 #[] #[{ accessFlags := 16409, nameIndex := 5, descriptorIndex := 6, attributes := #[] }, { accessFlags := 16409, nameIndex := 9, descriptorIndex := 6, attributes := #[] }, { accessFlags := 16409, nameIndex := 12, descriptorIndex := 6, attributes := #[] }, { accessFlags := 16409, nameIndex := 15, descriptorIndex := 6, attributes := #[] }, { accessFlags := 16409, nameIndex := 18, descriptorIndex := 6, attributes := #[] }, { accessFlags := 16409, nameIndex := 21, descriptorIndex := 6, attributes := #[] }, { accessFlags := 16409, nameIndex := 24, descriptorIndex := 6, attributes := #[] }, { accessFlags := 26, nameIndex := 50, descriptorIndex := 28, attributes := #[] }, { accessFlags := 18, nameIndex := 46, descriptorIndex := 47, attributes := #[] }, { accessFlags := 4122, nameIndex := 27, descriptorIndex := 28, attributes := #[] }])
  fields := #[{ name := "DOCUMENT", type := (.object "com/example/rewoven_tree/rewoventree/storage/NodeKind"), accessFlags := 16409, slot := 0, constantValue := 0 }, { name := "ELEMENT", type := (.object "com/example/rewoven_tree/rewoventree/storage/NodeKind"), accessFlags := 16409, slot := 1, constantValue := 0 }, { name := "ATTRIBUTE", type := (.object "com/example/rewoven_tree/rewoventree/storage/NodeKind"), accessFlags := 16409, slot := 2, constantValue := 0 }, { name := "TEXT", type := (.object "com/example/rewoven_tree/rewoventree/storage/NodeKind"), accessFlags := 16409, slot := 3, constantValue := 0 }, { name := "COMMENT", type := (.object "com/example/rewoven_tree/rewoventree/storage/NodeKind"), accessFlags := 16409, slot := 4, constantValue := 0 }, { name := "PROCESSING_INSTRUCTION", type := (.object "com/example/rewoven_tree/rewoventree/storage/NodeKind"), accessFlags := 16409, slot := 5, constantValue := 0 }, { name := "NAMESPACE", type := (.object "com/example/rewoven_tree/rewoventree/storage/NodeKind"), accessFlags := 16409, slot := 6, constantValue := 0 }, { name := "BY_CODE", type := (.array (.object "com/example/rewoven_tree/rewoventree/storage/NodeKind")), accessFlags := 26, slot := 7, constantValue := 0 }, { name := "code", type := .int, accessFlags := 18, slot := 3, constantValue := 0 }, { name := "$VALUES", type := (.array (.object "com/example/rewoven_tree/rewoventree/storage/NodeKind")), accessFlags := 4122, slot := 8, constantValue := 0 }]
  methods := #[]
  instanceTypes := #[(.object "java/lang/String"), .int, .int, .int]
  staticTypes := #[(.object "com/example/rewoven_tree/rewoventree/storage/NodeKind"), (.object "com/example/rewoven_tree/rewoventree/storage/NodeKind"), (.object "com/example/rewoven_tree/rewoventree/storage/NodeKind"), (.object "com/example/rewoven_tree/rewoventree/storage/NodeKind"), (.object "com/example/rewoven_tree/rewoventree/storage/NodeKind"), (.object "com/example/rewoven_tree/rewoventree/storage/NodeKind"), (.object "com/example/rewoven_tree/rewoventree/storage/NodeKind"), (.array (.object "com/example/rewoven_tree/rewoventree/storage/NodeKind")), (.array (.object "com/example/rewoven_tree/rewoventree/storage/NodeKind"))]
  resolved := Array.replicate 119 none
  statics := some 0 }

def pool7 : Array CpInfo := pool [(1, .methodref 2 3), (0, .class_ 4), (0, .nameAndType 5 6), (0, u "java/lang/Object"), (0, u "<init>"), (0, u "()V"), (0, .fieldref 8 9), (0, .class_ 10), (0, .nameAndType 11 12), (0, u "com/example/rewoven_tree/rewoventree/storage/TableShape"), (0, u "open"), (0, u "[I"), (0, .fieldref 8 14), (0, .nameAndType 15 12), (0, u "attributes"), (0, .methodref 8 17), (0, .nameAndType 18 19), (0, u "placeSubtree"), (0, u "(I)I"), (0, .fieldref 21 22), (0, .class_ 23), (0, .nameAndType 24 25), (0, u "com/example/rewoven_tree/rewoventree/storage/NodeKind"), (0, u "ATTRIBUTE"), (0, u "Lcom/example/rewoven_tree/rewoventree/storage/NodeKind;"), (0, .fieldref 8 27), (0, .nameAndType 28 29), (0, u "depth"), (0, u "I"), (0, .fieldref 21 31), (0, .nameAndType 32 25), (0, u "ELEMENT"), (0, .fieldref 21 34), (0, .nameAndType 35 25), (0, u "DOCUMENT"), (6, .fieldref 8 43), (0, .nameAndType 44 29), (0, u "rowCount"), (0, .fieldref 8 46), (0, .nameAndType 47 29), (0, u "distance"), (0, .fieldref 8 49), (0, .nameAndType 50 29), (0, u "endedRow"), (0, .fieldref 8 52), (0, .nameAndType 53 29), (0, u "endedSize"), (0, .fieldref 8 55), (0, .nameAndType 56 29), (0, u "endedAttributes"), (2, u "place"), (0, u "(Lcom/example/rewoven_tree/rewoventree/storage/NodeKind;)I"), (1, u "pass"), (0, u "(I)V"), (0, u "addAttributes"), (0, u "end"), (2, u "isAtAttributes"), (0, u "()Z")] 2

def k7c0 : Code := { maxStack := 2, maxLocals := 1, code := prog_249_method_1_code, exceptionTable := #[], attributes := #[] }
def k7m0 : Method := { name := "<init>", desc := "()V", sig := { parameters := [], returnType := none }, accessFlags := 0, code := some k7c0 }
def k7c1 : Code := { maxStack := 4, maxLocals := 3, code := prog_249_method_2_code, exceptionTable := #[], attributes := #[] }
def k7m1 : Method := { name := "place", desc := "(Lcom/example/rewoven_tree/rewoventree/storage/NodeKind;)I", sig := { parameters := [(.object "com/example/rewoven_tree/rewoventree/storage/NodeKind")], returnType := some .int }, accessFlags := 0, code := some k7c1 }
def k7c2 : Code := { maxStack := 5, maxLocals := 3, code := prog_249_method_3_code, exceptionTable := #[], attributes := #[] }
def k7m2 : Method := { name := "placeSubtree", desc := "(I)I", sig := { parameters := [.int], returnType := some .int }, accessFlags := 0, code := some k7c2 }
def k7c3 : Code := { maxStack := 3, maxLocals := 2, code := prog_249_method_4_code, exceptionTable := #[], attributes := #[] }
def k7m3 : Method := { name := "pass", desc := "(I)V", sig := { parameters := [.int], returnType := none }, accessFlags := 0, code := some k7c3 }
def k7c4 : Code := { maxStack := 4, maxLocals := 2, code := prog_249_method_5_code, exceptionTable := #[], attributes := #[] }
def k7m4 : Method := { name := "addAttributes", desc := "(I)V", sig := { parameters := [.int], returnType := none }, accessFlags := 0, code := some k7c4 }
def k7c5 : Code := { maxStack := 4, maxLocals := 1, code := prog_249_method_6_code, exceptionTable := #[], attributes := #[] }
def k7m5 : Method := { name := "end", desc := "()V", sig := { parameters := [], returnType := none }, accessFlags := 0, code := some k7c5 }
def k7c6 : Code := { maxStack := 5, maxLocals := 1, code := prog_249_method_13_code, exceptionTable := #[], attributes := #[] }
def k7m6 : Method := { name := "isAtAttributes", desc := "()Z", sig := { parameters := [], returnType := some .boolean }, accessFlags := 0, code := some k7c6 }
/-- com/example/rewoven_tree/rewoventree/storage/TableShape -/
def k7 : Class := { plain "com/example/rewoven_tree/rewoventree/storage/TableShape" (some 0) with
  accessFlags := 32
  interfaces := #[]
  cf := some (fileOf pool7 8 #[] #[{ accessFlags := 0, nameIndex := 5, descriptorIndex := 6, attributes := #[] }, { accessFlags := 0, nameIndex := 59, descriptorIndex := 60, attributes := #[] }, { accessFlags := 0, nameIndex := 18, descriptorIndex := 19, attributes := #[] }, { accessFlags := 0, nameIndex := 62, descriptorIndex := 63, attributes := #[] }, { accessFlags := 0, nameIndex := 64, descriptorIndex := 63, attributes := #[] }, { accessFlags := 0, nameIndex := 65, descriptorIndex := 6, attributes := #[] }, { accessFlags := 0, nameIndex := 68, descriptorIndex := 69, attributes := #[] }] 32 2 #[] #[{ accessFlags := 2, nameIndex := 44, descriptorIndex := 29, attributes := #[] }, { accessFlags := 2, nameIndex := 11, descriptorIndex := 12, attributes := #[] }, { accessFlags := 2, nameIndex := 15, descriptorIndex := 12, attributes := #[] }, { accessFlags := 2, nameIndex := 28, descriptorIndex := 29, attributes := #[] }, { accessFlags := 2, nameIndex := 47, descriptorIndex := 29, attributes := #[] }, { accessFlags := 2, nameIndex := 50, descriptorIndex := 29, attributes := #[] }, { accessFlags := 2, nameIndex := 53, descriptorIndex := 29, attributes := #[] }, { accessFlags := 2, nameIndex := 56, descriptorIndex := 29, attributes := #[] }])
  fields := #[{ name := "rowCount", type := .int, accessFlags := 2, slot := 0, constantValue := 0 }, { name := "open", type := (.array .int), accessFlags := 2, slot := 1, constantValue := 0 }, { name := "attributes", type := (.array .int), accessFlags := 2, slot := 2, constantValue := 0 }, { name := "depth", type := .int, accessFlags := 2, slot := 3, constantValue := 0 }, { name := "distance", type := .int, accessFlags := 2, slot := 4, constantValue := 0 }, { name := "endedRow", type := .int, accessFlags := 2, slot := 5, constantValue := 0 }, { name := "endedSize", type := .int, accessFlags := 2, slot := 6, constantValue := 0 }, { name := "endedAttributes", type := .int, accessFlags := 2, slot := 7, constantValue := 0 }]
  methods := #[k7m0, k7m1, k7m2, k7m3, k7m4, k7m5, k7m6]
  instanceTypes := #[.int, (.array .int), (.array .int), .int, .int, .int, .int, .int]
  staticTypes := #[]
  resolved := Array.replicate 72 none
  statics := none }

def pool8 : Array CpInfo := pool [(1, u "java/lang/Cloneable"), (0, .class_ 1), (0, u "java/lang/Object"), (0, .class_ 3)] 3

/-- java/lang/Cloneable -/
def k8 : Class := { plain "java/lang/Cloneable" (some 0) with
  accessFlags := 1537
  interfaces := #[]
  cf := some (fileOf pool8 2 #[] #[] 1537 4 #[] #[])
  fields := #[]
  methods := #[]
  instanceTypes := #[]
  staticTypes := #[]
  resolved := Array.replicate 8 none
  statics := none }

/-- the primitive byte -/
def k9 : Class := { plain "byte" none with kind := .primitive 'B', accessFlags := 0x411 }
/-- [B -/
def k10 : Class := { plain "[B" (some 0) with kind := .array 9 .byte, interfaces := #[8, 4], accessFlags := 1041 }

/-- the primitive int -/
def k11 : Class := { plain "int" none with kind := .primitive 'I', accessFlags := 0x411 }
/-- [I -/
def k12 : Class := { plain "[I" (some 0) with kind := .array 11 .int, interfaces := #[8, 4], accessFlags := 1041 }

def heap : Heap := #[{ cls := 6, slots := #[.ref 1, .ref 3, .ref 2, .ref 7, .ref 6, .ref 5, .ref 4, .null, .null], vm := .statics 6 },
  { cls := 6, slots := #[.null, .int 0, .int 0, .int 0], vm := .none },
  { cls := 6, slots := #[.null, .int 2, .int 0, .int 0], vm := .none },
  { cls := 6, slots := #[.null, .int 1, .int 0, .int 0], vm := .none },
  { cls := 6, slots := #[.null, .int 6, .int 0, .int 0], vm := .none },
  { cls := 6, slots := #[.null, .int 5, .int 0, .int 0], vm := .none },
  { cls := 6, slots := #[.null, .int 4, .int 0, .int 0], vm := .none },
  { cls := 6, slots := #[.null, .int 3, .int 0, .int 0], vm := .none }]
def classes : Array Class := #[k0, k1, k2, k3, k4, k5, k6, k7, k8, k9, k10, k11, k12]
def interned : List (Array UInt16 × Addr) := []
def slotsUsed : Nat := 37
def theMethod : MethodId := ⟨1, 2⟩
def args0 : Array Value := #[.int 5, .int 7, .int 2, .int 3]
def aboutOver (below : List Frame) : State where
  vm := { classes := classes, interned := interned.toArray }
  heap := heap
  slotsUsed := slotsUsed
  threads := #[{ frames := .invoking theMethod args0 :: below }]
def below0 : List Frame := [.native { method := ⟨0, 0⟩, args := #[] }]
def about1 : State := aboutOver below0
def p0 : Program := .bare "" "" ""
def e0 : Env := launch0.env 0 0 0
theorem w_frames : about1.frames = Frame.invoking theMethod args0 :: below0 := rfl
set_option maxRecDepth 65536 in
theorem w_args : argsFit about1.vm theMethod args0 = true := by decide +kernel
set_option maxRecDepth 65536 in
theorem w_heap : heapFits about1 = true := by decide +kernel
set_option maxRecDepth 65536 in
theorem w_runnable : about1.curStatus? = some .runnable := by decide +kernel
set_option maxRecDepth 65536 in
theorem w_alone : about1.alone = true := by decide +kernel
set_option maxRecDepth 65536 in
theorem w_named : about1.methodNamed? x = some theMethod := by decide +kernel
set_option maxRecDepth 65536 in
theorem w_hears : about1.hears theMethod below0 = true := by decide +kernel
set_option maxRecDepth 65536 in
theorem w_ripe : about1.ripe theMethod args0 below0 = true := by decide +kernel
theorem w_running : about1.status = .running := rfl
set_option maxRecDepth 65536 in
theorem w_room : about1.hasRoom e0.platform room_1 = true :=
  launch0.hasRoom_least _ room_1 (by decide +kernel) (by decide +kernel) (by decide +kernel) (by decide +kernel) (by decide +kernel) (by decide +kernel)
theorem allAtoms_all (ts : List Jvm.Cond) (a : Array Jvm.Value) (st : Jvm.State) : (allAtoms ts).before a st = ts.all (fun c => c.before a st) := by
  induction ts with
  | nil => rfl
  | cons c t ih =>
    show (Jvm.Cond.and c (allAtoms t)).before a st = _
    rw [Jvm.Cond.before_and, ih, List.all_cons]
def words1 : List Jvm.Cond := Jvm.Cond.code x code maxLocals ret :: tables_1
/-- a 'code' word, met by the world's own term for the bytes: nothing is compared byte by byte -/
theorem code_word {y : MethodName} {bytes : ByteArray} {mx : Nat} {rt : Option FieldType} {a : Array Value} {s : State} {m : MethodId} {meth : Method} {c : Code} (h1 : s.methodNamed? y = some m) (h2 : s.vm.method? m = some meth) (h3 : meth.code = some c) (h4 : c.code = bytes)
    (h5 : (c.maxLocals == mx && c.exceptionTable.isEmpty && decide (c.maxStack ≤ mostOperands) && decide (meth.sig.returnType = rt) && !meth.locks && decide (parseMethodDescriptor y.desc = some meth.sig)) = true) : (Jvm.Cond.code y bytes mx rt).before a s = true := by
  simp only [Bool.and_eq_true, beq_iff_eq, Bool.not_eq_true', decide_eq_true_eq] at h5
  obtain ⟨⟨⟨⟨⟨g1, g2⟩, g3⟩, g4⟩, g5⟩, g6⟩ := h5
  simp [Cond.before, Cond.holds, Cond.value, h1, h2, h3, h4, g1, g2, g3, g4, g5, g6]
def isCode : Jvm.Cond → Bool
  | .code _ _ _ _ => true
  | _ => false
theorem all_split {L : List Jvm.Cond} {P : Jvm.Cond → Bool} (h1 : L.all (fun c => isCode c || P c) = true) (h2 : ∀ c ∈ L.filter isCode, P c = true) : L.all P = true := by
  refine List.all_eq_true.mpr fun c hc => ?_
  have h := List.all_eq_true.mp h1 c hc
  rcases Bool.eq_false_or_eq_true (isCode c) with hi | hi
  · exact h2 c (List.mem_filter.mpr ⟨hc, hi⟩)
  · simpa [hi] using h
set_option maxRecDepth 65536 in
theorem w_c0 : (Jvm.Cond.code x code maxLocals ret).before args0 about1 = true := code_word (m := ⟨1, 2⟩) (meth := k1m2) (c := k1c2) (by decide +kernel) rfl rfl rfl (by decide +kernel)
set_option maxRecDepth 65536 in
theorem w_c1 : (Jvm.Cond.code ({ cls := "com/example/rewoven_tree/rewoventree/storage/TableShapeIsAtAttributesPinLaw", name := "leaf", desc := "(I)Lcom/example/rewoven_tree/rewoventree/storage/NodeKind;" } : Jvm.MethodName) method_2_code (2 : Nat) (Option.some (Jvm.ClassFile.FieldType.object "com/example/rewoven_tree/rewoventree/storage/NodeKind"))).before args0 about1 = true := code_word (m := ⟨1, 1⟩) (meth := k1m1) (c := k1c1) (by decide +kernel) rfl rfl rfl (by decide +kernel)
set_option maxRecDepth 65536 in
theorem w_c2 : (Jvm.Cond.code ({ cls := "com/example/rewoven_tree/rewoventree/storage/TableShape", name := "<init>", desc := "()V" } : Jvm.MethodName) prog_249_method_1_code (1 : Nat) (Option.none : Option Jvm.ClassFile.FieldType)).before args0 about1 = true := code_word (m := ⟨7, 0⟩) (meth := k7m0) (c := k7c0) (by decide +kernel) rfl rfl rfl (by decide +kernel)
set_option maxRecDepth 65536 in
theorem w_c3 : (Jvm.Cond.code ({ cls := "java/lang/Object", name := "<init>", desc := "()V" } : Jvm.MethodName) object_method_1_code (1 : Nat) (Option.none : Option Jvm.ClassFile.FieldType)).before args0 about1 = true := code_word (m := ⟨0, 0⟩) (meth := k0m0) (c := k0c0) (by decide +kernel) rfl rfl rfl (by decide +kernel)
set_option maxRecDepth 65536 in
theorem w_c4 : (Jvm.Cond.code ({ cls := "com/example/rewoven_tree/rewoventree/storage/TableShape", name := "pass", desc := "(I)V" } : Jvm.MethodName) prog_249_method_4_code (2 : Nat) (Option.none : Option Jvm.ClassFile.FieldType)).before args0 about1 = true := code_word (m := ⟨7, 3⟩) (meth := k7m3) (c := k7c3) (by decide +kernel) rfl rfl rfl (by decide +kernel)
set_option maxRecDepth 65536 in
theorem w_c5 : (Jvm.Cond.code ({ cls := "com/example/rewoven_tree/rewoventree/storage/TableShape", name := "place", desc := "(Lcom/example/rewoven_tree/rewoventree/storage/NodeKind;)I" } : Jvm.MethodName) prog_249_method_2_code (3 : Nat) (Option.some Jvm.ClassFile.FieldType.int)).before args0 about1 = true := code_word (m := ⟨7, 1⟩) (meth := k7m1) (c := k7c1) (by decide +kernel) rfl rfl rfl (by decide +kernel)
set_option maxRecDepth 65536 in
theorem w_c6 : (Jvm.Cond.code ({ cls := "com/example/rewoven_tree/rewoventree/storage/TableShape", name := "placeSubtree", desc := "(I)I" } : Jvm.MethodName) prog_249_method_3_code (3 : Nat) (Option.some Jvm.ClassFile.FieldType.int)).before args0 about1 = true := code_word (m := ⟨7, 2⟩) (meth := k7m2) (c := k7c2) (by decide +kernel) rfl rfl rfl (by decide +kernel)
set_option maxRecDepth 65536 in
theorem w_c7 : (Jvm.Cond.code ({ cls := "com/example/rewoven_tree/rewoventree/storage/TableShape", name := "addAttributes", desc := "(I)V" } : Jvm.MethodName) prog_249_method_5_code (2 : Nat) (Option.none : Option Jvm.ClassFile.FieldType)).before args0 about1 = true := code_word (m := ⟨7, 4⟩) (meth := k7m4) (c := k7c4) (by decide +kernel) rfl rfl rfl (by decide +kernel)
set_option maxRecDepth 65536 in
theorem w_c8 : (Jvm.Cond.code ({ cls := "com/example/rewoven_tree/rewoventree/storage/TableShape", name := "isAtAttributes", desc := "()Z" } : Jvm.MethodName) prog_249_method_13_code (1 : Nat) (Option.some Jvm.ClassFile.FieldType.boolean)).before args0 about1 = true := code_word (m := ⟨7, 6⟩) (meth := k7m6) (c := k7c6) (by decide +kernel) rfl rfl rfl (by decide +kernel)
set_option maxRecDepth 65536 in
theorem w_c9 : (Jvm.Cond.code ({ cls := "com/example/rewoven_tree/rewoventree/storage/TableShape", name := "end", desc := "()V" } : Jvm.MethodName) prog_249_method_6_code (1 : Nat) (Option.none : Option Jvm.ClassFile.FieldType)).before args0 about1 = true := code_word (m := ⟨7, 5⟩) (meth := k7m5) (c := k7c5) (by decide +kernel) rfl rfl rfl (by decide +kernel)
def codes1 : List Jvm.Cond := [Jvm.Cond.code x code maxLocals ret, Jvm.Cond.code ({ cls := "com/example/rewoven_tree/rewoventree/storage/TableShapeIsAtAttributesPinLaw", name := "leaf", desc := "(I)Lcom/example/rewoven_tree/rewoventree/storage/NodeKind;" } : Jvm.MethodName) method_2_code (2 : Nat) (Option.some (Jvm.ClassFile.FieldType.object "com/example/rewoven_tree/rewoventree/storage/NodeKind")), Jvm.Cond.code ({ cls := "com/example/rewoven_tree/rewoventree/storage/TableShape", name := "<init>", desc := "()V" } : Jvm.MethodName) prog_249_method_1_code (1 : Nat) (Option.none : Option Jvm.ClassFile.FieldType), Jvm.Cond.code ({ cls := "java/lang/Object", name := "<init>", desc := "()V" } : Jvm.MethodName) object_method_1_code (1 : Nat) (Option.none : Option Jvm.ClassFile.FieldType), Jvm.Cond.code ({ cls := "com/example/rewoven_tree/rewoventree/storage/TableShape", name := "pass", desc := "(I)V" } : Jvm.MethodName) prog_249_method_4_code (2 : Nat) (Option.none : Option Jvm.ClassFile.FieldType), Jvm.Cond.code ({ cls := "com/example/rewoven_tree/rewoventree/storage/TableShape", name := "place", desc := "(Lcom/example/rewoven_tree/rewoventree/storage/NodeKind;)I" } : Jvm.MethodName) prog_249_method_2_code (3 : Nat) (Option.some Jvm.ClassFile.FieldType.int), Jvm.Cond.code ({ cls := "com/example/rewoven_tree/rewoventree/storage/TableShape", name := "placeSubtree", desc := "(I)I" } : Jvm.MethodName) prog_249_method_3_code (3 : Nat) (Option.some Jvm.ClassFile.FieldType.int), Jvm.Cond.code ({ cls := "com/example/rewoven_tree/rewoventree/storage/TableShape", name := "addAttributes", desc := "(I)V" } : Jvm.MethodName) prog_249_method_5_code (2 : Nat) (Option.none : Option Jvm.ClassFile.FieldType), Jvm.Cond.code ({ cls := "com/example/rewoven_tree/rewoventree/storage/TableShape", name := "isAtAttributes", desc := "()Z" } : Jvm.MethodName) prog_249_method_13_code (1 : Nat) (Option.some Jvm.ClassFile.FieldType.boolean), Jvm.Cond.code ({ cls := "com/example/rewoven_tree/rewoventree/storage/TableShape", name := "end", desc := "()V" } : Jvm.MethodName) prog_249_method_6_code (1 : Nat) (Option.none : Option Jvm.ClassFile.FieldType)]
set_option maxRecDepth 65536 in
theorem codes_eq : words1.filter isCode = codes1 := rfl
theorem w_codes : ∀ c ∈ words1.filter isCode, c.before args0 about1 = true := by
  rw [codes_eq]
  intro c hc
  simp only [codes1, List.mem_cons, List.not_mem_nil, or_false] at hc
  rcases hc with rfl | rfl | rfl | rfl | rfl | rfl | rfl | rfl | rfl | rfl
  · exact w_c0
  · exact w_c1
  · exact w_c2
  · exact w_c3
  · exact w_c4
  · exact w_c5
  · exact w_c6
  · exact w_c7
  · exact w_c8
  · exact w_c9
set_option maxRecDepth 65536 in
theorem w_t1 : (words1.take 24).all (fun c => isCode c || c.before args0 about1) = true := by decide +kernel
set_option maxRecDepth 65536 in
theorem w_t2 : ((words1.drop 24).take 24).all (fun c => isCode c || c.before args0 about1) = true := by decide +kernel
set_option maxRecDepth 65536 in
theorem w_t3 : (((words1.drop 24).drop 24).take 24).all (fun c => isCode c || c.before args0 about1) = true := by decide +kernel
set_option maxRecDepth 65536 in
theorem w_t4 : (((words1.drop 24).drop 24).drop 24).all (fun c => isCode c || c.before args0 about1) = true := by decide +kernel
theorem w_tables : (allAtoms (Jvm.Cond.code x code maxLocals ret :: tables_1)).before args0 about1 = true := by
  rw [allAtoms_all]
  show words1.all (fun c => c.before args0 about1) = true
  refine all_split ?_ w_codes
  rw [← List.take_append_drop 24 words1, List.all_append, w_t1, ← List.take_append_drop 24 (words1.drop 24), List.all_append, w_t2, ← List.take_append_drop 24 ((words1.drop 24).drop 24), List.all_append, w_t3, w_t4]
  rfl
set_option maxRecDepth 65536 in
theorem w_case : (Jvm.Cond.and given_1 narrow_1).before args0 about1 = true := by decide +kernel
theorem w_applies : (headSpec (Jvm.Cond.code x code maxLocals ret :: tables_1) room_1).applies x e0.platform about1 = true :=
  (Spec.applies_iff w_frames).mpr ⟨w_running, w_runnable, w_alone, w_named, w_hears, w_ripe, w_room, w_tables⟩
theorem atStart : AtStart classFile x code maxLocals ret World_1 tables_1 room_1 Calls_1 rest_1 Pre_1 launch0 p0 e0 about1 theMethod args0 below0 :=
  ⟨lists_1, trivial, launch0.admits_env _ _ _, launch0.least_env, fairChoices_fair.cas, fairChoices_fair.clock, w_frames, w_args, w_heap, w_applies, trivial, trivial, w_case⟩
end start1
theorem witness_1 : WitnessClaimed_1 := ⟨start1.p0, start1.e0, start1.about1, start1.theMethod, start1.args0, start1.below0, start1.atStart⟩
end Jvm.Pilot.@@N@@
