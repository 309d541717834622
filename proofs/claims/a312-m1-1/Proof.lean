import JvmDerived
import JvmDerived.Pilot.@@N@@Statement
import JvmDerived.Pilot.@@N@@Code
set_option linter.unusedVariables false
set_option linter.unusedSimpArgs false
namespace Jvm.Pilot.@@N@@
open Jvm Jvm.ClassFile Sem Op Lib Jvm.Free Jvm.Stand Jvm.LawKit Jvm.RoadKit Bundle Jvm.Pilot.@@N@@.Jvm.D
section Own
variable {p : Program} {l : Launch} {e : Env} {R : Room} {s : State} {m : MethodId} {args : Array Value} {below : List Frame} {meth : Method} {c : Code} {T : State} {locs : List Loc} {cells slots : Nat} {Z : State} {a0 : Array Value} {h : Heap}
/-- the run from A ends by returning, Q holds of what it returned and of the heap, and no more than k cells and n slots are new -/
def OwnEnd (p : Program) (e : Env) (below : List Frame) (s : State) (Q : Option Value → Heap → List Loc → Prop) (k n : Nat) (A : State) : Prop :=
  ∃ t o, Steps p.tables e below A t ∧ t.status = .running ∧ Ended t below o ∧ ∃ v L, o = .returned v ∧ Q v t.heap L ∧ FrameEnd s o t L k n
theorem OwnEnd.go {Q : Option Value → Heap → List Loc → Prop} {k n : Nat} {A B : State} (st : ∀ t, Steps p.tables e below B t → Steps p.tables e below A t) (K : OwnEnd p e below s Q k n B) : OwnEnd p e below s Q k n A := by
  obtain ⟨t, o, h1, h2⟩ := K
  exact ⟨t, o, st t h1, h2⟩
theorem OwnEnd.stop {Q : Option Value → Heap → List Loc → Prop} {k n : Nat} {A : State} (X : Stand p l e R s m args below meth c T locs cells slots) (hlk : meth.locks = false) {v : Option Value} (hv : meth.sig.returnType = none → v = none)
    (st : ∀ fs, (∀ (f : JFrame) (acts : List Action), f.method = m → f.locked = none → f.entered = [] → (doReturn e (T.setTop f) acts v).1 = T.setFrames fs) → Steps p.tables e below A (T.setFrames fs))
    (hk : cells ≤ k) (hn : slots ≤ n) (hQ : Q v T.heap locs) : OwnEnd p e below s Q k n A := by
  obtain ⟨fs, hr, hrun, hended, hW, hsame⟩ := X.leave hv hlk
  exact ⟨_, _, st fs hr, hrun, hended, _, _, rfl, hQ, ⟨_, rfl⟩, hW, hsame.mono hk hn⟩
theorem OwnEnd.weak {Q Q' : Option Value → Heap → List Loc → Prop} {k n : Nat} {A : State} (K : OwnEnd p e below s Q k n A) (q : ∀ v h L, Q v h L → Q' v h L) : OwnEnd p e below s Q' k n A := by
  obtain ⟨t, o, h1, h2, h3, v, L, h4, h5, h6⟩ := K
  exact ⟨t, o, h1, h2, h3, v, L, h4, q _ _ _ h5, h6⟩
/-- the returns -/
theorem ownRetI {Q : Option Value → Heap → List Loc → Prop} {k n : Nat} (X : Stand p l e R s m args below meth c T locs cells slots) (hx : p.tables.exec = Jvm.exec) (hlk : meth.locks = false) {pc : Nat} {Ls : Array Slot} {z : Int32} {rest : List Value} (hret : meth.sig.returnType = some .int) (hd : decode c.code pc = .ok (.ireturn, 1))
    (hk : cells ≤ k) (hn : slots ≤ n) (hQ : Q (some (.int z)) T.heap locs) : OwnEnd p e below s Q k n (T.setTop (mkF m pc Ls (.int z :: rest))) :=
  OwnEnd.stop X hlk (fun q => by rw [hret] at q; cases q) (fun fs hr => retOut X hx hret rfl (Or.inl ⟨rfl, Or.inl rfl, z, rfl⟩) hd hr) hk hn hQ
theorem ownRetZ {Q : Option Value → Heap → List Loc → Prop} {k n : Nat} (X : Stand p l e R s m args below meth c T locs cells slots) (hx : p.tables.exec = Jvm.exec) (hlk : meth.locks = false) {pc : Nat} {Ls : Array Slot} {z : Int32} {rest : List Value} (hret : meth.sig.returnType = some .boolean) (hd : decode c.code pc = .ok (.ireturn, 1))
    (hk : cells ≤ k) (hn : slots ≤ n) (w : Int32) (hw : nar .boolean z = w) (hQ : Q (some (.int w)) T.heap locs) : OwnEnd p e below s Q k n (T.setTop (mkF m pc Ls (.int z :: rest))) :=
  OwnEnd.stop X hlk (fun q => by rw [hret] at q; cases q) (fun fs hr => retN X hx (t := .boolean) hret (by simp) hd (by rw [hw]; exact hr)) hk hn hQ
theorem ownRetJ {Q : Option Value → Heap → List Loc → Prop} {k n : Nat} (X : Stand p l e R s m args below meth c T locs cells slots) (hx : p.tables.exec = Jvm.exec) (hlk : meth.locks = false) {pc : Nat} {Ls : Array Slot} {z : Int64} {rest : List Value} (hret : meth.sig.returnType = some .long) (hd : decode c.code pc = .ok (.lreturn, 1))
    (hk : cells ≤ k) (hn : slots ≤ n) (hQ : Q (some (.long z)) T.heap locs) : OwnEnd p e below s Q k n (T.setTop (mkF m pc Ls (.long z :: rest))) :=
  OwnEnd.stop X hlk (fun q => by rw [hret] at q; cases q) (fun fs hr => retOut X hx hret rfl (Or.inr (Or.inl ⟨rfl, rfl, z, rfl⟩)) hd hr) hk hn hQ
theorem ownRetA {Q : Option Value → Heap → List Loc → Prop} {k n : Nat} (X : Stand p l e R s m args below meth c T locs cells slots) (hx : p.tables.exec = Jvm.exec) (hlk : meth.locks = false) {pc : Nat} {Ls : Array Slot} {w : Value} {rest : List Value} {t : FieldType} (hret : meth.sig.returnType = some t) (ht : t.isReference = true) (hw : w.isRef = true) (hn' : narrow t w = w) (hd : decode c.code pc = .ok (.areturn, 1))
    (hk : cells ≤ k) (hn : slots ≤ n) (hQ : Q (some w) T.heap locs) : OwnEnd p e below s Q k n (T.setTop (mkF m pc Ls (w :: rest))) :=
  OwnEnd.stop X hlk (fun q => by rw [hret] at q; cases q) (fun fs hr => retOut X hx hret hn' (Or.inr (Or.inr (Or.inr (Or.inr ⟨rfl, ht, hw⟩)))) hd hr) hk hn hQ
theorem ownRetV {Q : Option Value → Heap → List Loc → Prop} {k n : Nat} (X : Stand p l e R s m args below meth c T locs cells slots) (hx : p.tables.exec = Jvm.exec) (hlk : meth.locks = false) {pc : Nat} {Ls : Array Slot} (hret : meth.sig.returnType = none) (hd : decode c.code pc = .ok (.return_, 1))
    (hk : cells ≤ k) (hn : slots ≤ n) (hQ : Q none T.heap locs) : OwnEnd p e below s Q k n (T.setTop (mkF m pc Ls [])) :=
  OwnEnd.stop X hlk (fun _ => rfl) (fun fs hr => X.returnOut hx hret hd hr) hk hn hQ
/-- the calls, each by the callee's own theorem -/
theorem ownCallS (X : Stand p l e R s m args below meth c T locs cells slots) (hx : p.tables.exec = Jvm.exec) (hZ : Z.Warmed39 s.vm) {own : String} {index : Nat} {y : MethodName} {bytes : ByteArray} {maxL : Nat} {ret : Option FieldType} {rm : Room} {as' : Array Value} {Q : Option Value → Heap → List Loc → Prop} (hown : s.vm.findClass own = some m.cls)
    (w1 : (Cond.methodLink own index y).before a0 Z = true) (w2 : (Cond.static y).before a0 Z = true) (w3 : (Cond.initialized y.cls).before a0 Z = true) (w4 : (Cond.code y bytes maxL ret).before a0 Z = true) (hy : y.cls ≠ "java/lang/invoke/MethodHandle" ∧ y.cls ≠ "java/lang/invoke/VarHandle")
    (hM : MetFree l y (head1 [Cond.code y bytes maxL ret] rm) (fun a U => a = as' ∧ Z.Warmed39 U.vm ∧ U.heap = h) (fun _ _ _ _ _ => True) (fun _ U o U' => ∃ v L, o = .returned v ∧ Q v U'.heap L ∧ FrameEnd U o U' L rm.cells rm.slots)) (eT : T.heap = h)
    (W : Nat) (hf : rm.frames + 1 ≤ R.frames) (hl : W + (maxL + 11) + rm.locals ≤ R.locals) (hc : cells + rm.cells ≤ R.cells) (hs : slots + rm.slots ≤ R.slots) {g : JFrame} (hg : g.method = m) (hsize : g.locals.size = c.maxLocals) {argsL rest : List Value} (hlen : ∀ sig, parseMethodDescriptor y.desc = some sig → argsL.length = sig.parameters.length)
    (hstack : g.stack = argsL.reverse ++ rest) (has : argsL.toArray = as') (hW : 2 * g.monitorRoom + (rest.map fun v => v.category).sum ≤ W) (hdg : decode c.code g.pc = .ok (.invokestatic index, 3)) :
    ∃ (v : Option Value) (T' : State) (L : List Loc), Stand p l e R s m args below meth c T' (locs ++ L) (cells + rm.cells) (slots + rm.slots) ∧ Q v T'.heap L ∧ ∀ target, Steps p.tables e below (T'.setTop { g with pc := g.pc + 3, stack := v.toList ++ rest }) target → Steps p.tables e below (T.setTop g) target := by
  obtain ⟨v, vm₁, ⟨T', L', k', n'⟩, -, X', ⟨L, hQ, l', y', z'⟩, st⟩ := Jvm.LawKit.callS X hx hown (mvT hZ w1) (mvT hZ w2) (mvT hZ w3) (mvT hZ w4) hy (backOf (W := W) hM hZ w4 w3 hf hl) hg hsize hlen hstack hW hdg (fun _ _ => ⟨has, eT, hc, hs⟩)
  dsimp only [Pt.U, Pt.locs, Pt.cells, Pt.slots] at X' l' y' z' st hQ
  subst l' y' z'
  exact ⟨v, T', L, X', hQ, st⟩
theorem ownCallV (X : Stand p l e R s m args below meth c T locs cells slots) (hx : p.tables.exec = Jvm.exec) (hZ : Z.Warmed39 s.vm) {own C : String} {index : Nat} {y : MethodName} {bytes : ByteArray} {maxL : Nat} {ret : Option FieldType} {rm : Room} {as' : Array Value} {Q : Option Value → Heap → List Loc → Prop} (hown : s.vm.findClass own = some m.cls)
    (w1 : (Cond.methodLink own index y).before a0 Z = true) (w2 : (Cond.declares y).before a0 Z = true) (w5 : (Cond.selects C y y).before a0 Z = true) (w6 : (Cond.instanceMethod y).before a0 Z = true) (w3 : (Cond.initialized y.cls).before a0 Z = true) (w4 : (Cond.code y bytes maxL ret).before a0 Z = true) (hy : y.cls ≠ "java/lang/invoke/MethodHandle" ∧ y.cls ≠ "java/lang/invoke/VarHandle")
    (hM : MetFree l y (head1 [Cond.code y bytes maxL ret] rm) (fun a U => a = as' ∧ Z.Warmed39 U.vm ∧ U.heap = h) (fun _ _ _ _ _ => True) (fun _ U o U' => ∃ v L, o = .returned v ∧ Q v U'.heap L ∧ FrameEnd U o U' L rm.cells rm.slots)) (eT : T.heap = h) {b : Addr} (E : Exa Z h b C)
    (W : Nat) (hf : rm.frames + 1 ≤ R.frames) (hl : W + (maxL + 11) + rm.locals ≤ R.locals) (hc : cells + rm.cells ≤ R.cells) (hs : slots + rm.slots ≤ R.slots) {g : JFrame} (hg : g.method = m) (hsize : g.locals.size = c.maxLocals) {argsL rest : List Value} (hlen : ∀ sig, parseMethodDescriptor y.desc = some sig → argsL.length = sig.parameters.length)
    (hstack : g.stack = argsL.reverse ++ .ref b :: rest) (has : (.ref b :: argsL).toArray = as') (hW : 2 * g.monitorRoom + (rest.map fun v => v.category).sum ≤ W) (hdg : decode c.code g.pc = .ok (.invokevirtual index, 3)) :
    ∃ (v : Option Value) (T' : State) (L : List Loc), Stand p l e R s m args below meth c T' (locs ++ L) (cells + rm.cells) (slots + rm.slots) ∧ Q v T'.heap L ∧ ∀ target, Steps p.tables e below (T'.setTop { g with pc := g.pc + 3, stack := v.toList ++ rest }) target → Steps p.tables e below (T.setTop g) target := by
  obtain ⟨cq, kq, qa, qb, qc⟩ := isOf hZ eT E
  obtain ⟨v, vm₁, ⟨T', L', k', n'⟩, -, X', ⟨L, hQ, l', y', z'⟩, st⟩ := X.virtualBack hx hown (mvT hZ w1) (mvT hZ w2) (notFace_of_selects (args := #[]) (mvT hZ w5)) (mvT hZ w5) (mvT hZ w6) hy (backOf (W := W) hM hZ w4 w3 hf hl) qa qc hg hsize (Steps.refl _) hlen hstack hW hdg (fun _ _ => ⟨has, eT, hc, hs⟩)
  dsimp only [Pt.U, Pt.locs, Pt.cells, Pt.slots] at X' l' y' z' st hQ
  subst l' y' z'
  exact ⟨v, T', L, X', hQ, fun _ k => st.trans k⟩
theorem ownCallI (X : Stand p l e R s m args below meth c T locs cells slots) (hx : p.tables.exec = Jvm.exec) (hZ : Z.Warmed39 s.vm) {own : String} {index : Nat} {y : MethodName} {bytes : ByteArray} {maxL : Nat} {rm : Room} {as' : Array Value} {Q : Option Value → Heap → List Loc → Prop} (hown : s.vm.findClass own = some m.cls) (hy1 : y.name = "<init>")
    (w1 : (Cond.methodLink own index y).before a0 Z = true) (w6 : (Cond.instanceMethod y).before a0 Z = true) (w3 : (Cond.initialized y.cls).before a0 Z = true) (w4 : (Cond.code y bytes maxL none).before a0 Z = true) (hy : y.cls ≠ "java/lang/invoke/MethodHandle" ∧ y.cls ≠ "java/lang/invoke/VarHandle")
    (hM : MetFree l y (head1 [Cond.code y bytes maxL none] rm) (fun a U => a = as' ∧ Z.Warmed39 U.vm ∧ U.heap = h) (fun _ _ _ _ _ => True) (fun _ U o U' => ∃ v L, o = .returned v ∧ Q v U'.heap L ∧ FrameEnd U o U' L rm.cells rm.slots)) (eT : T.heap = h) {b : Addr}
    (W : Nat) (hf : rm.frames + 1 ≤ R.frames) (hl : W + (maxL + 11) + rm.locals ≤ R.locals) (hc : cells + rm.cells ≤ R.cells) (hs : slots + rm.slots ≤ R.slots) {g : JFrame} (hg : g.method = m) (hsize : g.locals.size = c.maxLocals) {argsL rest : List Value} (hlen : ∀ sig, parseMethodDescriptor y.desc = some sig → argsL.length = sig.parameters.length)
    (hstack : g.stack = argsL.reverse ++ .ref b :: rest) (has : (.ref b :: argsL).toArray = as') (hW : 2 * g.monitorRoom + (rest.map fun v => v.category).sum ≤ W) (hdg : decode c.code g.pc = .ok (.invokespecial index, 3)) :
    ∃ (v : Option Value) (T' : State) (L : List Loc), Stand p l e R s m args below meth c T' (locs ++ L) (cells + rm.cells) (slots + rm.slots) ∧ Q v T'.heap L ∧ ∀ target, Steps p.tables e below (T'.setTop { g with pc := g.pc + 3, stack := v.toList ++ rest }) target → Steps p.tables e below (T.setTop g) target := by
  obtain ⟨v, vm₁, ⟨T', L', k', n'⟩, -, X', ⟨L, hQ, l', y', z'⟩, st⟩ := X.specialBack hx hy1 hown (mvT hZ w1) (mvT hZ w6) (mvT hZ w4) hy (backOf (W := W) hM hZ w4 w3 hf hl) hg hsize (Steps.refl _) hlen hstack hW hdg (fun _ _ => ⟨has, eT, hc, hs⟩)
  dsimp only [Pt.U, Pt.locs, Pt.cells, Pt.slots] at X' l' y' z' st hQ
  subst l' y' z'
  exact ⟨v, T', L, X', hQ, fun _ k => st.trans k⟩
end Own
section Own2
variable {p : Program} {l : Launch} {e : Env} {R : Room} {s : State} {m : MethodId} {args : Array Value} {below : List Frame} {meth : Method} {c : Code} {T : State} {locs : List Loc} {cells slots : Nat} {Z : State} {a0 : Array Value} {h : Heap}
/-- branches behind lcmp -/
theorem ownLt {x y : Int64} (q : x < y) : ifCond.holds .lt (lcmpW x y) = true ∧ ifCond.holds .ge (lcmpW x y) = false ∧ ifCond.holds .gt (lcmpW y x) = true ∧ ifCond.holds .le (lcmpW y x) = false := by
  simp only [if0]
  have h1 : lcmpW x y < 0 := by rw [lcW]; exact (lc_lt x y).2 q
  have h2 : 0 < lcmpW y x := by rw [lcW]; exact (lc_gt y x).2 q
  exact ⟨(tlt h1).1, (tlt h1).2.1, (tlt h2).2.2.1, (tlt h2).2.2.2⟩
theorem ownNlt {x y : Int64} (q : ¬ x < y) : ifCond.holds .lt (lcmpW x y) = false ∧ ifCond.holds .ge (lcmpW x y) = true ∧ ifCond.holds .gt (lcmpW y x) = false ∧ ifCond.holds .le (lcmpW y x) = true := by
  simp only [if0]
  have h1 : ¬ lcmpW x y < 0 := by rw [lcW]; exact fun z => q ((lc_lt x y).1 z)
  have h2 : ¬ 0 < lcmpW y x := by rw [lcW]; exact fun z => q ((lc_gt y x).1 z)
  exact ⟨(flt h1).1, (flt h1).2.1, (flt h2).2.2.1, (flt h2).2.2.2⟩
theorem ownEq {x y : Int64} (q : x = y) : ifCond.holds .eq (lcmpW x y) = true ∧ ifCond.holds .ne (lcmpW x y) = false := by
  simp only [if0]
  have h1 : lcmpW x y = 0 := by rw [lcW]; exact (lc_eq x y).2 q
  exact teq h1
theorem ownNeq {x y : Int64} (q : ¬ x = y) : ifCond.holds .eq (lcmpW x y) = false ∧ ifCond.holds .ne (lcmpW x y) = true := by
  simp only [if0]
  have h1 : ¬ lcmpW x y = 0 := by rw [lcW]; exact fun z => q ((lc_eq x y).1 z)
  exact feq h1
theorem ownLrem {tb : Tables} [Ours tb] {e : Env} {below : List Frame} {T target : State} {m : MethodId} {c : Code} {g : JFrame} (h : At T m c below) (hx : tb.exec = Jvm.exec) (hg : g.method = m) {x y : Int64} {rest : List Value} (hd : decode c.code g.pc = .ok (.lrem, 1)) (hs : g.stack = .long y :: .long x :: rest) (hy : y ≠ 0)
    (hr : Steps tb e below (T.setTop { g with pc := g.pc + 1, stack := .long (x % y) :: rest }) target) : Steps tb e below (T.setTop g) target :=
  XS.lrem h hx hg hd hs hy (by rw [lrem_mod]; exact hr)
theorem ownLen (X : Stand p l e R s m args below meth c T locs cells slots) (hx : p.tables.exec = Jvm.exec) (hZ : Z.Warmed39 s.vm) (eT : T.heap = h) {a : Addr} {cl : Cell} {ty : FieldType} {z : Int32} (A : Arr Z h a cl ty) (S : cl.slots.size = z.toNatClampNeg) (q : ¬ z < 0) {g : JFrame} (hg : g.method = m) {rest : List Value} (hs : g.stack = .ref a :: rest) (hd : decode c.code g.pc = .ok (.arraylength, 1)) :
    ∀ target, Steps p.tables e below (T.setTop { g with pc := g.pc + 1, stack := .int z :: rest }) target → Steps p.tables e below (T.setTop g) target := fun target k =>
  X.arraylength hx (by rw [eT]; exact A.1) (State.isArrayOf_alike hZ.alike A.2.1) hg hs hd target (by rw [len_of S q]; exact k)
theorem ownOrd {C f d : String} {a : Addr} {v : Int32} {args : Array Value} (ev : (Term.static C f d).eval args Z none [] Z = some (.ref a)) (hq : (Jvm.Cond.eq (Term.field (Term.static C f d) "java/lang/Enum" "ordinal" "I") (Term.int v)).value args Z none Z [] = some true) : Fld Z Z.heap a "java/lang/Enum" "ordinal" "I" (.int v) := by
  obtain ⟨x, y, h1, h2, h3, h4⟩ := cmp_v (Or.inl hq)
  rw [fld_at ev] at h1
  cases h2
  obtain ⟨z, rfl⟩ := h4
  have h5 : (Term.field (Term.static C f d) "java/lang/Enum" "ordinal" "I").eval args Z none [] Z = some (.int z) := by rw [fld_at ev]; exact h1
  have : z = v := gotT (Cond.eq_ints h5 (Term.int_eval v)) hq
  subst this
  exact Fld.start h1
end Own2
section Own3
variable {p : Program} {l : Launch} {e : Env} {R : Room} {s : State} {m : MethodId} {args : Array Value} {below : List Frame} {meth : Method} {c : Code} {T : State} {locs : List Loc} {cells slots : Nat} {Z : State} {a0 : Array Value} {h : Heap}
/-- two ways that come to one place, the heap as it was -/
def ownDia {α : Type} (X : Stand p l e R s m args below meth c T locs cells slots) (h : Heap) (P : α → Prop) (f : α → JFrame) (g : JFrame) : Prop :=
  ∃ (T' : State) (v : α), Stand p l e R s m args below meth c T' locs cells slots ∧ T'.heap = h ∧ P v ∧ ∀ t, Steps p.tables e below (T'.setTop (f v)) t → Steps p.tables e below (T.setTop g) t
end Own3

def own_item (c : Int32) : Int32 := if (¬ c < 48 ∧ ¬ 57 < c) ∨ (¬ c < 65 ∧ ¬ 90 < c) ∨ (¬ c < 97 ∧ ¬ 122 < c) ∨ c = 95 then 1 else 0
def own_bit (w : Int64) (c : Int32) : Int64 := ((w.toUInt64 >>> ((c &&& (63 : Int32)) &&& 0x3f).toInt64.toUInt64).toInt64) &&& 1
def own_exp (c : Int32) : Int32 := if c < 128 then (if c < 64 then (if own_bit 287948901175001088 c = 0 then 0 else 1) else (if own_bit 576460745995190270 c = 0 then 0 else 1)) else 0
theorem own_small : ∀ i : Fin 128, own_item (Int32.ofNat i.1) = own_exp (Int32.ofNat i.1) := by decide +kernel
theorem own_plain (x : Int32) : own_item ((x &&& (65535 : Int32)).toUInt32.toUInt16.toUInt32.toInt32) = own_exp ((x &&& (65535 : Int32)).toUInt32.toUInt16.toUInt32.toInt32) := by
  have h := c_i2c (x &&& (65535 : Int32))
  generalize (x &&& (65535 : Int32)).toUInt32.toUInt16.toUInt32.toInt32 = c at h
  obtain ⟨-, h1, h2⟩ := h
  by_cases hc : c.toInt < 128
  · have e : c = Int32.ofNat c.toInt.toNat := by
      apply Int32.toInt_inj.mp
      rw [Int32.toInt_ofNat_of_lt (by omega)]
      omega
    rw [e]
    exact own_small ⟨c.toInt.toNat, by omega⟩
  · have n0 : ¬ c < 128 := by rw [Int32.lt_iff_toInt_lt]; exact hc
    have n1 : (57 : Int32) < c := by rw [Int32.lt_iff_toInt_lt]; show (57 : Int) < _; omega
    have n2 : (90 : Int32) < c := by rw [Int32.lt_iff_toInt_lt]; show (90 : Int) < _; omega
    have n3 : (122 : Int32) < c := by rw [Int32.lt_iff_toInt_lt]; show (122 : Int) < _; omega
    have n4 : ¬ c = 95 := by intro q; rw [q] at hc; exact hc (by decide)
    unfold own_item own_exp
    rw [if_neg n0, if_neg]
    rintro (q | q | q | q)
    · exact q.2 n1
    · exact q.2 n2
    · exact q.2 n3
    · exact n4 q

theorem d1_0 : decode prog_71_method_4_code 0 = .ok (.iload_n 0, 1) := by decide +kernel
theorem d1_1 : decode prog_71_method_4_code 1 = .ok (.bipush 48, 2) := by decide +kernel
theorem d1_3 : decode prog_71_method_4_code 3 = .ok (.if_icmp .lt 9, 3) := by decide +kernel
theorem d1_6 : decode prog_71_method_4_code 6 = .ok (.iload_n 0, 1) := by decide +kernel
theorem d1_7 : decode prog_71_method_4_code 7 = .ok (.bipush 57, 2) := by decide +kernel
theorem d1_9 : decode prog_71_method_4_code 9 = .ok (.if_icmp .le 33, 3) := by decide +kernel
theorem d1_12 : decode prog_71_method_4_code 12 = .ok (.iload_n 0, 1) := by decide +kernel
theorem d1_13 : decode prog_71_method_4_code 13 = .ok (.bipush 65, 2) := by decide +kernel
theorem d1_15 : decode prog_71_method_4_code 15 = .ok (.if_icmp .lt 9, 3) := by decide +kernel
theorem d1_18 : decode prog_71_method_4_code 18 = .ok (.iload_n 0, 1) := by decide +kernel
theorem d1_19 : decode prog_71_method_4_code 19 = .ok (.bipush 90, 2) := by decide +kernel
theorem d1_21 : decode prog_71_method_4_code 21 = .ok (.if_icmp .le 21, 3) := by decide +kernel
theorem d1_24 : decode prog_71_method_4_code 24 = .ok (.iload_n 0, 1) := by decide +kernel
theorem d1_25 : decode prog_71_method_4_code 25 = .ok (.bipush 97, 2) := by decide +kernel
theorem d1_27 : decode prog_71_method_4_code 27 = .ok (.if_icmp .lt 9, 3) := by decide +kernel
theorem d1_30 : decode prog_71_method_4_code 30 = .ok (.iload_n 0, 1) := by decide +kernel
theorem d1_31 : decode prog_71_method_4_code 31 = .ok (.bipush 122, 2) := by decide +kernel
theorem d1_33 : decode prog_71_method_4_code 33 = .ok (.if_icmp .le 9, 3) := by decide +kernel
theorem d1_36 : decode prog_71_method_4_code 36 = .ok (.iload_n 0, 1) := by decide +kernel
theorem d1_37 : decode prog_71_method_4_code 37 = .ok (.bipush 95, 2) := by decide +kernel
theorem d1_39 : decode prog_71_method_4_code 39 = .ok (.if_icmp .ne 7, 3) := by decide +kernel
theorem d1_42 : decode prog_71_method_4_code 42 = .ok (.iconst 1, 1) := by decide +kernel
theorem d1_43 : decode prog_71_method_4_code 43 = .ok (.goto 4, 3) := by decide +kernel
theorem d1_46 : decode prog_71_method_4_code 46 = .ok (.iconst 0, 1) := by decide +kernel
theorem d1_47 : decode prog_71_method_4_code 47 = .ok (.ireturn, 1) := by decide +kernel
theorem pn_1 : plainName "com/example/isolation_anomaly_finder/isolationanomalyfinder/Step" = true := by first | (simp [plainName, overriddenIn]; done) | decide +kernel
theorem ef_1 (m : MethodId) (x0 : Int32) : entryFrame m #[(.int x0)] 1 = mkF m 0 #[.val (.int x0)] [] := by first | (simp [entryFrame, mkF, argsToLocals, Value.category]; done) | rfl
def Q1 (Z : State) (p1 : Int32) (h0 : Heap) (n0 : Nat) (v : Option Value) (h : Heap) (L : List Loc) : Prop := v = some (.int (own_item p1)) ∧ Fr n0 L ∧ h = h0
set_option maxRecDepth 65536 in
set_option maxHeartbeats 40000000 in
theorem rm1 (l : Launch) (Z : State) (a0 : Array Value) (hw : ∀ d ∈ tables_1, d.before a0 Z = true) (ws : List Jvm.Cond) (p1 : Int32) (h0 : Heap) (n0 : Nat) (Z0 : n0 ≤ h0.size) :
    MetFree l (⟨"com/example/isolation_anomaly_finder/isolationanomalyfinder/Step", "isItemCharacter", "(C)Z"⟩ : MethodName) (head1 (Jvm.Cond.code (⟨"com/example/isolation_anomaly_finder/isolationanomalyfinder/Step", "isItemCharacter", "(C)Z"⟩ : MethodName) prog_71_method_4_code 1 (some .boolean) :: ws) ({ frames := 0, cells := 0, slots := 0, locals := 0 } : Room)) (fun a U => a = #[(.int p1)] ∧ Z.Warmed39 U.vm ∧ U.heap = h0) (fun _ _ _ _ _ => True) (fun _ U o U' => ∃ v L, o = .returned v ∧ Q1 Z p1 h0 n0 v U'.heap L ∧ FrameEnd U o U' L ({ frames := 0, cells := 0, slots := 0, locals := 0 } : Room).cells ({ frames := 0, cells := 0, slots := 0, locals := 0 } : Room).slots) := by
  refine MetFree.of_bodySF (plainFor_of_name pn_1) hisR ?_
  intro p e s m args below meth c s₁ Bd hml0 hP hK
  obtain ⟨rfl, hZ, hh⟩ := hP
  have hx := Bd.exec
  have hby := Bd.bytes
  have hlk : meth.locks = false := Bd.notSynchronized
  have hret := Bd.returns
  have hml : c.maxLocals = 1 := hml0
  have hown : s.vm.findClass "com/example/isolation_anomaly_finder/isolationanomalyfinder/Step" = some m.cls := findClass_of_methodNamed Bd.named
  have hnm := (name_of_methodNamed Bd.named Bd.method).1
  have X0 : Stand p l e ({ frames := 0, cells := 0, slots := 0, locals := 0 } : Room) s m #[(.int p1)] below meth c s₁ [] 0 0 := Stand.of_body Bd
  have e0 : s₁.heap = h0 := by rw [← hh, Bd.state]; rfl
  have N0 := Fr.nil n0
  have K0 := Keep.refl h0 []
  show OwnEnd p e below s (Q1 Z p1 h0 n0) ({ frames := 0, cells := 0, slots := 0, locals := 0 } : Room).cells ({ frames := 0, cells := 0, slots := 0, locals := 0 } : Room).slots _
  refine OwnEnd.go (fun _ k => castTop (ef_1 m p1) k) ?_
  show OwnEnd p e below s _ _ _ (s₁.setTop (mkF m 0 #[.val (.int p1)] []))
  refine OwnEnd.go (fun _ k => XS.iloadN X0.here hx rfl (hb hby d1_0) rfl  k) ?_
  show OwnEnd p e below s _ _ _ (s₁.setTop (mkF m 1 #[.val (.int p1)] [(.int p1)]))
  refine OwnEnd.go (fun _ k => XS.bipush X0.here hx rfl (hb hby d1_1) k) ?_
  show OwnEnd p e below s _ _ _ (s₁.setTop (mkF m 3 #[.val (.int p1)] [(.int (48 : Int32)), (.int p1)]))
  by_cases hc1 : p1 < (48 : Int32)
  · refine OwnEnd.go (fun _ k => XS.icmpYes X0.here hx rfl (pc0 := 3) (pc' := 12) rfl (hb hby d1_3) rfl (tlt hc1).1 (by decide) (by decide) k) ?_
    show OwnEnd p e below s _ _ _ (s₁.setTop (mkF m 12 #[.val (.int p1)] []))
    refine OwnEnd.go (fun _ k => XS.iloadN X0.here hx rfl (hb hby d1_12) rfl  k) ?_
    show OwnEnd p e below s _ _ _ (s₁.setTop (mkF m 13 #[.val (.int p1)] [(.int p1)]))
    refine OwnEnd.go (fun _ k => XS.bipush X0.here hx rfl (hb hby d1_13) k) ?_
    show OwnEnd p e below s _ _ _ (s₁.setTop (mkF m 15 #[.val (.int p1)] [(.int (65 : Int32)), (.int p1)]))
    by_cases hc2 : p1 < (65 : Int32)
    · refine OwnEnd.go (fun _ k => XS.icmpYes X0.here hx rfl (pc0 := 15) (pc' := 24) rfl (hb hby d1_15) rfl (tlt hc2).1 (by decide) (by decide) k) ?_
      show OwnEnd p e below s _ _ _ (s₁.setTop (mkF m 24 #[.val (.int p1)] []))
      refine OwnEnd.go (fun _ k => XS.iloadN X0.here hx rfl (hb hby d1_24) rfl  k) ?_
      show OwnEnd p e below s _ _ _ (s₁.setTop (mkF m 25 #[.val (.int p1)] [(.int p1)]))
      refine OwnEnd.go (fun _ k => XS.bipush X0.here hx rfl (hb hby d1_25) k) ?_
      show OwnEnd p e below s _ _ _ (s₁.setTop (mkF m 27 #[.val (.int p1)] [(.int (97 : Int32)), (.int p1)]))
      by_cases hc3 : p1 < (97 : Int32)
      · refine OwnEnd.go (fun _ k => XS.icmpYes X0.here hx rfl (pc0 := 27) (pc' := 36) rfl (hb hby d1_27) rfl (tlt hc3).1 (by decide) (by decide) k) ?_
        show OwnEnd p e below s _ _ _ (s₁.setTop (mkF m 36 #[.val (.int p1)] []))
        refine OwnEnd.go (fun _ k => XS.iloadN X0.here hx rfl (hb hby d1_36) rfl  k) ?_
        show OwnEnd p e below s _ _ _ (s₁.setTop (mkF m 37 #[.val (.int p1)] [(.int p1)]))
        refine OwnEnd.go (fun _ k => XS.bipush X0.here hx rfl (hb hby d1_37) k) ?_
        show OwnEnd p e below s _ _ _ (s₁.setTop (mkF m 39 #[.val (.int p1)] [(.int (95 : Int32)), (.int p1)]))
        by_cases hc4 : p1 = (95 : Int32)
        · refine OwnEnd.go (fun _ k => XS.icmpNo X0.here hx rfl (hb hby d1_39) rfl (teq hc4).2 k) ?_
          show OwnEnd p e below s _ _ _ (s₁.setTop (mkF m 42 #[.val (.int p1)] []))
          refine OwnEnd.go (fun _ k => XS.iconst X0.here hx rfl (hb hby d1_42) k) ?_
          show OwnEnd p e below s _ _ _ (s₁.setTop (mkF m 43 #[.val (.int p1)] [(.int (1 : Int32))]))
          refine OwnEnd.go (fun _ k => XS.goto X0.here hx rfl (pc0 := 43) (pc' := 47) rfl (hb hby d1_43) (by decide) (by decide) k) ?_
          show OwnEnd p e below s _ _ _ (s₁.setTop (mkF m 47 #[.val (.int p1)] [(.int (1 : Int32))]))
          refine ownRetZ X0 hx hlk hret (hb hby d1_47) (by decide) (by decide) (1 : Int32) (by decide) ?_
          show Q1 Z p1 h0 n0 _ s₁.heap _
          rw [e0]
          refine ⟨?_, N0, rfl⟩
          simp [own_item, hc1, hc2, hc3, hc4]
        · refine OwnEnd.go (fun _ k => XS.icmpYes X0.here hx rfl (pc0 := 39) (pc' := 46) rfl (hb hby d1_39) rfl (feq hc4).2 (by decide) (by decide) k) ?_
          show OwnEnd p e below s _ _ _ (s₁.setTop (mkF m 46 #[.val (.int p1)] []))
          refine OwnEnd.go (fun _ k => XS.iconst X0.here hx rfl (hb hby d1_46) k) ?_
          show OwnEnd p e below s _ _ _ (s₁.setTop (mkF m 47 #[.val (.int p1)] [(.int (0 : Int32))]))
          refine ownRetZ X0 hx hlk hret (hb hby d1_47) (by decide) (by decide) (0 : Int32) (by decide) ?_
          show Q1 Z p1 h0 n0 _ s₁.heap _
          rw [e0]
          refine ⟨?_, N0, rfl⟩
          simp [own_item, hc1, hc2, hc3, hc4]
      · refine OwnEnd.go (fun _ k => XS.icmpNo X0.here hx rfl (hb hby d1_27) rfl (flt hc3).1 k) ?_
        show OwnEnd p e below s _ _ _ (s₁.setTop (mkF m 30 #[.val (.int p1)] []))
        refine OwnEnd.go (fun _ k => XS.iloadN X0.here hx rfl (hb hby d1_30) rfl  k) ?_
        show OwnEnd p e below s _ _ _ (s₁.setTop (mkF m 31 #[.val (.int p1)] [(.int p1)]))
        refine OwnEnd.go (fun _ k => XS.bipush X0.here hx rfl (hb hby d1_31) k) ?_
        show OwnEnd p e below s _ _ _ (s₁.setTop (mkF m 33 #[.val (.int p1)] [(.int (122 : Int32)), (.int p1)]))
        by_cases hc5 : (122 : Int32) < p1
        · refine OwnEnd.go (fun _ k => XS.icmpNo X0.here hx rfl (hb hby d1_33) rfl (tlt hc5).2.2.2 k) ?_
          show OwnEnd p e below s _ _ _ (s₁.setTop (mkF m 36 #[.val (.int p1)] []))
          refine OwnEnd.go (fun _ k => XS.iloadN X0.here hx rfl (hb hby d1_36) rfl  k) ?_
          show OwnEnd p e below s _ _ _ (s₁.setTop (mkF m 37 #[.val (.int p1)] [(.int p1)]))
          refine OwnEnd.go (fun _ k => XS.bipush X0.here hx rfl (hb hby d1_37) k) ?_
          show OwnEnd p e below s _ _ _ (s₁.setTop (mkF m 39 #[.val (.int p1)] [(.int (95 : Int32)), (.int p1)]))
          by_cases hc6 : p1 = (95 : Int32)
          · refine OwnEnd.go (fun _ k => XS.icmpNo X0.here hx rfl (hb hby d1_39) rfl (teq hc6).2 k) ?_
            show OwnEnd p e below s _ _ _ (s₁.setTop (mkF m 42 #[.val (.int p1)] []))
            refine OwnEnd.go (fun _ k => XS.iconst X0.here hx rfl (hb hby d1_42) k) ?_
            show OwnEnd p e below s _ _ _ (s₁.setTop (mkF m 43 #[.val (.int p1)] [(.int (1 : Int32))]))
            refine OwnEnd.go (fun _ k => XS.goto X0.here hx rfl (pc0 := 43) (pc' := 47) rfl (hb hby d1_43) (by decide) (by decide) k) ?_
            show OwnEnd p e below s _ _ _ (s₁.setTop (mkF m 47 #[.val (.int p1)] [(.int (1 : Int32))]))
            refine ownRetZ X0 hx hlk hret (hb hby d1_47) (by decide) (by decide) (1 : Int32) (by decide) ?_
            show Q1 Z p1 h0 n0 _ s₁.heap _
            rw [e0]
            refine ⟨?_, N0, rfl⟩
            simp [own_item, hc1, hc2, hc3, hc5, hc6]
          · refine OwnEnd.go (fun _ k => XS.icmpYes X0.here hx rfl (pc0 := 39) (pc' := 46) rfl (hb hby d1_39) rfl (feq hc6).2 (by decide) (by decide) k) ?_
            show OwnEnd p e below s _ _ _ (s₁.setTop (mkF m 46 #[.val (.int p1)] []))
            refine OwnEnd.go (fun _ k => XS.iconst X0.here hx rfl (hb hby d1_46) k) ?_
            show OwnEnd p e below s _ _ _ (s₁.setTop (mkF m 47 #[.val (.int p1)] [(.int (0 : Int32))]))
            refine ownRetZ X0 hx hlk hret (hb hby d1_47) (by decide) (by decide) (0 : Int32) (by decide) ?_
            show Q1 Z p1 h0 n0 _ s₁.heap _
            rw [e0]
            refine ⟨?_, N0, rfl⟩
            simp [own_item, hc1, hc2, hc3, hc5, hc6]
        · refine OwnEnd.go (fun _ k => XS.icmpYes X0.here hx rfl (pc0 := 33) (pc' := 42) rfl (hb hby d1_33) rfl (flt hc5).2.2.2 (by decide) (by decide) k) ?_
          show OwnEnd p e below s _ _ _ (s₁.setTop (mkF m 42 #[.val (.int p1)] []))
          refine OwnEnd.go (fun _ k => XS.iconst X0.here hx rfl (hb hby d1_42) k) ?_
          show OwnEnd p e below s _ _ _ (s₁.setTop (mkF m 43 #[.val (.int p1)] [(.int (1 : Int32))]))
          refine OwnEnd.go (fun _ k => XS.goto X0.here hx rfl (pc0 := 43) (pc' := 47) rfl (hb hby d1_43) (by decide) (by decide) k) ?_
          show OwnEnd p e below s _ _ _ (s₁.setTop (mkF m 47 #[.val (.int p1)] [(.int (1 : Int32))]))
          refine ownRetZ X0 hx hlk hret (hb hby d1_47) (by decide) (by decide) (1 : Int32) (by decide) ?_
          show Q1 Z p1 h0 n0 _ s₁.heap _
          rw [e0]
          refine ⟨?_, N0, rfl⟩
          simp [own_item, hc1, hc2, hc3, hc5]
    · refine OwnEnd.go (fun _ k => XS.icmpNo X0.here hx rfl (hb hby d1_15) rfl (flt hc2).1 k) ?_
      show OwnEnd p e below s _ _ _ (s₁.setTop (mkF m 18 #[.val (.int p1)] []))
      refine OwnEnd.go (fun _ k => XS.iloadN X0.here hx rfl (hb hby d1_18) rfl  k) ?_
      show OwnEnd p e below s _ _ _ (s₁.setTop (mkF m 19 #[.val (.int p1)] [(.int p1)]))
      refine OwnEnd.go (fun _ k => XS.bipush X0.here hx rfl (hb hby d1_19) k) ?_
      show OwnEnd p e below s _ _ _ (s₁.setTop (mkF m 21 #[.val (.int p1)] [(.int (90 : Int32)), (.int p1)]))
      by_cases hc7 : (90 : Int32) < p1
      · refine OwnEnd.go (fun _ k => XS.icmpNo X0.here hx rfl (hb hby d1_21) rfl (tlt hc7).2.2.2 k) ?_
        show OwnEnd p e below s _ _ _ (s₁.setTop (mkF m 24 #[.val (.int p1)] []))
        refine OwnEnd.go (fun _ k => XS.iloadN X0.here hx rfl (hb hby d1_24) rfl  k) ?_
        show OwnEnd p e below s _ _ _ (s₁.setTop (mkF m 25 #[.val (.int p1)] [(.int p1)]))
        refine OwnEnd.go (fun _ k => XS.bipush X0.here hx rfl (hb hby d1_25) k) ?_
        show OwnEnd p e below s _ _ _ (s₁.setTop (mkF m 27 #[.val (.int p1)] [(.int (97 : Int32)), (.int p1)]))
        by_cases hc8 : p1 < (97 : Int32)
        · refine OwnEnd.go (fun _ k => XS.icmpYes X0.here hx rfl (pc0 := 27) (pc' := 36) rfl (hb hby d1_27) rfl (tlt hc8).1 (by decide) (by decide) k) ?_
          show OwnEnd p e below s _ _ _ (s₁.setTop (mkF m 36 #[.val (.int p1)] []))
          refine OwnEnd.go (fun _ k => XS.iloadN X0.here hx rfl (hb hby d1_36) rfl  k) ?_
          show OwnEnd p e below s _ _ _ (s₁.setTop (mkF m 37 #[.val (.int p1)] [(.int p1)]))
          refine OwnEnd.go (fun _ k => XS.bipush X0.here hx rfl (hb hby d1_37) k) ?_
          show OwnEnd p e below s _ _ _ (s₁.setTop (mkF m 39 #[.val (.int p1)] [(.int (95 : Int32)), (.int p1)]))
          by_cases hc9 : p1 = (95 : Int32)
          · refine OwnEnd.go (fun _ k => XS.icmpNo X0.here hx rfl (hb hby d1_39) rfl (teq hc9).2 k) ?_
            show OwnEnd p e below s _ _ _ (s₁.setTop (mkF m 42 #[.val (.int p1)] []))
            refine OwnEnd.go (fun _ k => XS.iconst X0.here hx rfl (hb hby d1_42) k) ?_
            show OwnEnd p e below s _ _ _ (s₁.setTop (mkF m 43 #[.val (.int p1)] [(.int (1 : Int32))]))
            refine OwnEnd.go (fun _ k => XS.goto X0.here hx rfl (pc0 := 43) (pc' := 47) rfl (hb hby d1_43) (by decide) (by decide) k) ?_
            show OwnEnd p e below s _ _ _ (s₁.setTop (mkF m 47 #[.val (.int p1)] [(.int (1 : Int32))]))
            refine ownRetZ X0 hx hlk hret (hb hby d1_47) (by decide) (by decide) (1 : Int32) (by decide) ?_
            show Q1 Z p1 h0 n0 _ s₁.heap _
            rw [e0]
            refine ⟨?_, N0, rfl⟩
            simp [own_item, hc1, hc2, hc7, hc8, hc9]
          · refine OwnEnd.go (fun _ k => XS.icmpYes X0.here hx rfl (pc0 := 39) (pc' := 46) rfl (hb hby d1_39) rfl (feq hc9).2 (by decide) (by decide) k) ?_
            show OwnEnd p e below s _ _ _ (s₁.setTop (mkF m 46 #[.val (.int p1)] []))
            refine OwnEnd.go (fun _ k => XS.iconst X0.here hx rfl (hb hby d1_46) k) ?_
            show OwnEnd p e below s _ _ _ (s₁.setTop (mkF m 47 #[.val (.int p1)] [(.int (0 : Int32))]))
            refine ownRetZ X0 hx hlk hret (hb hby d1_47) (by decide) (by decide) (0 : Int32) (by decide) ?_
            show Q1 Z p1 h0 n0 _ s₁.heap _
            rw [e0]
            refine ⟨?_, N0, rfl⟩
            simp [own_item, hc1, hc2, hc7, hc8, hc9]
        · refine OwnEnd.go (fun _ k => XS.icmpNo X0.here hx rfl (hb hby d1_27) rfl (flt hc8).1 k) ?_
          show OwnEnd p e below s _ _ _ (s₁.setTop (mkF m 30 #[.val (.int p1)] []))
          refine OwnEnd.go (fun _ k => XS.iloadN X0.here hx rfl (hb hby d1_30) rfl  k) ?_
          show OwnEnd p e below s _ _ _ (s₁.setTop (mkF m 31 #[.val (.int p1)] [(.int p1)]))
          refine OwnEnd.go (fun _ k => XS.bipush X0.here hx rfl (hb hby d1_31) k) ?_
          show OwnEnd p e below s _ _ _ (s₁.setTop (mkF m 33 #[.val (.int p1)] [(.int (122 : Int32)), (.int p1)]))
          by_cases hc10 : (122 : Int32) < p1
          · refine OwnEnd.go (fun _ k => XS.icmpNo X0.here hx rfl (hb hby d1_33) rfl (tlt hc10).2.2.2 k) ?_
            show OwnEnd p e below s _ _ _ (s₁.setTop (mkF m 36 #[.val (.int p1)] []))
            refine OwnEnd.go (fun _ k => XS.iloadN X0.here hx rfl (hb hby d1_36) rfl  k) ?_
            show OwnEnd p e below s _ _ _ (s₁.setTop (mkF m 37 #[.val (.int p1)] [(.int p1)]))
            refine OwnEnd.go (fun _ k => XS.bipush X0.here hx rfl (hb hby d1_37) k) ?_
            show OwnEnd p e below s _ _ _ (s₁.setTop (mkF m 39 #[.val (.int p1)] [(.int (95 : Int32)), (.int p1)]))
            by_cases hc11 : p1 = (95 : Int32)
            · refine OwnEnd.go (fun _ k => XS.icmpNo X0.here hx rfl (hb hby d1_39) rfl (teq hc11).2 k) ?_
              show OwnEnd p e below s _ _ _ (s₁.setTop (mkF m 42 #[.val (.int p1)] []))
              refine OwnEnd.go (fun _ k => XS.iconst X0.here hx rfl (hb hby d1_42) k) ?_
              show OwnEnd p e below s _ _ _ (s₁.setTop (mkF m 43 #[.val (.int p1)] [(.int (1 : Int32))]))
              refine OwnEnd.go (fun _ k => XS.goto X0.here hx rfl (pc0 := 43) (pc' := 47) rfl (hb hby d1_43) (by decide) (by decide) k) ?_
              show OwnEnd p e below s _ _ _ (s₁.setTop (mkF m 47 #[.val (.int p1)] [(.int (1 : Int32))]))
              refine ownRetZ X0 hx hlk hret (hb hby d1_47) (by decide) (by decide) (1 : Int32) (by decide) ?_
              show Q1 Z p1 h0 n0 _ s₁.heap _
              rw [e0]
              refine ⟨?_, N0, rfl⟩
              simp [own_item, hc1, hc2, hc7, hc8, hc10, hc11]
            · refine OwnEnd.go (fun _ k => XS.icmpYes X0.here hx rfl (pc0 := 39) (pc' := 46) rfl (hb hby d1_39) rfl (feq hc11).2 (by decide) (by decide) k) ?_
              show OwnEnd p e below s _ _ _ (s₁.setTop (mkF m 46 #[.val (.int p1)] []))
              refine OwnEnd.go (fun _ k => XS.iconst X0.here hx rfl (hb hby d1_46) k) ?_
              show OwnEnd p e below s _ _ _ (s₁.setTop (mkF m 47 #[.val (.int p1)] [(.int (0 : Int32))]))
              refine ownRetZ X0 hx hlk hret (hb hby d1_47) (by decide) (by decide) (0 : Int32) (by decide) ?_
              show Q1 Z p1 h0 n0 _ s₁.heap _
              rw [e0]
              refine ⟨?_, N0, rfl⟩
              simp [own_item, hc1, hc2, hc7, hc8, hc10, hc11]
          · refine OwnEnd.go (fun _ k => XS.icmpYes X0.here hx rfl (pc0 := 33) (pc' := 42) rfl (hb hby d1_33) rfl (flt hc10).2.2.2 (by decide) (by decide) k) ?_
            show OwnEnd p e below s _ _ _ (s₁.setTop (mkF m 42 #[.val (.int p1)] []))
            refine OwnEnd.go (fun _ k => XS.iconst X0.here hx rfl (hb hby d1_42) k) ?_
            show OwnEnd p e below s _ _ _ (s₁.setTop (mkF m 43 #[.val (.int p1)] [(.int (1 : Int32))]))
            refine OwnEnd.go (fun _ k => XS.goto X0.here hx rfl (pc0 := 43) (pc' := 47) rfl (hb hby d1_43) (by decide) (by decide) k) ?_
            show OwnEnd p e below s _ _ _ (s₁.setTop (mkF m 47 #[.val (.int p1)] [(.int (1 : Int32))]))
            refine ownRetZ X0 hx hlk hret (hb hby d1_47) (by decide) (by decide) (1 : Int32) (by decide) ?_
            show Q1 Z p1 h0 n0 _ s₁.heap _
            rw [e0]
            refine ⟨?_, N0, rfl⟩
            simp [own_item, hc1, hc2, hc7, hc8, hc10]
      · refine OwnEnd.go (fun _ k => XS.icmpYes X0.here hx rfl (pc0 := 21) (pc' := 42) rfl (hb hby d1_21) rfl (flt hc7).2.2.2 (by decide) (by decide) k) ?_
        show OwnEnd p e below s _ _ _ (s₁.setTop (mkF m 42 #[.val (.int p1)] []))
        refine OwnEnd.go (fun _ k => XS.iconst X0.here hx rfl (hb hby d1_42) k) ?_
        show OwnEnd p e below s _ _ _ (s₁.setTop (mkF m 43 #[.val (.int p1)] [(.int (1 : Int32))]))
        refine OwnEnd.go (fun _ k => XS.goto X0.here hx rfl (pc0 := 43) (pc' := 47) rfl (hb hby d1_43) (by decide) (by decide) k) ?_
        show OwnEnd p e below s _ _ _ (s₁.setTop (mkF m 47 #[.val (.int p1)] [(.int (1 : Int32))]))
        refine ownRetZ X0 hx hlk hret (hb hby d1_47) (by decide) (by decide) (1 : Int32) (by decide) ?_
        show Q1 Z p1 h0 n0 _ s₁.heap _
        rw [e0]
        refine ⟨?_, N0, rfl⟩
        simp [own_item, hc1, hc2, hc7]
  · refine OwnEnd.go (fun _ k => XS.icmpNo X0.here hx rfl (hb hby d1_3) rfl (flt hc1).1 k) ?_
    show OwnEnd p e below s _ _ _ (s₁.setTop (mkF m 6 #[.val (.int p1)] []))
    refine OwnEnd.go (fun _ k => XS.iloadN X0.here hx rfl (hb hby d1_6) rfl  k) ?_
    show OwnEnd p e below s _ _ _ (s₁.setTop (mkF m 7 #[.val (.int p1)] [(.int p1)]))
    refine OwnEnd.go (fun _ k => XS.bipush X0.here hx rfl (hb hby d1_7) k) ?_
    show OwnEnd p e below s _ _ _ (s₁.setTop (mkF m 9 #[.val (.int p1)] [(.int (57 : Int32)), (.int p1)]))
    by_cases hc12 : (57 : Int32) < p1
    · refine OwnEnd.go (fun _ k => XS.icmpNo X0.here hx rfl (hb hby d1_9) rfl (tlt hc12).2.2.2 k) ?_
      show OwnEnd p e below s _ _ _ (s₁.setTop (mkF m 12 #[.val (.int p1)] []))
      refine OwnEnd.go (fun _ k => XS.iloadN X0.here hx rfl (hb hby d1_12) rfl  k) ?_
      show OwnEnd p e below s _ _ _ (s₁.setTop (mkF m 13 #[.val (.int p1)] [(.int p1)]))
      refine OwnEnd.go (fun _ k => XS.bipush X0.here hx rfl (hb hby d1_13) k) ?_
      show OwnEnd p e below s _ _ _ (s₁.setTop (mkF m 15 #[.val (.int p1)] [(.int (65 : Int32)), (.int p1)]))
      by_cases hc13 : p1 < (65 : Int32)
      · refine OwnEnd.go (fun _ k => XS.icmpYes X0.here hx rfl (pc0 := 15) (pc' := 24) rfl (hb hby d1_15) rfl (tlt hc13).1 (by decide) (by decide) k) ?_
        show OwnEnd p e below s _ _ _ (s₁.setTop (mkF m 24 #[.val (.int p1)] []))
        refine OwnEnd.go (fun _ k => XS.iloadN X0.here hx rfl (hb hby d1_24) rfl  k) ?_
        show OwnEnd p e below s _ _ _ (s₁.setTop (mkF m 25 #[.val (.int p1)] [(.int p1)]))
        refine OwnEnd.go (fun _ k => XS.bipush X0.here hx rfl (hb hby d1_25) k) ?_
        show OwnEnd p e below s _ _ _ (s₁.setTop (mkF m 27 #[.val (.int p1)] [(.int (97 : Int32)), (.int p1)]))
        by_cases hc14 : p1 < (97 : Int32)
        · refine OwnEnd.go (fun _ k => XS.icmpYes X0.here hx rfl (pc0 := 27) (pc' := 36) rfl (hb hby d1_27) rfl (tlt hc14).1 (by decide) (by decide) k) ?_
          show OwnEnd p e below s _ _ _ (s₁.setTop (mkF m 36 #[.val (.int p1)] []))
          refine OwnEnd.go (fun _ k => XS.iloadN X0.here hx rfl (hb hby d1_36) rfl  k) ?_
          show OwnEnd p e below s _ _ _ (s₁.setTop (mkF m 37 #[.val (.int p1)] [(.int p1)]))
          refine OwnEnd.go (fun _ k => XS.bipush X0.here hx rfl (hb hby d1_37) k) ?_
          show OwnEnd p e below s _ _ _ (s₁.setTop (mkF m 39 #[.val (.int p1)] [(.int (95 : Int32)), (.int p1)]))
          by_cases hc15 : p1 = (95 : Int32)
          · refine OwnEnd.go (fun _ k => XS.icmpNo X0.here hx rfl (hb hby d1_39) rfl (teq hc15).2 k) ?_
            show OwnEnd p e below s _ _ _ (s₁.setTop (mkF m 42 #[.val (.int p1)] []))
            refine OwnEnd.go (fun _ k => XS.iconst X0.here hx rfl (hb hby d1_42) k) ?_
            show OwnEnd p e below s _ _ _ (s₁.setTop (mkF m 43 #[.val (.int p1)] [(.int (1 : Int32))]))
            refine OwnEnd.go (fun _ k => XS.goto X0.here hx rfl (pc0 := 43) (pc' := 47) rfl (hb hby d1_43) (by decide) (by decide) k) ?_
            show OwnEnd p e below s _ _ _ (s₁.setTop (mkF m 47 #[.val (.int p1)] [(.int (1 : Int32))]))
            refine ownRetZ X0 hx hlk hret (hb hby d1_47) (by decide) (by decide) (1 : Int32) (by decide) ?_
            show Q1 Z p1 h0 n0 _ s₁.heap _
            rw [e0]
            refine ⟨?_, N0, rfl⟩
            simp [own_item, hc1, hc12, hc13, hc14, hc15]
          · refine OwnEnd.go (fun _ k => XS.icmpYes X0.here hx rfl (pc0 := 39) (pc' := 46) rfl (hb hby d1_39) rfl (feq hc15).2 (by decide) (by decide) k) ?_
            show OwnEnd p e below s _ _ _ (s₁.setTop (mkF m 46 #[.val (.int p1)] []))
            refine OwnEnd.go (fun _ k => XS.iconst X0.here hx rfl (hb hby d1_46) k) ?_
            show OwnEnd p e below s _ _ _ (s₁.setTop (mkF m 47 #[.val (.int p1)] [(.int (0 : Int32))]))
            refine ownRetZ X0 hx hlk hret (hb hby d1_47) (by decide) (by decide) (0 : Int32) (by decide) ?_
            show Q1 Z p1 h0 n0 _ s₁.heap _
            rw [e0]
            refine ⟨?_, N0, rfl⟩
            simp [own_item, hc1, hc12, hc13, hc14, hc15]
        · refine OwnEnd.go (fun _ k => XS.icmpNo X0.here hx rfl (hb hby d1_27) rfl (flt hc14).1 k) ?_
          show OwnEnd p e below s _ _ _ (s₁.setTop (mkF m 30 #[.val (.int p1)] []))
          refine OwnEnd.go (fun _ k => XS.iloadN X0.here hx rfl (hb hby d1_30) rfl  k) ?_
          show OwnEnd p e below s _ _ _ (s₁.setTop (mkF m 31 #[.val (.int p1)] [(.int p1)]))
          refine OwnEnd.go (fun _ k => XS.bipush X0.here hx rfl (hb hby d1_31) k) ?_
          show OwnEnd p e below s _ _ _ (s₁.setTop (mkF m 33 #[.val (.int p1)] [(.int (122 : Int32)), (.int p1)]))
          by_cases hc16 : (122 : Int32) < p1
          · refine OwnEnd.go (fun _ k => XS.icmpNo X0.here hx rfl (hb hby d1_33) rfl (tlt hc16).2.2.2 k) ?_
            show OwnEnd p e below s _ _ _ (s₁.setTop (mkF m 36 #[.val (.int p1)] []))
            refine OwnEnd.go (fun _ k => XS.iloadN X0.here hx rfl (hb hby d1_36) rfl  k) ?_
            show OwnEnd p e below s _ _ _ (s₁.setTop (mkF m 37 #[.val (.int p1)] [(.int p1)]))
            refine OwnEnd.go (fun _ k => XS.bipush X0.here hx rfl (hb hby d1_37) k) ?_
            show OwnEnd p e below s _ _ _ (s₁.setTop (mkF m 39 #[.val (.int p1)] [(.int (95 : Int32)), (.int p1)]))
            by_cases hc17 : p1 = (95 : Int32)
            · refine OwnEnd.go (fun _ k => XS.icmpNo X0.here hx rfl (hb hby d1_39) rfl (teq hc17).2 k) ?_
              show OwnEnd p e below s _ _ _ (s₁.setTop (mkF m 42 #[.val (.int p1)] []))
              refine OwnEnd.go (fun _ k => XS.iconst X0.here hx rfl (hb hby d1_42) k) ?_
              show OwnEnd p e below s _ _ _ (s₁.setTop (mkF m 43 #[.val (.int p1)] [(.int (1 : Int32))]))
              refine OwnEnd.go (fun _ k => XS.goto X0.here hx rfl (pc0 := 43) (pc' := 47) rfl (hb hby d1_43) (by decide) (by decide) k) ?_
              show OwnEnd p e below s _ _ _ (s₁.setTop (mkF m 47 #[.val (.int p1)] [(.int (1 : Int32))]))
              refine ownRetZ X0 hx hlk hret (hb hby d1_47) (by decide) (by decide) (1 : Int32) (by decide) ?_
              show Q1 Z p1 h0 n0 _ s₁.heap _
              rw [e0]
              refine ⟨?_, N0, rfl⟩
              simp [own_item, hc1, hc12, hc13, hc14, hc16, hc17]
            · refine OwnEnd.go (fun _ k => XS.icmpYes X0.here hx rfl (pc0 := 39) (pc' := 46) rfl (hb hby d1_39) rfl (feq hc17).2 (by decide) (by decide) k) ?_
              show OwnEnd p e below s _ _ _ (s₁.setTop (mkF m 46 #[.val (.int p1)] []))
              refine OwnEnd.go (fun _ k => XS.iconst X0.here hx rfl (hb hby d1_46) k) ?_
              show OwnEnd p e below s _ _ _ (s₁.setTop (mkF m 47 #[.val (.int p1)] [(.int (0 : Int32))]))
              refine ownRetZ X0 hx hlk hret (hb hby d1_47) (by decide) (by decide) (0 : Int32) (by decide) ?_
              show Q1 Z p1 h0 n0 _ s₁.heap _
              rw [e0]
              refine ⟨?_, N0, rfl⟩
              simp [own_item, hc1, hc12, hc13, hc14, hc16, hc17]
          · refine OwnEnd.go (fun _ k => XS.icmpYes X0.here hx rfl (pc0 := 33) (pc' := 42) rfl (hb hby d1_33) rfl (flt hc16).2.2.2 (by decide) (by decide) k) ?_
            show OwnEnd p e below s _ _ _ (s₁.setTop (mkF m 42 #[.val (.int p1)] []))
            refine OwnEnd.go (fun _ k => XS.iconst X0.here hx rfl (hb hby d1_42) k) ?_
            show OwnEnd p e below s _ _ _ (s₁.setTop (mkF m 43 #[.val (.int p1)] [(.int (1 : Int32))]))
            refine OwnEnd.go (fun _ k => XS.goto X0.here hx rfl (pc0 := 43) (pc' := 47) rfl (hb hby d1_43) (by decide) (by decide) k) ?_
            show OwnEnd p e below s _ _ _ (s₁.setTop (mkF m 47 #[.val (.int p1)] [(.int (1 : Int32))]))
            refine ownRetZ X0 hx hlk hret (hb hby d1_47) (by decide) (by decide) (1 : Int32) (by decide) ?_
            show Q1 Z p1 h0 n0 _ s₁.heap _
            rw [e0]
            refine ⟨?_, N0, rfl⟩
            simp [own_item, hc1, hc12, hc13, hc14, hc16]
      · refine OwnEnd.go (fun _ k => XS.icmpNo X0.here hx rfl (hb hby d1_15) rfl (flt hc13).1 k) ?_
        show OwnEnd p e below s _ _ _ (s₁.setTop (mkF m 18 #[.val (.int p1)] []))
        refine OwnEnd.go (fun _ k => XS.iloadN X0.here hx rfl (hb hby d1_18) rfl  k) ?_
        show OwnEnd p e below s _ _ _ (s₁.setTop (mkF m 19 #[.val (.int p1)] [(.int p1)]))
        refine OwnEnd.go (fun _ k => XS.bipush X0.here hx rfl (hb hby d1_19) k) ?_
        show OwnEnd p e below s _ _ _ (s₁.setTop (mkF m 21 #[.val (.int p1)] [(.int (90 : Int32)), (.int p1)]))
        by_cases hc18 : (90 : Int32) < p1
        · refine OwnEnd.go (fun _ k => XS.icmpNo X0.here hx rfl (hb hby d1_21) rfl (tlt hc18).2.2.2 k) ?_
          show OwnEnd p e below s _ _ _ (s₁.setTop (mkF m 24 #[.val (.int p1)] []))
          refine OwnEnd.go (fun _ k => XS.iloadN X0.here hx rfl (hb hby d1_24) rfl  k) ?_
          show OwnEnd p e below s _ _ _ (s₁.setTop (mkF m 25 #[.val (.int p1)] [(.int p1)]))
          refine OwnEnd.go (fun _ k => XS.bipush X0.here hx rfl (hb hby d1_25) k) ?_
          show OwnEnd p e below s _ _ _ (s₁.setTop (mkF m 27 #[.val (.int p1)] [(.int (97 : Int32)), (.int p1)]))
          by_cases hc19 : p1 < (97 : Int32)
          · refine OwnEnd.go (fun _ k => XS.icmpYes X0.here hx rfl (pc0 := 27) (pc' := 36) rfl (hb hby d1_27) rfl (tlt hc19).1 (by decide) (by decide) k) ?_
            show OwnEnd p e below s _ _ _ (s₁.setTop (mkF m 36 #[.val (.int p1)] []))
            refine OwnEnd.go (fun _ k => XS.iloadN X0.here hx rfl (hb hby d1_36) rfl  k) ?_
            show OwnEnd p e below s _ _ _ (s₁.setTop (mkF m 37 #[.val (.int p1)] [(.int p1)]))
            refine OwnEnd.go (fun _ k => XS.bipush X0.here hx rfl (hb hby d1_37) k) ?_
            show OwnEnd p e below s _ _ _ (s₁.setTop (mkF m 39 #[.val (.int p1)] [(.int (95 : Int32)), (.int p1)]))
            by_cases hc20 : p1 = (95 : Int32)
            · refine OwnEnd.go (fun _ k => XS.icmpNo X0.here hx rfl (hb hby d1_39) rfl (teq hc20).2 k) ?_
              show OwnEnd p e below s _ _ _ (s₁.setTop (mkF m 42 #[.val (.int p1)] []))
              refine OwnEnd.go (fun _ k => XS.iconst X0.here hx rfl (hb hby d1_42) k) ?_
              show OwnEnd p e below s _ _ _ (s₁.setTop (mkF m 43 #[.val (.int p1)] [(.int (1 : Int32))]))
              refine OwnEnd.go (fun _ k => XS.goto X0.here hx rfl (pc0 := 43) (pc' := 47) rfl (hb hby d1_43) (by decide) (by decide) k) ?_
              show OwnEnd p e below s _ _ _ (s₁.setTop (mkF m 47 #[.val (.int p1)] [(.int (1 : Int32))]))
              refine ownRetZ X0 hx hlk hret (hb hby d1_47) (by decide) (by decide) (1 : Int32) (by decide) ?_
              show Q1 Z p1 h0 n0 _ s₁.heap _
              rw [e0]
              refine ⟨?_, N0, rfl⟩
              simp [own_item, hc1, hc12, hc13, hc18, hc19, hc20]
            · refine OwnEnd.go (fun _ k => XS.icmpYes X0.here hx rfl (pc0 := 39) (pc' := 46) rfl (hb hby d1_39) rfl (feq hc20).2 (by decide) (by decide) k) ?_
              show OwnEnd p e below s _ _ _ (s₁.setTop (mkF m 46 #[.val (.int p1)] []))
              refine OwnEnd.go (fun _ k => XS.iconst X0.here hx rfl (hb hby d1_46) k) ?_
              show OwnEnd p e below s _ _ _ (s₁.setTop (mkF m 47 #[.val (.int p1)] [(.int (0 : Int32))]))
              refine ownRetZ X0 hx hlk hret (hb hby d1_47) (by decide) (by decide) (0 : Int32) (by decide) ?_
              show Q1 Z p1 h0 n0 _ s₁.heap _
              rw [e0]
              refine ⟨?_, N0, rfl⟩
              simp [own_item, hc1, hc12, hc13, hc18, hc19, hc20]
          · refine OwnEnd.go (fun _ k => XS.icmpNo X0.here hx rfl (hb hby d1_27) rfl (flt hc19).1 k) ?_
            show OwnEnd p e below s _ _ _ (s₁.setTop (mkF m 30 #[.val (.int p1)] []))
            refine OwnEnd.go (fun _ k => XS.iloadN X0.here hx rfl (hb hby d1_30) rfl  k) ?_
            show OwnEnd p e below s _ _ _ (s₁.setTop (mkF m 31 #[.val (.int p1)] [(.int p1)]))
            refine OwnEnd.go (fun _ k => XS.bipush X0.here hx rfl (hb hby d1_31) k) ?_
            show OwnEnd p e below s _ _ _ (s₁.setTop (mkF m 33 #[.val (.int p1)] [(.int (122 : Int32)), (.int p1)]))
            by_cases hc21 : (122 : Int32) < p1
            · refine OwnEnd.go (fun _ k => XS.icmpNo X0.here hx rfl (hb hby d1_33) rfl (tlt hc21).2.2.2 k) ?_
              show OwnEnd p e below s _ _ _ (s₁.setTop (mkF m 36 #[.val (.int p1)] []))
              refine OwnEnd.go (fun _ k => XS.iloadN X0.here hx rfl (hb hby d1_36) rfl  k) ?_
              show OwnEnd p e below s _ _ _ (s₁.setTop (mkF m 37 #[.val (.int p1)] [(.int p1)]))
              refine OwnEnd.go (fun _ k => XS.bipush X0.here hx rfl (hb hby d1_37) k) ?_
              show OwnEnd p e below s _ _ _ (s₁.setTop (mkF m 39 #[.val (.int p1)] [(.int (95 : Int32)), (.int p1)]))
              by_cases hc22 : p1 = (95 : Int32)
              · refine OwnEnd.go (fun _ k => XS.icmpNo X0.here hx rfl (hb hby d1_39) rfl (teq hc22).2 k) ?_
                show OwnEnd p e below s _ _ _ (s₁.setTop (mkF m 42 #[.val (.int p1)] []))
                refine OwnEnd.go (fun _ k => XS.iconst X0.here hx rfl (hb hby d1_42) k) ?_
                show OwnEnd p e below s _ _ _ (s₁.setTop (mkF m 43 #[.val (.int p1)] [(.int (1 : Int32))]))
                refine OwnEnd.go (fun _ k => XS.goto X0.here hx rfl (pc0 := 43) (pc' := 47) rfl (hb hby d1_43) (by decide) (by decide) k) ?_
                show OwnEnd p e below s _ _ _ (s₁.setTop (mkF m 47 #[.val (.int p1)] [(.int (1 : Int32))]))
                refine ownRetZ X0 hx hlk hret (hb hby d1_47) (by decide) (by decide) (1 : Int32) (by decide) ?_
                show Q1 Z p1 h0 n0 _ s₁.heap _
                rw [e0]
                refine ⟨?_, N0, rfl⟩
                simp [own_item, hc1, hc12, hc13, hc18, hc19, hc21, hc22]
              · refine OwnEnd.go (fun _ k => XS.icmpYes X0.here hx rfl (pc0 := 39) (pc' := 46) rfl (hb hby d1_39) rfl (feq hc22).2 (by decide) (by decide) k) ?_
                show OwnEnd p e below s _ _ _ (s₁.setTop (mkF m 46 #[.val (.int p1)] []))
                refine OwnEnd.go (fun _ k => XS.iconst X0.here hx rfl (hb hby d1_46) k) ?_
                show OwnEnd p e below s _ _ _ (s₁.setTop (mkF m 47 #[.val (.int p1)] [(.int (0 : Int32))]))
                refine ownRetZ X0 hx hlk hret (hb hby d1_47) (by decide) (by decide) (0 : Int32) (by decide) ?_
                show Q1 Z p1 h0 n0 _ s₁.heap _
                rw [e0]
                refine ⟨?_, N0, rfl⟩
                simp [own_item, hc1, hc12, hc13, hc18, hc19, hc21, hc22]
            · refine OwnEnd.go (fun _ k => XS.icmpYes X0.here hx rfl (pc0 := 33) (pc' := 42) rfl (hb hby d1_33) rfl (flt hc21).2.2.2 (by decide) (by decide) k) ?_
              show OwnEnd p e below s _ _ _ (s₁.setTop (mkF m 42 #[.val (.int p1)] []))
              refine OwnEnd.go (fun _ k => XS.iconst X0.here hx rfl (hb hby d1_42) k) ?_
              show OwnEnd p e below s _ _ _ (s₁.setTop (mkF m 43 #[.val (.int p1)] [(.int (1 : Int32))]))
              refine OwnEnd.go (fun _ k => XS.goto X0.here hx rfl (pc0 := 43) (pc' := 47) rfl (hb hby d1_43) (by decide) (by decide) k) ?_
              show OwnEnd p e below s _ _ _ (s₁.setTop (mkF m 47 #[.val (.int p1)] [(.int (1 : Int32))]))
              refine ownRetZ X0 hx hlk hret (hb hby d1_47) (by decide) (by decide) (1 : Int32) (by decide) ?_
              show Q1 Z p1 h0 n0 _ s₁.heap _
              rw [e0]
              refine ⟨?_, N0, rfl⟩
              simp [own_item, hc1, hc12, hc13, hc18, hc19, hc21]
        · refine OwnEnd.go (fun _ k => XS.icmpYes X0.here hx rfl (pc0 := 21) (pc' := 42) rfl (hb hby d1_21) rfl (flt hc18).2.2.2 (by decide) (by decide) k) ?_
          show OwnEnd p e below s _ _ _ (s₁.setTop (mkF m 42 #[.val (.int p1)] []))
          refine OwnEnd.go (fun _ k => XS.iconst X0.here hx rfl (hb hby d1_42) k) ?_
          show OwnEnd p e below s _ _ _ (s₁.setTop (mkF m 43 #[.val (.int p1)] [(.int (1 : Int32))]))
          refine OwnEnd.go (fun _ k => XS.goto X0.here hx rfl (pc0 := 43) (pc' := 47) rfl (hb hby d1_43) (by decide) (by decide) k) ?_
          show OwnEnd p e below s _ _ _ (s₁.setTop (mkF m 47 #[.val (.int p1)] [(.int (1 : Int32))]))
          refine ownRetZ X0 hx hlk hret (hb hby d1_47) (by decide) (by decide) (1 : Int32) (by decide) ?_
          show Q1 Z p1 h0 n0 _ s₁.heap _
          rw [e0]
          refine ⟨?_, N0, rfl⟩
          simp [own_item, hc1, hc12, hc13, hc18]
    · refine OwnEnd.go (fun _ k => XS.icmpYes X0.here hx rfl (pc0 := 9) (pc' := 42) rfl (hb hby d1_9) rfl (flt hc12).2.2.2 (by decide) (by decide) k) ?_
      show OwnEnd p e below s _ _ _ (s₁.setTop (mkF m 42 #[.val (.int p1)] []))
      refine OwnEnd.go (fun _ k => XS.iconst X0.here hx rfl (hb hby d1_42) k) ?_
      show OwnEnd p e below s _ _ _ (s₁.setTop (mkF m 43 #[.val (.int p1)] [(.int (1 : Int32))]))
      refine OwnEnd.go (fun _ k => XS.goto X0.here hx rfl (pc0 := 43) (pc' := 47) rfl (hb hby d1_43) (by decide) (by decide) k) ?_
      show OwnEnd p e below s _ _ _ (s₁.setTop (mkF m 47 #[.val (.int p1)] [(.int (1 : Int32))]))
      refine ownRetZ X0 hx hlk hret (hb hby d1_47) (by decide) (by decide) (1 : Int32) (by decide) ?_
      show Q1 Z p1 h0 n0 _ s₁.heap _
      rw [e0]
      refine ⟨?_, N0, rfl⟩
      simp [own_item, hc1, hc12]
theorem d2_0 : decode method_2_code 0 = .ok (.iload_n 0, 1) := by decide +kernel
theorem d2_1 : decode method_2_code 1 = .ok (.sipush 128, 3) := by decide +kernel
theorem d2_4 : decode method_2_code 4 = .ok (.if_icmp .lt 5, 3) := by decide +kernel
theorem d2_7 : decode method_2_code 7 = .ok (.iconst 0, 1) := by decide +kernel
theorem d2_8 : decode method_2_code 8 = .ok (.ireturn, 1) := by decide +kernel
theorem d2_9 : decode method_2_code 9 = .ok (.iload_n 0, 1) := by decide +kernel
theorem d2_10 : decode method_2_code 10 = .ok (.bipush 64, 2) := by decide +kernel
theorem d2_12 : decode method_2_code 12 = .ok (.if_icmp .ge 9, 3) := by decide +kernel
theorem d2_15 : decode method_2_code 15 = .ok (.ldc2_w 9, 3) := by decide +kernel
theorem d2_18 : decode method_2_code 18 = .ok (.goto 6, 3) := by decide +kernel
theorem d2_21 : decode method_2_code 21 = .ok (.ldc2_w 11, 3) := by decide +kernel
theorem d2_24 : decode method_2_code 24 = .ok (.lstore_n 1, 1) := by decide +kernel
theorem d2_25 : decode method_2_code 25 = .ok (.lload_n 1, 1) := by decide +kernel
theorem d2_26 : decode method_2_code 26 = .ok (.iload_n 0, 1) := by decide +kernel
theorem d2_27 : decode method_2_code 27 = .ok (.bipush 63, 2) := by decide +kernel
theorem d2_29 : decode method_2_code 29 = .ok (.iand, 1) := by decide +kernel
theorem d2_30 : decode method_2_code 30 = .ok (.lushr, 1) := by decide +kernel
theorem d2_31 : decode method_2_code 31 = .ok (.lconst 1, 1) := by decide +kernel
theorem d2_32 : decode method_2_code 32 = .ok (.land, 1) := by decide +kernel
theorem d2_33 : decode method_2_code 33 = .ok (.lconst 0, 1) := by decide +kernel
theorem d2_34 : decode method_2_code 34 = .ok (.lcmp, 1) := by decide +kernel
theorem d2_35 : decode method_2_code 35 = .ok (.ifCond .eq 7, 3) := by decide +kernel
theorem d2_38 : decode method_2_code 38 = .ok (.iconst 1, 1) := by decide +kernel
theorem d2_39 : decode method_2_code 39 = .ok (.goto 4, 3) := by decide +kernel
theorem d2_42 : decode method_2_code 42 = .ok (.iconst 0, 1) := by decide +kernel
theorem d2_43 : decode method_2_code 43 = .ok (.ireturn, 1) := by decide +kernel
theorem pn_2 : plainName "com/example/isolation_anomaly_finder/isolationanomalyfinder/StepIsItemCharacterPinLaw" = true := by first | (simp [plainName, overriddenIn]; done) | decide +kernel
theorem ef_2 (m : MethodId) (x0 : Int32) : entryFrame m #[(.int x0)] 3 = mkF m 0 #[.val (.int x0), .unset, .unset] [] := by first | (simp [entryFrame, mkF, argsToLocals, Value.category]; done) | rfl
def Q2 (Z : State) (p1 : Int32) (h0 : Heap) (n0 : Nat) (v : Option Value) (h : Heap) (L : List Loc) : Prop := v = some (.int (own_exp p1)) ∧ Fr n0 L ∧ h = h0
set_option maxRecDepth 65536 in
set_option maxHeartbeats 40000000 in
theorem rm2 (l : Launch) (Z : State) (a0 : Array Value) (hw : ∀ d ∈ tables_1, d.before a0 Z = true) (ws : List Jvm.Cond) (p1 : Int32) (h0 : Heap) (n0 : Nat) (Z0 : n0 ≤ h0.size) :
    MetFree l (⟨"com/example/isolation_anomaly_finder/isolationanomalyfinder/StepIsItemCharacterPinLaw", "expected", "(C)Z"⟩ : MethodName) (head1 (Jvm.Cond.code (⟨"com/example/isolation_anomaly_finder/isolationanomalyfinder/StepIsItemCharacterPinLaw", "expected", "(C)Z"⟩ : MethodName) method_2_code 3 (some .boolean) :: ws) ({ frames := 0, cells := 0, slots := 0, locals := 0 } : Room)) (fun a U => a = #[(.int p1)] ∧ Z.Warmed39 U.vm ∧ U.heap = h0) (fun _ _ _ _ _ => True) (fun _ U o U' => ∃ v L, o = .returned v ∧ Q2 Z p1 h0 n0 v U'.heap L ∧ FrameEnd U o U' L ({ frames := 0, cells := 0, slots := 0, locals := 0 } : Room).cells ({ frames := 0, cells := 0, slots := 0, locals := 0 } : Room).slots) := by
  have ww9 := hw _ (List.mem_of_getElem? (i := 9) rfl)
  have ww10 := hw _ (List.mem_of_getElem? (i := 10) rfl)
  refine MetFree.of_bodySF (plainFor_of_name pn_2) hisR ?_
  intro p e s m args below meth c s₁ Bd hml0 hP hK
  obtain ⟨rfl, hZ, hh⟩ := hP
  have hx := Bd.exec
  have hby := Bd.bytes
  have hlk : meth.locks = false := Bd.notSynchronized
  have hret := Bd.returns
  have hml : c.maxLocals = 3 := hml0
  have hown : s.vm.findClass "com/example/isolation_anomaly_finder/isolationanomalyfinder/StepIsItemCharacterPinLaw" = some m.cls := findClass_of_methodNamed Bd.named
  have hnm := (name_of_methodNamed Bd.named Bd.method).1
  have X0 : Stand p l e ({ frames := 0, cells := 0, slots := 0, locals := 0 } : Room) s m #[(.int p1)] below meth c s₁ [] 0 0 := Stand.of_body Bd
  have e0 : s₁.heap = h0 := by rw [← hh, Bd.state]; rfl
  have N0 := Fr.nil n0
  have K0 := Keep.refl h0 []
  show OwnEnd p e below s (Q2 Z p1 h0 n0) ({ frames := 0, cells := 0, slots := 0, locals := 0 } : Room).cells ({ frames := 0, cells := 0, slots := 0, locals := 0 } : Room).slots _
  refine OwnEnd.go (fun _ k => castTop (ef_2 m p1) k) ?_
  show OwnEnd p e below s _ _ _ (s₁.setTop (mkF m 0 #[.val (.int p1), .unset, .unset] []))
  refine OwnEnd.go (fun _ k => XS.iloadN X0.here hx rfl (hb hby d2_0) rfl  k) ?_
  show OwnEnd p e below s _ _ _ (s₁.setTop (mkF m 1 #[.val (.int p1), .unset, .unset] [(.int p1)]))
  refine OwnEnd.go (fun _ k => XS.sipush X0.here hx rfl (hb hby d2_1) k) ?_
  show OwnEnd p e below s _ _ _ (s₁.setTop (mkF m 4 #[.val (.int p1), .unset, .unset] [(.int (128 : Int32)), (.int p1)]))
  by_cases hc1 : p1 < (128 : Int32)
  · refine OwnEnd.go (fun _ k => XS.icmpYes X0.here hx rfl (pc0 := 4) (pc' := 9) rfl (hb hby d2_4) rfl (tlt hc1).1 (by decide) (by decide) k) ?_
    show OwnEnd p e below s _ _ _ (s₁.setTop (mkF m 9 #[.val (.int p1), .unset, .unset] []))
    refine OwnEnd.go (fun _ k => XS.iloadN X0.here hx rfl (hb hby d2_9) rfl  k) ?_
    show OwnEnd p e below s _ _ _ (s₁.setTop (mkF m 10 #[.val (.int p1), .unset, .unset] [(.int p1)]))
    refine OwnEnd.go (fun _ k => XS.bipush X0.here hx rfl (hb hby d2_10) k) ?_
    show OwnEnd p e below s _ _ _ (s₁.setTop (mkF m 12 #[.val (.int p1), .unset, .unset] [(.int (64 : Int32)), (.int p1)]))
    by_cases hc2 : p1 < (64 : Int32)
    · refine OwnEnd.go (fun _ k => XS.icmpNo X0.here hx rfl (hb hby d2_12) rfl (tlt hc2).2.1 k) ?_
      show OwnEnd p e below s _ _ _ (s₁.setTop (mkF m 15 #[.val (.int p1), .unset, .unset] []))
      refine OwnEnd.go (fun _ k => X0.ldc2J hx hown (mvT hZ ww9) (g := (mkF m 15 #[.val (.int p1), .unset, .unset] [])) rfl (hb hby d2_15) k) ?_
      show OwnEnd p e below s _ _ _ (s₁.setTop (mkF m 18 #[.val (.int p1), .unset, .unset] [(.long (287948901175001088 : Int64))]))
      refine OwnEnd.go (fun _ k => XS.goto X0.here hx rfl (pc0 := 18) (pc' := 24) rfl (hb hby d2_18) (by decide) (by decide) k) ?_
      show OwnEnd p e below s _ _ _ (s₁.setTop (mkF m 24 #[.val (.int p1), .unset, .unset] [(.long (287948901175001088 : Int64))]))
      refine OwnEnd.go (fun _ k => XS.lstoreN X0.here hx rfl (hb hby d2_24) rfl  (l' := #[.val (.int p1), .val (.long (287948901175001088 : Int64)), .second]) rfl k) ?_
      show OwnEnd p e below s _ _ _ (s₁.setTop (mkF m 25 #[.val (.int p1), .val (.long (287948901175001088 : Int64)), .second] []))
      refine OwnEnd.go (fun _ k => XS.lloadN X0.here hx rfl (hb hby d2_25) rfl  k) ?_
      show OwnEnd p e below s _ _ _ (s₁.setTop (mkF m 26 #[.val (.int p1), .val (.long (287948901175001088 : Int64)), .second] [(.long (287948901175001088 : Int64))]))
      refine OwnEnd.go (fun _ k => XS.iloadN X0.here hx rfl (hb hby d2_26) rfl  k) ?_
      show OwnEnd p e below s _ _ _ (s₁.setTop (mkF m 27 #[.val (.int p1), .val (.long (287948901175001088 : Int64)), .second] [(.int p1), (.long (287948901175001088 : Int64))]))
      refine OwnEnd.go (fun _ k => XS.bipush X0.here hx rfl (hb hby d2_27) k) ?_
      show OwnEnd p e below s _ _ _ (s₁.setTop (mkF m 29 #[.val (.int p1), .val (.long (287948901175001088 : Int64)), .second] [(.int (63 : Int32)), (.int p1), (.long (287948901175001088 : Int64))]))
      refine OwnEnd.go (fun _ k => XS.iand X0.here hx rfl (hb hby d2_29) rfl k) ?_
      show OwnEnd p e below s _ _ _ (s₁.setTop (mkF m 30 #[.val (.int p1), .val (.long (287948901175001088 : Int64)), .second] [(.int (p1 &&& (63 : Int32))), (.long (287948901175001088 : Int64))]))
      refine OwnEnd.go (fun _ k => XS.lushr X0.here hx rfl (hb hby d2_30) rfl k) ?_
      show OwnEnd p e below s _ _ _ (s₁.setTop (mkF m 31 #[.val (.int p1), .val (.long (287948901175001088 : Int64)), .second] [(.long (((287948901175001088 : Int64).toUInt64 >>> ((p1 &&& (63 : Int32)) &&& 0x3f).toInt64.toUInt64).toInt64))]))
      refine OwnEnd.go (fun _ k => XS.lconst X0.here hx rfl (hb hby d2_31) k) ?_
      show OwnEnd p e below s _ _ _ (s₁.setTop (mkF m 32 #[.val (.int p1), .val (.long (287948901175001088 : Int64)), .second] [(.long (1 : Int64)), (.long (((287948901175001088 : Int64).toUInt64 >>> ((p1 &&& (63 : Int32)) &&& 0x3f).toInt64.toUInt64).toInt64))]))
      refine OwnEnd.go (fun _ k => XS.land X0.here hx rfl (hb hby d2_32) rfl k) ?_
      show OwnEnd p e below s _ _ _ (s₁.setTop (mkF m 33 #[.val (.int p1), .val (.long (287948901175001088 : Int64)), .second] [(.long ((((287948901175001088 : Int64).toUInt64 >>> ((p1 &&& (63 : Int32)) &&& 0x3f).toInt64.toUInt64).toInt64) &&& (1 : Int64)))]))
      refine OwnEnd.go (fun _ k => XS.lconst X0.here hx rfl (hb hby d2_33) k) ?_
      show OwnEnd p e below s _ _ _ (s₁.setTop (mkF m 34 #[.val (.int p1), .val (.long (287948901175001088 : Int64)), .second] [(.long (0 : Int64)), (.long ((((287948901175001088 : Int64).toUInt64 >>> ((p1 &&& (63 : Int32)) &&& 0x3f).toInt64.toUInt64).toInt64) &&& (1 : Int64)))]))
      refine OwnEnd.go (fun _ k => XS.lcmp X0.here hx rfl (hb hby d2_34) rfl k) ?_
      show OwnEnd p e below s _ _ _ (s₁.setTop (mkF m 35 #[.val (.int p1), .val (.long (287948901175001088 : Int64)), .second] [(.int (lcmpW ((((287948901175001088 : Int64).toUInt64 >>> ((p1 &&& (63 : Int32)) &&& 0x3f).toInt64.toUInt64).toInt64) &&& (1 : Int64)) (0 : Int64)))]))
      by_cases hc3 : ((((287948901175001088 : Int64).toUInt64 >>> ((p1 &&& (63 : Int32)) &&& 0x3f).toInt64.toUInt64).toInt64) &&& (1 : Int64)) = (0 : Int64)
      · refine OwnEnd.go (fun _ k => XS.ifYes X0.here hx rfl (pc0 := 35) (pc' := 42) rfl (hb hby d2_35) rfl (ownEq hc3).1 (by decide) (by decide) k) ?_
        show OwnEnd p e below s _ _ _ (s₁.setTop (mkF m 42 #[.val (.int p1), .val (.long (287948901175001088 : Int64)), .second] []))
        refine OwnEnd.go (fun _ k => XS.iconst X0.here hx rfl (hb hby d2_42) k) ?_
        show OwnEnd p e below s _ _ _ (s₁.setTop (mkF m 43 #[.val (.int p1), .val (.long (287948901175001088 : Int64)), .second] [(.int (0 : Int32))]))
        refine ownRetZ X0 hx hlk hret (hb hby d2_43) (by decide) (by decide) (0 : Int32) (by decide) ?_
        show Q2 Z p1 h0 n0 _ s₁.heap _
        rw [e0]
        refine ⟨?_, N0, rfl⟩
        unfold own_exp
        rw [if_pos hc1, if_pos hc2, if_pos (show own_bit 287948901175001088 p1 = 0 from hc3)]
      · refine OwnEnd.go (fun _ k => XS.ifNo X0.here hx rfl (hb hby d2_35) rfl (ownNeq hc3).1 k) ?_
        show OwnEnd p e below s _ _ _ (s₁.setTop (mkF m 38 #[.val (.int p1), .val (.long (287948901175001088 : Int64)), .second] []))
        refine OwnEnd.go (fun _ k => XS.iconst X0.here hx rfl (hb hby d2_38) k) ?_
        show OwnEnd p e below s _ _ _ (s₁.setTop (mkF m 39 #[.val (.int p1), .val (.long (287948901175001088 : Int64)), .second] [(.int (1 : Int32))]))
        refine OwnEnd.go (fun _ k => XS.goto X0.here hx rfl (pc0 := 39) (pc' := 43) rfl (hb hby d2_39) (by decide) (by decide) k) ?_
        show OwnEnd p e below s _ _ _ (s₁.setTop (mkF m 43 #[.val (.int p1), .val (.long (287948901175001088 : Int64)), .second] [(.int (1 : Int32))]))
        refine ownRetZ X0 hx hlk hret (hb hby d2_43) (by decide) (by decide) (1 : Int32) (by decide) ?_
        show Q2 Z p1 h0 n0 _ s₁.heap _
        rw [e0]
        refine ⟨?_, N0, rfl⟩
        unfold own_exp
        rw [if_pos hc1, if_pos hc2, if_neg (show ¬ own_bit 287948901175001088 p1 = 0 from hc3)]
    · refine OwnEnd.go (fun _ k => XS.icmpYes X0.here hx rfl (pc0 := 12) (pc' := 21) rfl (hb hby d2_12) rfl (flt hc2).2.1 (by decide) (by decide) k) ?_
      show OwnEnd p e below s _ _ _ (s₁.setTop (mkF m 21 #[.val (.int p1), .unset, .unset] []))
      refine OwnEnd.go (fun _ k => X0.ldc2J hx hown (mvT hZ ww10) (g := (mkF m 21 #[.val (.int p1), .unset, .unset] [])) rfl (hb hby d2_21) k) ?_
      show OwnEnd p e below s _ _ _ (s₁.setTop (mkF m 24 #[.val (.int p1), .unset, .unset] [(.long (576460745995190270 : Int64))]))
      refine OwnEnd.go (fun _ k => XS.lstoreN X0.here hx rfl (hb hby d2_24) rfl  (l' := #[.val (.int p1), .val (.long (576460745995190270 : Int64)), .second]) rfl k) ?_
      show OwnEnd p e below s _ _ _ (s₁.setTop (mkF m 25 #[.val (.int p1), .val (.long (576460745995190270 : Int64)), .second] []))
      refine OwnEnd.go (fun _ k => XS.lloadN X0.here hx rfl (hb hby d2_25) rfl  k) ?_
      show OwnEnd p e below s _ _ _ (s₁.setTop (mkF m 26 #[.val (.int p1), .val (.long (576460745995190270 : Int64)), .second] [(.long (576460745995190270 : Int64))]))
      refine OwnEnd.go (fun _ k => XS.iloadN X0.here hx rfl (hb hby d2_26) rfl  k) ?_
      show OwnEnd p e below s _ _ _ (s₁.setTop (mkF m 27 #[.val (.int p1), .val (.long (576460745995190270 : Int64)), .second] [(.int p1), (.long (576460745995190270 : Int64))]))
      refine OwnEnd.go (fun _ k => XS.bipush X0.here hx rfl (hb hby d2_27) k) ?_
      show OwnEnd p e below s _ _ _ (s₁.setTop (mkF m 29 #[.val (.int p1), .val (.long (576460745995190270 : Int64)), .second] [(.int (63 : Int32)), (.int p1), (.long (576460745995190270 : Int64))]))
      refine OwnEnd.go (fun _ k => XS.iand X0.here hx rfl (hb hby d2_29) rfl k) ?_
      show OwnEnd p e below s _ _ _ (s₁.setTop (mkF m 30 #[.val (.int p1), .val (.long (576460745995190270 : Int64)), .second] [(.int (p1 &&& (63 : Int32))), (.long (576460745995190270 : Int64))]))
      refine OwnEnd.go (fun _ k => XS.lushr X0.here hx rfl (hb hby d2_30) rfl k) ?_
      show OwnEnd p e below s _ _ _ (s₁.setTop (mkF m 31 #[.val (.int p1), .val (.long (576460745995190270 : Int64)), .second] [(.long (((576460745995190270 : Int64).toUInt64 >>> ((p1 &&& (63 : Int32)) &&& 0x3f).toInt64.toUInt64).toInt64))]))
      refine OwnEnd.go (fun _ k => XS.lconst X0.here hx rfl (hb hby d2_31) k) ?_
      show OwnEnd p e below s _ _ _ (s₁.setTop (mkF m 32 #[.val (.int p1), .val (.long (576460745995190270 : Int64)), .second] [(.long (1 : Int64)), (.long (((576460745995190270 : Int64).toUInt64 >>> ((p1 &&& (63 : Int32)) &&& 0x3f).toInt64.toUInt64).toInt64))]))
      refine OwnEnd.go (fun _ k => XS.land X0.here hx rfl (hb hby d2_32) rfl k) ?_
      show OwnEnd p e below s _ _ _ (s₁.setTop (mkF m 33 #[.val (.int p1), .val (.long (576460745995190270 : Int64)), .second] [(.long ((((576460745995190270 : Int64).toUInt64 >>> ((p1 &&& (63 : Int32)) &&& 0x3f).toInt64.toUInt64).toInt64) &&& (1 : Int64)))]))
      refine OwnEnd.go (fun _ k => XS.lconst X0.here hx rfl (hb hby d2_33) k) ?_
      show OwnEnd p e below s _ _ _ (s₁.setTop (mkF m 34 #[.val (.int p1), .val (.long (576460745995190270 : Int64)), .second] [(.long (0 : Int64)), (.long ((((576460745995190270 : Int64).toUInt64 >>> ((p1 &&& (63 : Int32)) &&& 0x3f).toInt64.toUInt64).toInt64) &&& (1 : Int64)))]))
      refine OwnEnd.go (fun _ k => XS.lcmp X0.here hx rfl (hb hby d2_34) rfl k) ?_
      show OwnEnd p e below s _ _ _ (s₁.setTop (mkF m 35 #[.val (.int p1), .val (.long (576460745995190270 : Int64)), .second] [(.int (lcmpW ((((576460745995190270 : Int64).toUInt64 >>> ((p1 &&& (63 : Int32)) &&& 0x3f).toInt64.toUInt64).toInt64) &&& (1 : Int64)) (0 : Int64)))]))
      by_cases hc4 : ((((576460745995190270 : Int64).toUInt64 >>> ((p1 &&& (63 : Int32)) &&& 0x3f).toInt64.toUInt64).toInt64) &&& (1 : Int64)) = (0 : Int64)
      · refine OwnEnd.go (fun _ k => XS.ifYes X0.here hx rfl (pc0 := 35) (pc' := 42) rfl (hb hby d2_35) rfl (ownEq hc4).1 (by decide) (by decide) k) ?_
        show OwnEnd p e below s _ _ _ (s₁.setTop (mkF m 42 #[.val (.int p1), .val (.long (576460745995190270 : Int64)), .second] []))
        refine OwnEnd.go (fun _ k => XS.iconst X0.here hx rfl (hb hby d2_42) k) ?_
        show OwnEnd p e below s _ _ _ (s₁.setTop (mkF m 43 #[.val (.int p1), .val (.long (576460745995190270 : Int64)), .second] [(.int (0 : Int32))]))
        refine ownRetZ X0 hx hlk hret (hb hby d2_43) (by decide) (by decide) (0 : Int32) (by decide) ?_
        show Q2 Z p1 h0 n0 _ s₁.heap _
        rw [e0]
        refine ⟨?_, N0, rfl⟩
        unfold own_exp
        rw [if_pos hc1, if_neg hc2, if_pos (show own_bit 576460745995190270 p1 = 0 from hc4)]
      · refine OwnEnd.go (fun _ k => XS.ifNo X0.here hx rfl (hb hby d2_35) rfl (ownNeq hc4).1 k) ?_
        show OwnEnd p e below s _ _ _ (s₁.setTop (mkF m 38 #[.val (.int p1), .val (.long (576460745995190270 : Int64)), .second] []))
        refine OwnEnd.go (fun _ k => XS.iconst X0.here hx rfl (hb hby d2_38) k) ?_
        show OwnEnd p e below s _ _ _ (s₁.setTop (mkF m 39 #[.val (.int p1), .val (.long (576460745995190270 : Int64)), .second] [(.int (1 : Int32))]))
        refine OwnEnd.go (fun _ k => XS.goto X0.here hx rfl (pc0 := 39) (pc' := 43) rfl (hb hby d2_39) (by decide) (by decide) k) ?_
        show OwnEnd p e below s _ _ _ (s₁.setTop (mkF m 43 #[.val (.int p1), .val (.long (576460745995190270 : Int64)), .second] [(.int (1 : Int32))]))
        refine ownRetZ X0 hx hlk hret (hb hby d2_43) (by decide) (by decide) (1 : Int32) (by decide) ?_
        show Q2 Z p1 h0 n0 _ s₁.heap _
        rw [e0]
        refine ⟨?_, N0, rfl⟩
        unfold own_exp
        rw [if_pos hc1, if_neg hc2, if_neg (show ¬ own_bit 576460745995190270 p1 = 0 from hc4)]
  · refine OwnEnd.go (fun _ k => XS.icmpNo X0.here hx rfl (hb hby d2_4) rfl (flt hc1).1 k) ?_
    show OwnEnd p e below s _ _ _ (s₁.setTop (mkF m 7 #[.val (.int p1), .unset, .unset] []))
    refine OwnEnd.go (fun _ k => XS.iconst X0.here hx rfl (hb hby d2_7) k) ?_
    show OwnEnd p e below s _ _ _ (s₁.setTop (mkF m 8 #[.val (.int p1), .unset, .unset] [(.int (0 : Int32))]))
    refine ownRetZ X0 hx hlk hret (hb hby d2_8) (by decide) (by decide) (0 : Int32) (by decide) ?_
    show Q2 Z p1 h0 n0 _ s₁.heap _
    rw [e0]
    refine ⟨?_, N0, rfl⟩
    unfold own_exp
    rw [if_neg hc1]
theorem pn_0 : plainName "com/example/isolation_anomaly_finder/isolationanomalyfinder/StepIsItemCharacterPinLaw" = true := by first | (simp [plainName, overriddenIn]; done) | decide +kernel
theorem pd0_0 : parseMethodDescriptor "(C)Z" = some ⟨[.char], some .boolean⟩ := by decide +kernel
theorem ef_0 (m : MethodId) (x0 : Int32) : entryFrame m #[(.int x0)] maxLocals = mkF m 0 #[.val (.int x0), .unset] [] := by first | (simp [entryFrame, mkF, argsToLocals, Value.category, maxLocals]; done) | rfl
def Q0 (Z : State) (p1 : Int32) (h0 : Heap) (n0 : Nat) (v : Option Value) (h : Heap) (L : List Loc) : Prop := v = some (.int 1) ∧ Fr n0 L
set_option maxRecDepth 65536 in
set_option maxHeartbeats 40000000 in
theorem rm0 (l : Launch) (Z : State) (a0 : Array Value) (hw : ∀ d ∈ tables_1, d.before a0 Z = true) (ws : List Jvm.Cond) (p1 : Int32) (h0 : Heap) (n0 : Nat) (Z0 : n0 ≤ h0.size) :
    MetFree l x (head1 (Jvm.Cond.code x code maxLocals ret :: ws) room_1) (fun a U => a = #[(.int p1)] ∧ Z.Warmed39 U.vm ∧ U.heap = h0) (fun _ _ _ _ _ => True) (fun _ U o U' => ∃ v L, o = .returned v ∧ Q0 Z p1 h0 n0 v U'.heap L ∧ FrameEnd U o U' L room_1.cells room_1.slots) := by
  have ww0 := hw _ (List.mem_of_getElem? (i := 0) rfl)
  have ww1 := hw _ (List.mem_of_getElem? (i := 1) rfl)
  have ww2 := hw _ (List.mem_of_getElem? (i := 2) rfl)
  have ww3 := hw _ (List.mem_of_getElem? (i := 3) rfl)
  have ww4 := hw _ (List.mem_of_getElem? (i := 4) rfl)
  have ww5 := hw _ (List.mem_of_getElem? (i := 5) rfl)
  have ww6 := hw _ (List.mem_of_getElem? (i := 6) rfl)
  have ww7 := hw _ (List.mem_of_getElem? (i := 7) rfl)
  have ww8 := hw _ (List.mem_of_getElem? (i := 8) rfl)
  refine MetFree.of_bodySF (plainFor_of_name pn_0) hisR ?_
  intro p e s m args below meth c s₁ Bd hml0 hP hK
  obtain ⟨rfl, hZ, hh⟩ := hP
  have hx := Bd.exec
  have hby := Bd.bytes
  have hlk : meth.locks = false := Bd.notSynchronized
  have hret := Bd.returns
  have hml : c.maxLocals = 2 := hml0
  have hown : s.vm.findClass "com/example/isolation_anomaly_finder/isolationanomalyfinder/StepIsItemCharacterPinLaw" = some m.cls := findClass_of_methodNamed Bd.named
  have hnm := (name_of_methodNamed Bd.named Bd.method).1
  have X0 : Stand p l e room_1 s m #[(.int p1)] below meth c s₁ [] 0 0 := Stand.of_body Bd
  have e0 : s₁.heap = h0 := by rw [← hh, Bd.state]; rfl
  have N0 := Fr.nil n0
  have K0 := Keep.refl h0 []
  show OwnEnd p e below s (Q0 Z p1 h0 n0) room_1.cells room_1.slots _
  refine OwnEnd.go (fun _ k => castTop (ef_0 m p1) k) ?_
  show OwnEnd p e below s _ _ _ (s₁.setTop (mkF m 0 #[.val (.int p1), .unset] []))
  refine OwnEnd.go (fun _ k => XS.iloadN X0.here hx rfl (hb hby at_0) rfl  k) ?_
  show OwnEnd p e below s _ _ _ (s₁.setTop (mkF m 1 #[.val (.int p1), .unset] [(.int p1)]))
  refine OwnEnd.go (fun _ k => X0.ldcI hx hown (mvT hZ ww0) (g := (mkF m 1 #[.val (.int p1), .unset] [(.int p1)])) rfl (hb hby at_1) k) ?_
  show OwnEnd p e below s _ _ _ (s₁.setTop (mkF m 3 #[.val (.int p1), .unset] [(.int (65535 : Int32)), (.int p1)]))
  refine OwnEnd.go (fun _ k => XS.iand X0.here hx rfl (hb hby at_3) rfl k) ?_
  show OwnEnd p e below s _ _ _ (s₁.setTop (mkF m 4 #[.val (.int p1), .unset] [(.int (p1 &&& (65535 : Int32)))]))
  refine OwnEnd.go (fun _ k => XS.i2c X0.here hx rfl (hb hby at_4) rfl k) ?_
  show OwnEnd p e below s _ _ _ (s₁.setTop (mkF m 5 #[.val (.int p1), .unset] [(.int ((p1 &&& (65535 : Int32)).toUInt32.toUInt16.toUInt32.toInt32))]))
  refine OwnEnd.go (fun _ k => XS.istoreN X0.here hx rfl (hb hby at_5) rfl  (l' := #[.val (.int p1), .val (.int ((p1 &&& (65535 : Int32)).toUInt32.toUInt16.toUInt32.toInt32))]) rfl k) ?_
  show OwnEnd p e below s _ _ _ (s₁.setTop (mkF m 6 #[.val (.int p1), .val (.int ((p1 &&& (65535 : Int32)).toUInt32.toUInt16.toUInt32.toInt32))] []))
  refine OwnEnd.go (fun _ k => XS.iloadN X0.here hx rfl (hb hby at_6) rfl  k) ?_
  show OwnEnd p e below s _ _ _ (s₁.setTop (mkF m 7 #[.val (.int p1), .val (.int ((p1 &&& (65535 : Int32)).toUInt32.toUInt16.toUInt32.toInt32))] [(.int ((p1 &&& (65535 : Int32)).toUInt32.toUInt16.toUInt32.toInt32))]))
  obtain ⟨_, T1, L1, X1, hQ1, st1⟩ := ownCallS X0 hx hZ hown ww1 ww2 ww3 ww4 (by decide) (rm1 l Z a0 hw [] ((p1 &&& (65535 : Int32)).toUInt32.toUInt16.toUInt32.toInt32) h0 n0 Z0  ) e0 0 (by decide) (by decide) (by decide) (by decide) (g := (mkF m 7 #[.val (.int p1), .val (.int ((p1 &&& (65535 : Int32)).toUInt32.toUInt16.toUInt32.toInt32))] [(.int ((p1 &&& (65535 : Int32)).toUInt32.toUInt16.toUInt32.toInt32))])) rfl (by rw [hml]; rfl) (argsL := [(.int ((p1 &&& (65535 : Int32)).toUInt32.toUInt16.toUInt32.toInt32))]) (rest := []) (lenOf pd0_0 rfl) rfl rfl (by show 2 * 0 + _ ≤ _; exact Nat.le_of_eq rfl) (hb hby at_7)
  obtain ⟨rfl, N1q, e1⟩ := hQ1
  have N1 := Fr.app N0 N1q
  refine OwnEnd.go (fun _ k => st1 _ k) ?_
  show OwnEnd p e below s _ _ _ (T1.setTop (mkF m 10 #[.val (.int p1), .val (.int ((p1 &&& (65535 : Int32)).toUInt32.toUInt16.toUInt32.toInt32))] [(.int (own_item ((p1 &&& (65535 : Int32)).toUInt32.toUInt16.toUInt32.toInt32)))]))
  refine OwnEnd.go (fun _ k => XS.iloadN X1.here hx rfl (hb hby at_10) rfl  k) ?_
  show OwnEnd p e below s _ _ _ (T1.setTop (mkF m 11 #[.val (.int p1), .val (.int ((p1 &&& (65535 : Int32)).toUInt32.toUInt16.toUInt32.toInt32))] [(.int ((p1 &&& (65535 : Int32)).toUInt32.toUInt16.toUInt32.toInt32)), (.int (own_item ((p1 &&& (65535 : Int32)).toUInt32.toUInt16.toUInt32.toInt32)))]))
  obtain ⟨_, T2, L2, X2, hQ2, st2⟩ := ownCallS X1 hx hZ hown ww5 ww6 ww7 ww8 (by decide) (rm2 l Z a0 hw [] ((p1 &&& (65535 : Int32)).toUInt32.toUInt16.toUInt32.toInt32) h0 n0 Z0  ) e1 1 (by decide) (by decide) (by decide) (by decide) (g := (mkF m 11 #[.val (.int p1), .val (.int ((p1 &&& (65535 : Int32)).toUInt32.toUInt16.toUInt32.toInt32))] [(.int ((p1 &&& (65535 : Int32)).toUInt32.toUInt16.toUInt32.toInt32)), (.int (own_item ((p1 &&& (65535 : Int32)).toUInt32.toUInt16.toUInt32.toInt32)))])) rfl (by rw [hml]; rfl) (argsL := [(.int ((p1 &&& (65535 : Int32)).toUInt32.toUInt16.toUInt32.toInt32))]) (rest := [(.int (own_item ((p1 &&& (65535 : Int32)).toUInt32.toUInt16.toUInt32.toInt32)))]) (lenOf pd0_0 rfl) rfl rfl (by show 2 * 0 + _ ≤ _; exact Nat.le_of_eq rfl) (hb hby at_11)
  obtain ⟨rfl, N2q, e2⟩ := hQ2
  have N2 := Fr.app N1 N2q
  refine OwnEnd.go (fun _ k => st2 _ k) ?_
  show OwnEnd p e below s _ _ _ (T2.setTop (mkF m 14 #[.val (.int p1), .val (.int ((p1 &&& (65535 : Int32)).toUInt32.toUInt16.toUInt32.toInt32))] [(.int (own_exp ((p1 &&& (65535 : Int32)).toUInt32.toUInt16.toUInt32.toInt32))), (.int (own_item ((p1 &&& (65535 : Int32)).toUInt32.toUInt16.toUInt32.toInt32)))]))
  refine OwnEnd.go (fun _ k => XS.icmpNo X2.here hx rfl (hb hby at_14) rfl (teq (own_plain p1)).2 k) ?_
  show OwnEnd p e below s _ _ _ (T2.setTop (mkF m 17 #[.val (.int p1), .val (.int ((p1 &&& (65535 : Int32)).toUInt32.toUInt16.toUInt32.toInt32))] []))
  refine OwnEnd.go (fun _ k => XS.iconst X2.here hx rfl (hb hby at_17) k) ?_
  show OwnEnd p e below s _ _ _ (T2.setTop (mkF m 18 #[.val (.int p1), .val (.int ((p1 &&& (65535 : Int32)).toUInt32.toUInt16.toUInt32.toInt32))] [(.int (1 : Int32))]))
  refine OwnEnd.go (fun _ k => XS.goto X2.here hx rfl (pc0 := 18) (pc' := 22) rfl (hb hby at_18) (by decide) (by decide) k) ?_
  show OwnEnd p e below s _ _ _ (T2.setTop (mkF m 22 #[.val (.int p1), .val (.int ((p1 &&& (65535 : Int32)).toUInt32.toUInt16.toUInt32.toInt32))] [(.int (1 : Int32))]))
  refine ownRetZ X2 hx hlk hret (hb hby at_22) (by decide) (by decide) (1 : Int32) (by decide) ?_
  show Q0 Z p1 h0 n0 _ T2.heap _
  rw [e2]
  exact ⟨rfl, N2⟩
set_option maxRecDepth 65536 in
set_option maxHeartbeats 40000000 in
theorem comes_1 {Post : Tables → Env → Array Value → State → Outcome → State → Prop} (hpost : ∀ tb e args s v u, (limb_1_1.after args s (.returned v) u = true ∧ limb_1_2.after args s (.returned v) u = true ∧ True) → FrameEnd s (.returned v) u (Jvm.fieldLocs frame_1_writes args s ++ Jvm.arrayLocs frame_1_arrays args s ++ Jvm.staticLocs frame_1_statics s) 0 0 → Post tb e args s (.returned v) u) :
    ArmFor flags0 classFile x code maxLocals ret World_1 tables_1 room_1 Calls_1 rest_1 Pre_1 Post := by
  intro l hfl _ _ p e ha hc hk s m args below hf hA hF happ hP
  obtain ⟨hcalls, hrest, hpre⟩ := hP
  obtain ⟨-, -, -, hnamed, -, -, -, hat⟩ := (Spec.applies_iff hf).mp happ
  obtain ⟨hg, hn⟩ := and_e (Cond.before_iff.mp (show (Jvm.Cond.and given_1 narrow_1).before args s = true from hpre))
  obtain ⟨hcount, hg⟩ := and_e hg
  have hv0 := hg
  obtain ⟨w0, rfl⟩ : ∃ w0 : Value, args = #[w0] := by
    have hs : args.size = 1 := by simpa [Cond.value, given_1] using hcount
    obtain ⟨L⟩ := args
    match L, hs with
    | [w0], _ => exact ⟨w0, rfl⟩
  have hw := fun d (hd : d ∈ tables_1) => atoms_spec (ws := Jvm.Cond.code x code maxLocals ret :: tables_1) hat d (List.mem_cons_of_mem _ hd)
  have hfit : Fit s := fun {y c} hc i hi => by
    obtain ⟨ha, rfl⟩ := Array.getElem?_eq_some_iff.mp hc
    have q := List.all_eq_true.mp ((Array.all_eq_true_iff_forall_mem.mp hF) _ (Array.getElem_mem ha)) i (List.mem_range.mpr hi)
    simpa [Array.getElem?_eq_getElem hi] using q
  obtain ⟨i0, ei0⟩ := is_v hv0
  obtain rfl : w0 = (.int i0) := Option.some.inj ei0
  obtain ⟨n, o, h1, h2, h3, _, L, rfl, ⟨rfl, N⟩, hq⟩ := rm0 l s _ hw tables_1 i0 s.heap s.heap.size (Nat.le_refl _)  p e ha hc hk s m _ below hf ((Spec.applies_iff_loose hf).mp happ).1 ⟨rfl, State.Warmed39.refl s, rfl⟩ trivial
  refine ⟨n, _, h1, h2, h3, hpost _ _ _ _ _ _ ⟨Cond.after_iff.mpr rfl, Cond.after_iff.mpr (eq_i res_at (Term.int_eval (1)) rfl), trivial⟩ ⟨hq.1, hq.2.1, (hq.2.2.sift fun y hy => Or.inr (N y hy)).mono (by decide) (by decide)⟩⟩
theorem main_1_1 : Claimed_1_1 := comes_1 fun _ _ _ _ _ _ h hF => ⟨h.1, hF⟩
theorem main_1_2 : Claimed_1_2 := comes_1 fun _ _ _ _ _ _ h hF => ⟨h.2.1, hF⟩
end Jvm.Pilot.@@N@@
namespace Jvm.Pilot.@@N@@
open Jvm Jvm.ClassFile Sem Op Lib Jvm.Free Jvm.Stand Jvm.Pilot.@@N@@.Jvm.D
/-! MADE BY PROGRAM (witnessworld.py) out of the Statement's table words and the real class files: 10 classes; the members and pool entries that the words name. The judged class is class 1, her method 2. -/
namespace start1
open Jvm.ClassFile
def u (s : String) : CpInfo := .utf8 (stringToUtf16 s)
/-- a pool by its gaps: so many unusable entries, then the entry; so many at the end -/
def gap : Nat → List CpInfo → List CpInfo
  | 0, r => r
  | n + 1, r => .unusable :: gap n r
def poolList (es : List (Nat × CpInfo)) (last : Nat) : List CpInfo := es.foldr (fun e r => gap e.1 (e.2 :: r)) (gap last [])
def pool (es : List (Nat × CpInfo)) (last : Nat) : Array CpInfo := ⟨poolList es last⟩
def fileOf (pool : Array CpInfo) (this : Nat) (attrs : Array Attribute := #[]) (ms : Array MethodInfo := #[]) (fl : Nat := 33) (sup : Nat := 0) (ifs : Array Nat := #[]) (fds : Array FieldInfo := #[]) : ClassFile where
  minorVersion := 0
  majorVersion := 65
  constantPool := pool
  accessFlags := fl
  thisClass := this
  superClass := sup
  interfaces := ifs
  fields := fds
  methods := ms
  attributes := attrs
def plain (name : String) (sup : Option ClassId) : Class where
  name := name
  kind := .ordinary
  loader := none
  accessFlags := 33
  super := sup
  interfaces := #[]
  cf := none
  fields := #[]
  methods := #[]
  instanceTypes := #[]
  staticTypes := #[]
  resolved := #[]
  callSites := []
  init := .initialized
  statics := none
  mirror := none

def pool0 : Array CpInfo := pool [(5, u "<init>"), (0, u "()V"), (1, .class_ 10), (1, u "java/lang/Object")] 113

def k0m0 : Method := { name := "<init>", desc := "()V", sig := { parameters := [], returnType := none }, accessFlags := 1, code := none }
/-- java/lang/Object -/
def k0 : Class := { plain "java/lang/Object" none with
  accessFlags := 33
  interfaces := #[]
  cf := some (fileOf pool0 8 #[] #[{ accessFlags := 1, nameIndex := 5, descriptorIndex := 6, attributes := #[] }] 33 0 #[] #[])
  fields := #[]
  methods := #[k0m0]
  instanceTypes := #[]
  staticTypes := #[]
  resolved := Array.replicate 124 none
  statics := none }

def pool1 : Array CpInfo := pool [(2, .class_ 4), (1, u "java/lang/Object"), (0, u "<init>"), (0, u "()V"), (0, .class_ 8), (0, u "com/example/isolation_anomaly_finder/isolationanomalyfinder/StepIsItemCharacterPinLaw"), (0, .long 287948901175001088), (1, .long 576460745995190270), (1, .integer 65535), (0, .methodref 15 16), (0, .class_ 17), (0, .nameAndType 18 19), (0, u "com/example/isolation_anomaly_finder/isolationanomalyfinder/Step"), (0, u "isItemCharacter"), (0, u "(C)Z"), (0, .methodref 7 21), (0, .nameAndType 22 19), (0, u "expected"), (0, u "LOW"), (0, u "J"), (1, u "HIGH"), (3, u "law"), (0, u "(I)Z")] 2

def k1m0 : Method := { name := "<init>", desc := "()V", sig := { parameters := [], returnType := none }, accessFlags := 2, code := none }
def k1c1 : Code := { maxStack := 4, maxLocals := 3, code := method_2_code, exceptionTable := #[], attributes := #[] }
def k1m1 : Method := { name := "expected", desc := "(C)Z", sig := { parameters := [.char], returnType := some .boolean }, accessFlags := 10, code := some k1c1 }
def k1c2 : Code := { maxStack := 2, maxLocals := 2, code := code, exceptionTable := #[], attributes := #[] }
def k1m2 : Method := { name := "law", desc := "(I)Z", sig := { parameters := [.int], returnType := some .boolean }, accessFlags := 9, code := some k1c2 }
/-- com/example/isolation_anomaly_finder/isolationanomalyfinder/StepIsItemCharacterPinLaw -/
def k1 : Class := { plain "com/example/isolation_anomaly_finder/isolationanomalyfinder/StepIsItemCharacterPinLaw" (some 0) with
  accessFlags := 49
  interfaces := #[]
  cf := some (fileOf pool1 7 #[] #[{ accessFlags := 2, nameIndex := 5, descriptorIndex := 6, attributes := #[] }, { accessFlags := 10, nameIndex := 22, descriptorIndex := 19, attributes := #[] }, { accessFlags := 9, nameIndex := 30, descriptorIndex := 31, attributes := #[] }] 49 2 #[] #[{ accessFlags := 26, nameIndex := 23, descriptorIndex := 24, attributes := #[] }, { accessFlags := 26, nameIndex := 26, descriptorIndex := 24, attributes := #[] }])
  fields := #[{ name := "LOW", type := .long, accessFlags := 26, slot := 0, constantValue := 0 }, { name := "HIGH", type := .long, accessFlags := 26, slot := 1, constantValue := 0 }]
  methods := #[k1m0, k1m1, k1m2]
  instanceTypes := #[]
  staticTypes := #[.long, .long]
  resolved := Array.replicate 34 none
  statics := none }

def pool2 : Array CpInfo := pool [(2, .class_ 4), (1, u "java/lang/Object"), (0, u "<init>"), (0, u "()V"), (0, .class_ 8), (0, u "java/lang/Record")] 13

def k2m0 : Method := { name := "<init>", desc := "()V", sig := { parameters := [], returnType := none }, accessFlags := 4, code := none }
/-- java/lang/Record -/
def k2 : Class := { plain "java/lang/Record" (some 0) with
  accessFlags := 1057
  interfaces := #[]
  cf := some (fileOf pool2 7 #[] #[{ accessFlags := 4, nameIndex := 5, descriptorIndex := 6, attributes := #[] }] 1057 2 #[] #[])
  fields := #[]
  methods := #[k2m0]
  instanceTypes := #[]
  staticTypes := #[]
  resolved := Array.replicate 22 none
  statics := none }

def pool3 : Array CpInfo := pool [(2, .class_ 4), (1, u "java/lang/Record"), (3, u "action"), (7, .class_ 18), (1, u "com/example/isolation_anomaly_finder/isolationanomalyfinder/Step$Action"), (25, .class_ 46), (1, u "com/example/isolation_anomaly_finder/isolationanomalyfinder/Step"), (11, u "Lcom/example/isolation_anomaly_finder/isolationanomalyfinder/Step$Action;"), (15, u "transaction"), (0, u "I"), (2, u "item"), (0, u "Ljava/lang/String;"), (2, u "value"), (2, u "condition"), (0, u "Lcom/example/isolation_anomaly_finder/isolationanomalyfinder/Condition;"), (2, u "rows"), (0, u "Ljava/util/List;"), (25, u "isItemCharacter"), (0, u "(C)Z"), (47, .class_ 166), (0, u "com/example/isolation_anomaly_finder/isolationanomalyfinder/Step$Row")] 37

def k3c0 : Code := { maxStack := 2, maxLocals := 1, code := prog_71_method_4_code, exceptionTable := #[], attributes := #[] }
def k3m0 : Method := { name := "isItemCharacter", desc := "(C)Z", sig := { parameters := [.char], returnType := some .boolean }, accessFlags := 8, code := some k3c0 }
/-- com/example/isolation_anomaly_finder/isolationanomalyfinder/Step -/
def k3 : Class := { plain "com/example/isolation_anomaly_finder/isolationanomalyfinder/Step" (some 2) with
  accessFlags := 49
  interfaces := #[]
  cf := some (fileOf pool3 44 #[.nestMembers #[165, 16]] #[{ accessFlags := 8, nameIndex := 116, descriptorIndex := 117, attributes := #[] }] 49 2 #[] #[{ accessFlags := 18, nameIndex := 8, descriptorIndex := 58, attributes := #[] }, { accessFlags := 18, nameIndex := 74, descriptorIndex := 75, attributes := #[] }, { accessFlags := 18, nameIndex := 78, descriptorIndex := 79, attributes := #[] }, { accessFlags := 18, nameIndex := 82, descriptorIndex := 79, attributes := #[] }, { accessFlags := 18, nameIndex := 85, descriptorIndex := 86, attributes := #[] }, { accessFlags := 18, nameIndex := 89, descriptorIndex := 90, attributes := #[] }])
  fields := #[{ name := "action", type := (.object "com/example/isolation_anomaly_finder/isolationanomalyfinder/Step$Action"), accessFlags := 18, slot := 0, constantValue := 0 }, { name := "transaction", type := .int, accessFlags := 18, slot := 1, constantValue := 0 }, { name := "item", type := (.object "java/lang/String"), accessFlags := 18, slot := 2, constantValue := 0 }, { name := "value", type := (.object "java/lang/String"), accessFlags := 18, slot := 3, constantValue := 0 }, { name := "condition", type := (.object "com/example/isolation_anomaly_finder/isolationanomalyfinder/Condition"), accessFlags := 18, slot := 4, constantValue := 0 }, { name := "rows", type := (.object "java/util/List"), accessFlags := 18, slot := 5, constantValue := 0 }]
  methods := #[k3m0]
  instanceTypes := #[(.object "com/example/isolation_anomaly_finder/isolationanomalyfinder/Step$Action"), .int, (.object "java/lang/String"), (.object "java/lang/String"), (.object "com/example/isolation_anomaly_finder/isolationanomalyfinder/Condition"), (.object "java/util/List")]
  staticTypes := #[]
  resolved := Array.replicate 204 none
  statics := none }

def pool4 : Array CpInfo := pool [(1, u "java/lang/Cloneable"), (0, .class_ 1), (0, u "java/lang/Object"), (0, .class_ 3)] 3

/-- java/lang/Cloneable -/
def k4 : Class := { plain "java/lang/Cloneable" (some 0) with
  accessFlags := 1537
  interfaces := #[]
  cf := some (fileOf pool4 2 #[] #[] 1537 4 #[] #[])
  fields := #[]
  methods := #[]
  instanceTypes := #[]
  staticTypes := #[]
  resolved := Array.replicate 8 none
  statics := none }

def pool5 : Array CpInfo := pool [(1, u "java/io/Serializable"), (0, .class_ 1), (0, u "java/lang/Object"), (0, .class_ 3)] 3

/-- java/io/Serializable -/
def k5 : Class := { plain "java/io/Serializable" (some 0) with
  accessFlags := 1537
  interfaces := #[]
  cf := some (fileOf pool5 2 #[] #[] 1537 4 #[] #[])
  fields := #[]
  methods := #[]
  instanceTypes := #[]
  staticTypes := #[]
  resolved := Array.replicate 8 none
  statics := none }

/-- the primitive byte -/
def k6 : Class := { plain "byte" none with kind := .primitive 'B', accessFlags := 0x411 }
/-- [B -/
def k7 : Class := { plain "[B" (some 0) with kind := .array 6 .byte, interfaces := #[4, 5], accessFlags := 1041 }

/-- the primitive int -/
def k8 : Class := { plain "int" none with kind := .primitive 'I', accessFlags := 0x411 }
/-- [I -/
def k9 : Class := { plain "[I" (some 0) with kind := .array 8 .int, interfaces := #[4, 5], accessFlags := 1041 }

def heap : Heap := #[]
def classes : Array Class := #[k0, k1, k2, k3, k4, k5, k6, k7, k8, k9]
def interned : List (Array UInt16 × Addr) := []
def slotsUsed : Nat := 0
def theMethod : MethodId := ⟨1, 2⟩
def args0 : Array Value := #[.int 5]
def aboutOver (below : List Frame) : State where
  vm := { classes := classes, interned := interned.toArray }
  heap := heap
  slotsUsed := slotsUsed
  threads := #[{ frames := .invoking theMethod args0 :: below }]
def below0 : List Frame := [.native { method := ⟨0, 0⟩, args := #[] }]
def about1 : State := aboutOver below0
def p0 : Program := .bare "" "" ""
def e0 : Env := launch0.env 0 0 0
theorem w_frames : about1.frames = Frame.invoking theMethod args0 :: below0 := rfl
set_option maxRecDepth 65536 in
theorem w_args : argsFit about1.vm theMethod args0 = true := by decide +kernel
set_option maxRecDepth 65536 in
theorem w_heap : heapFits about1 = true := by decide +kernel
set_option maxRecDepth 65536 in
theorem w_runnable : about1.curStatus? = some .runnable := by decide +kernel
set_option maxRecDepth 65536 in
theorem w_alone : about1.alone = true := by decide +kernel
set_option maxRecDepth 65536 in
theorem w_named : about1.methodNamed? x = some theMethod := by decide +kernel
set_option maxRecDepth 65536 in
theorem w_hears : about1.hears theMethod below0 = true := by decide +kernel
set_option maxRecDepth 65536 in
theorem w_ripe : about1.ripe theMethod args0 below0 = true := by decide +kernel
theorem w_running : about1.status = .running := rfl
set_option maxRecDepth 65536 in
theorem w_room : about1.hasRoom e0.platform room_1 = true :=
  launch0.hasRoom_least _ room_1 (by decide +kernel) (by decide +kernel) (by decide +kernel) (by decide +kernel) (by decide +kernel) (by decide +kernel)
theorem allAtoms_all (ts : List Jvm.Cond) (a : Array Jvm.Value) (st : Jvm.State) : (allAtoms ts).before a st = ts.all (fun c => c.before a st) := by
  induction ts with
  | nil => rfl
  | cons c t ih =>
    show (Jvm.Cond.and c (allAtoms t)).before a st = _
    rw [Jvm.Cond.before_and, ih, List.all_cons]
def words1 : List Jvm.Cond := Jvm.Cond.code x code maxLocals ret :: tables_1
/-- a 'code' word, met by the world's own term for the bytes: nothing is compared byte by byte -/
theorem code_word {y : MethodName} {bytes : ByteArray} {mx : Nat} {rt : Option FieldType} {a : Array Value} {s : State} {m : MethodId} {meth : Method} {c : Code} (h1 : s.methodNamed? y = some m) (h2 : s.vm.method? m = some meth) (h3 : meth.code = some c) (h4 : c.code = bytes)
    (h5 : (c.maxLocals == mx && c.exceptionTable.isEmpty && decide (c.maxStack ≤ mostOperands) && decide (meth.sig.returnType = rt) && !meth.locks && decide (parseMethodDescriptor y.desc = some meth.sig)) = true) : (Jvm.Cond.code y bytes mx rt).before a s = true := by
  simp only [Bool.and_eq_true, beq_iff_eq, Bool.not_eq_true', decide_eq_true_eq] at h5
  obtain ⟨⟨⟨⟨⟨g1, g2⟩, g3⟩, g4⟩, g5⟩, g6⟩ := h5
  simp [Cond.before, Cond.holds, Cond.value, h1, h2, h3, h4, g1, g2, g3, g4, g5, g6]
def isCode : Jvm.Cond → Bool
  | .code _ _ _ _ => true
  | _ => false
theorem all_split {L : List Jvm.Cond} {P : Jvm.Cond → Bool} (h1 : L.all (fun c => isCode c || P c) = true) (h2 : ∀ c ∈ L.filter isCode, P c = true) : L.all P = true := by
  refine List.all_eq_true.mpr fun c hc => ?_
  have h := List.all_eq_true.mp h1 c hc
  rcases Bool.eq_false_or_eq_true (isCode c) with hi | hi
  · exact h2 c (List.mem_filter.mpr ⟨hc, hi⟩)
  · simpa [hi] using h
set_option maxRecDepth 65536 in
theorem w_c0 : (Jvm.Cond.code x code maxLocals ret).before args0 about1 = true := code_word (m := ⟨1, 2⟩) (meth := k1m2) (c := k1c2) (by decide +kernel) rfl rfl rfl (by decide +kernel)
set_option maxRecDepth 65536 in
theorem w_c1 : (Jvm.Cond.code ({ cls := "com/example/isolation_anomaly_finder/isolationanomalyfinder/Step", name := "isItemCharacter", desc := "(C)Z" } : Jvm.MethodName) prog_71_method_4_code (1 : Nat) (Option.some Jvm.ClassFile.FieldType.boolean)).before args0 about1 = true := code_word (m := ⟨3, 0⟩) (meth := k3m0) (c := k3c0) (by decide +kernel) rfl rfl rfl (by decide +kernel)
set_option maxRecDepth 65536 in
theorem w_c2 : (Jvm.Cond.code ({ cls := "com/example/isolation_anomaly_finder/isolationanomalyfinder/StepIsItemCharacterPinLaw", name := "expected", desc := "(C)Z" } : Jvm.MethodName) method_2_code (3 : Nat) (Option.some Jvm.ClassFile.FieldType.boolean)).before args0 about1 = true := code_word (m := ⟨1, 1⟩) (meth := k1m1) (c := k1c1) (by decide +kernel) rfl rfl rfl (by decide +kernel)
def codes1 : List Jvm.Cond := [Jvm.Cond.code x code maxLocals ret, Jvm.Cond.code ({ cls := "com/example/isolation_anomaly_finder/isolationanomalyfinder/Step", name := "isItemCharacter", desc := "(C)Z" } : Jvm.MethodName) prog_71_method_4_code (1 : Nat) (Option.some Jvm.ClassFile.FieldType.boolean), Jvm.Cond.code ({ cls := "com/example/isolation_anomaly_finder/isolationanomalyfinder/StepIsItemCharacterPinLaw", name := "expected", desc := "(C)Z" } : Jvm.MethodName) method_2_code (3 : Nat) (Option.some Jvm.ClassFile.FieldType.boolean)]
set_option maxRecDepth 65536 in
theorem codes_eq : words1.filter isCode = codes1 := rfl
theorem w_codes : ∀ c ∈ words1.filter isCode, c.before args0 about1 = true := by
  rw [codes_eq]
  intro c hc
  simp only [codes1, List.mem_cons, List.not_mem_nil, or_false] at hc
  rcases hc with rfl | rfl | rfl
  · exact w_c0
  · exact w_c1
  · exact w_c2
set_option maxRecDepth 65536 in
theorem w_t1 : words1.all (fun c => isCode c || c.before args0 about1) = true := by decide +kernel
theorem w_tables : (allAtoms (Jvm.Cond.code x code maxLocals ret :: tables_1)).before args0 about1 = true := by
  rw [allAtoms_all]
  show words1.all (fun c => c.before args0 about1) = true
  refine all_split ?_ w_codes
  rw [w_t1]
set_option maxRecDepth 65536 in
theorem w_case : (Jvm.Cond.and given_1 narrow_1).before args0 about1 = true := by decide +kernel
theorem w_applies : (headSpec (Jvm.Cond.code x code maxLocals ret :: tables_1) room_1).applies x e0.platform about1 = true :=
  (Spec.applies_iff w_frames).mpr ⟨w_running, w_runnable, w_alone, w_named, w_hears, w_ripe, w_room, w_tables⟩
theorem atStart : AtStart classFile x code maxLocals ret World_1 tables_1 room_1 Calls_1 rest_1 Pre_1 launch0 p0 e0 about1 theMethod args0 below0 :=
  ⟨lists_1, trivial, launch0.admits_env _ _ _, launch0.least_env, fairChoices_fair.cas, fairChoices_fair.clock, w_frames, w_args, w_heap, w_applies, trivial, trivial, w_case⟩
end start1
theorem witness_1 : WitnessClaimed_1 := ⟨start1.p0, start1.e0, start1.about1, start1.theMethod, start1.args0, start1.below0, start1.atStart⟩
end Jvm.Pilot.@@N@@
