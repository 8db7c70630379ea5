import JvmDerived
import JvmDerived.Pilot.@@N@@Statement
import JvmDerived.Pilot.@@N@@Code
set_option linter.unusedVariables false
set_option linter.unusedSimpArgs false
namespace Jvm.Pilot.@@N@@
open Jvm Jvm.ClassFile Sem Op Lib Jvm.Free Jvm.Stand Jvm.LawKit Jvm.RoadKit Bundle Jvm.Pilot.@@N@@.Jvm.D
section OwnKit
variable {p : Program} {l : Launch} {e : Env} {R : Room} {s : State} {m : MethodId} {args : Array Value} {below : List Frame} {meth : Method} {c : Code} {T T' : State} {locs : List Loc} {cells slots : Nat} {Z : State} {a0 : Array Value} {h : Heap}
def own_Fin (p : Program) (e : Env) (below : List Frame) (P : Outcome → State → Prop) (T : State) (g : JFrame) : Prop :=
  ∃ s₂ o, Steps p.tables e below (T.setTop g) s₂ ∧ s₂.status = .running ∧ Ended s₂ below o ∧ P o s₂
def own_P (s : State) (Q : Option Value → Heap → List Loc → Prop) (k n : Nat) (o : Outcome) (t : State) : Prop := ∃ v L, o = .returned v ∧ Q v t.heap L ∧ FrameEnd s o t L k n
theorem own_by {P : Outcome → State → Prop} {g g' : JFrame} (st : ∀ t, Steps p.tables e below (T'.setTop g') t → Steps p.tables e below (T.setTop g) t) (k : own_Fin p e below P T' g') : own_Fin p e below P T g := by
  obtain ⟨s₂, o, h1, h2⟩ := k
  exact ⟨s₂, o, st _ h1, h2⟩
theorem own_start {s₁ : State} {Q : Option Value → Heap → List Loc → Prop} {k n : Nat} {ml : Nat} {g : JFrame} (hef : entryFrame m args ml = g) (hk : own_Fin p e below (own_P s Q k n) s₁ g) :
    ∃ s₂ o, Steps p.tables e below (s₁.setTop (entryFrame m args ml)) s₂ ∧ s₂.status = .running ∧ Ended s₂ below o ∧ ∃ v L, o = .returned v ∧ Q v s₂.heap L ∧ FrameEnd s o s₂ L k n := by
  rw [hef]; exact hk
theorem own_end (X : Stand p l e R s m args below meth c T locs cells slots) {v : Option Value} (hv : meth.sig.returnType = none → v = none) (hlocks : meth.locks = false) {g : JFrame}
    (hret : ∀ {fs : List Frame}, (∀ (f : JFrame) (acts : List Action), f.method = m → f.locked = none → f.entered = [] → (doReturn e (T.setTop f) acts v).1 = T.setFrames fs) → Steps p.tables e below (T.setTop g) (T.setFrames fs))
    {Q : Option Value → Heap → List Loc → Prop} {k n : Nat} (hQ : Q v T.heap locs) (hk : cells ≤ k) (hn : slots ≤ n) : own_Fin p e below (own_P s Q k n) T g := by
  obtain ⟨fs, hr, hrun, hended, hW, hsame⟩ := X.leave hv hlocks
  exact ⟨_, _, hret hr, hrun, hended, _, _, rfl, hQ, ⟨_, rfl⟩, hW, hsame.mono hk hn⟩
theorem own_nf {C : String} {y : MethodName} (w : (Jvm.Cond.selects C y y).before a0 Z = true) : ∀ {s : State}, Z.Warmed39 s.vm → NotFace s y := fun hZ => notFace_of_selects (args := #[]) (mvT hZ w)
theorem own_callSB (X : Stand p l e R s m args below meth c T locs cells slots) (hx : p.tables.exec = Jvm.exec) (hZ : Z.Warmed39 s.vm) {own : String} {index : Nat} {y : MethodName} {bytes : ByteArray} {maxL W : Nat} {ret : Option FieldType} {kc ks : Nat} {as' : Array Value} {Q : Option Value → Heap → List Loc → Prop}
    (hown : s.vm.findClass own = some m.cls) (w1 : (Jvm.Cond.methodLink own index y).before a0 Z = true) (w2 : (Jvm.Cond.static y).before a0 Z = true) (w3 : (Jvm.Cond.initialized y.cls).before a0 Z = true) (w4 : (Jvm.Cond.code y bytes maxL ret).before a0 Z = true) (hy : y.cls ≠ "java/lang/invoke/MethodHandle" ∧ y.cls ≠ "java/lang/invoke/VarHandle")
    (hK : Back l R p e below s args y 3 W (fun A a => a = as' ∧ A.U.heap = h ∧ A.cells + kc ≤ R.cells ∧ A.slots + ks ≤ R.slots) (fun A _ v B => ∃ L, Q v B.U.heap L ∧ B.locs = A.locs ++ L ∧ B.cells = A.cells + kc ∧ B.slots = A.slots + ks))
    (eT : T.heap = h) {g : JFrame} (hg : g.method = m) (hsize : g.locals.size = c.maxLocals) {argsL rest : List Value} (hlen : ∀ sig, parseMethodDescriptor y.desc = some sig → argsL.length = sig.parameters.length)
    (hstack : g.stack = argsL.reverse ++ rest) (hW : 2 * g.monitorRoom + (rest.map fun v => v.category).sum ≤ W) (hdg : decode c.code g.pc = .ok (.invokestatic index, 3)) (has : argsL.toArray = as') (hc : cells + kc ≤ R.cells) (hs : slots + ks ≤ R.slots) {P : Outcome → State → Prop}
    (k : ∀ (v : Option Value) (T' : State) (L : List Loc), Stand p l e R s m args below meth c T' (locs ++ L) (cells + kc) (slots + ks) → Q v T'.heap L → own_Fin p e below P T' { g with pc := g.pc + 3, stack := v.toList ++ rest }) : own_Fin p e below P T g := by
  obtain ⟨v, _, ⟨U', L', k', n'⟩, -, X', ⟨Lc, hQ, l1, l2, l3⟩, st⟩ := Jvm.LawKit.callS X hx (y := y) hown (mvT hZ w1) (mvT hZ w2) (mvT hZ w3) (mvT hZ w4) hy hK hg hsize hlen hstack hW hdg (fun _ _ => ⟨has, eT, hc, hs⟩)
  dsimp only [Pt.U, Pt.locs, Pt.cells, Pt.slots] at X' l1 l2 l3 st hQ
  subst l1 l2 l3
  exact own_by st (k v U' Lc X' hQ)
theorem own_callS (X : Stand p l e R s m args below meth c T locs cells slots) (hx : p.tables.exec = Jvm.exec) (hZ : Z.Warmed39 s.vm) {own : String} {index : Nat} {y : MethodName} {bytes : ByteArray} {maxL W : Nat} {ret : Option FieldType} {rm : Room} {as' : Array Value} {Q : Option Value → Heap → List Loc → Prop}
    (hown : s.vm.findClass own = some m.cls) (w1 : (Jvm.Cond.methodLink own index y).before a0 Z = true) (w2 : (Jvm.Cond.static y).before a0 Z = true) (w3 : (Jvm.Cond.initialized y.cls).before a0 Z = true) (w4 : (Jvm.Cond.code y bytes maxL ret).before a0 Z = true) (hy : y.cls ≠ "java/lang/invoke/MethodHandle" ∧ y.cls ≠ "java/lang/invoke/VarHandle")
    (hM : MetFree l y (head1 [Jvm.Cond.code y bytes maxL ret] rm) (fun a U => a = as' ∧ Z.Warmed39 U.vm ∧ U.heap = h) (fun _ _ _ _ _ => True) (fun _ U o U' => ∃ v L, o = .returned v ∧ Q v U'.heap L ∧ FrameEnd U o U' L rm.cells rm.slots))
    (hf : rm.frames + 1 ≤ R.frames) (hl : W + (maxL + 11) + rm.locals ≤ R.locals) (eT : T.heap = h) {g : JFrame} (hg : g.method = m) (hsize : g.locals.size = c.maxLocals) {argsL rest : List Value} (hlen : ∀ sig, parseMethodDescriptor y.desc = some sig → argsL.length = sig.parameters.length)
    (hstack : g.stack = argsL.reverse ++ rest) (hW : 2 * g.monitorRoom + (rest.map fun v => v.category).sum ≤ W) (hdg : decode c.code g.pc = .ok (.invokestatic index, 3)) (has : argsL.toArray = as') (hc : cells + rm.cells ≤ R.cells) (hs : slots + rm.slots ≤ R.slots) {P : Outcome → State → Prop}
    (k : ∀ (v : Option Value) (T' : State) (L : List Loc), Stand p l e R s m args below meth c T' (locs ++ L) (cells + rm.cells) (slots + rm.slots) → Q v T'.heap L → own_Fin p e below P T' { g with pc := g.pc + 3, stack := v.toList ++ rest }) : own_Fin p e below P T g :=
  own_callSB X hx hZ hown w1 w2 w3 w4 hy (backOf (W := W) hM hZ w4 w3 hf hl) eT hg hsize hlen hstack hW hdg has hc hs k
theorem own_callIB (X : Stand p l e R s m args below meth c T locs cells slots) (hx : p.tables.exec = Jvm.exec) (hZ : Z.Warmed39 s.vm) {own : String} {index : Nat} {y : MethodName} {bytes : ByteArray} {maxL W : Nat} {kc ks : Nat} {as' : Array Value} {Q : Option Value → Heap → List Loc → Prop} (hin : y.name = "<init>")
    (hown : s.vm.findClass own = some m.cls) (w1 : (Jvm.Cond.methodLink own index y).before a0 Z = true) (w2 : (Jvm.Cond.instanceMethod y).before a0 Z = true) (w4 : (Jvm.Cond.code y bytes maxL none).before a0 Z = true) (hy : y.cls ≠ "java/lang/invoke/MethodHandle" ∧ y.cls ≠ "java/lang/invoke/VarHandle")
    (hK : Back l R p e below s args y 3 W (fun A a => a = as' ∧ A.U.heap = h ∧ A.cells + kc ≤ R.cells ∧ A.slots + ks ≤ R.slots) (fun A _ v B => ∃ L, Q v B.U.heap L ∧ B.locs = A.locs ++ L ∧ B.cells = A.cells + kc ∧ B.slots = A.slots + ks))
    (eT : T.heap = h) {g : JFrame} (hg : g.method = m) (hsize : g.locals.size = c.maxLocals) {a : Addr} {argsL rest : List Value} (hlen : ∀ sig, parseMethodDescriptor y.desc = some sig → argsL.length = sig.parameters.length)
    (hstack : g.stack = argsL.reverse ++ .ref a :: rest) (hW : 2 * g.monitorRoom + (rest.map fun v => v.category).sum ≤ W) (hdg : decode c.code g.pc = .ok (.invokespecial index, 3)) (has : (.ref a :: argsL).toArray = as') (hc : cells + kc ≤ R.cells) (hs : slots + ks ≤ R.slots) {P : Outcome → State → Prop}
    (k : ∀ (v : Option Value) (T' : State) (L : List Loc), Stand p l e R s m args below meth c T' (locs ++ L) (cells + kc) (slots + ks) → Q v T'.heap L → own_Fin p e below P T' { g with pc := g.pc + 3, stack := v.toList ++ rest }) : own_Fin p e below P T g := by
  obtain ⟨v, _, ⟨U', L', k', n'⟩, -, X', ⟨Lc, hQ, l1, l2, l3⟩, st⟩ := X.specialBack hx (y := y) hin hown (mvT hZ w1) (mvT hZ w2) (mvT hZ w4) hy hK hg hsize (Steps.refl _) (a := a) hlen hstack hW hdg (fun _ _ => ⟨has, eT, hc, hs⟩)
  dsimp only [Pt.U, Pt.locs, Pt.cells, Pt.slots] at X' l1 l2 l3 st hQ
  subst l1 l2 l3
  exact own_by (fun _ q => st.trans q) (k v U' Lc X' hQ)
theorem own_callI (X : Stand p l e R s m args below meth c T locs cells slots) (hx : p.tables.exec = Jvm.exec) (hZ : Z.Warmed39 s.vm) {own : String} {index : Nat} {y : MethodName} {bytes : ByteArray} {maxL W : Nat} {rm : Room} {as' : Array Value} {Q : Option Value → Heap → List Loc → Prop} (hin : y.name = "<init>")
    (hown : s.vm.findClass own = some m.cls) (w1 : (Jvm.Cond.methodLink own index y).before a0 Z = true) (w2 : (Jvm.Cond.instanceMethod y).before a0 Z = true) (w4 : (Jvm.Cond.code y bytes maxL none).before a0 Z = true) (w3 : (Jvm.Cond.initialized y.cls).before a0 Z = true) (hy : y.cls ≠ "java/lang/invoke/MethodHandle" ∧ y.cls ≠ "java/lang/invoke/VarHandle")
    (hM : MetFree l y (head1 [Jvm.Cond.code y bytes maxL none] rm) (fun a U => a = as' ∧ Z.Warmed39 U.vm ∧ U.heap = h) (fun _ _ _ _ _ => True) (fun _ U o U' => ∃ v L, o = .returned v ∧ Q v U'.heap L ∧ FrameEnd U o U' L rm.cells rm.slots))
    (hf : rm.frames + 1 ≤ R.frames) (hl : W + (maxL + 11) + rm.locals ≤ R.locals) (eT : T.heap = h) {g : JFrame} (hg : g.method = m) (hsize : g.locals.size = c.maxLocals) {a : Addr} {argsL rest : List Value} (hlen : ∀ sig, parseMethodDescriptor y.desc = some sig → argsL.length = sig.parameters.length)
    (hstack : g.stack = argsL.reverse ++ .ref a :: rest) (hW : 2 * g.monitorRoom + (rest.map fun v => v.category).sum ≤ W) (hdg : decode c.code g.pc = .ok (.invokespecial index, 3)) (has : (.ref a :: argsL).toArray = as') (hc : cells + rm.cells ≤ R.cells) (hs : slots + rm.slots ≤ R.slots) {P : Outcome → State → Prop}
    (k : ∀ (v : Option Value) (T' : State) (L : List Loc), Stand p l e R s m args below meth c T' (locs ++ L) (cells + rm.cells) (slots + rm.slots) → Q v T'.heap L → own_Fin p e below P T' { g with pc := g.pc + 3, stack := v.toList ++ rest }) : own_Fin p e below P T g :=
  own_callIB X hx hZ hin hown w1 w2 w4 hy (backOf (W := W) hM hZ w4 w3 hf hl) eT hg hsize hlen hstack hW hdg has hc hs k
theorem own_callVB (X : Stand p l e R s m args below meth c T locs cells slots) (hx : p.tables.exec = Jvm.exec) (hZ : Z.Warmed39 s.vm) {own C : String} {index : Nat} {y z : MethodName} {W : Nat} {kc ks : Nat} {as' : Array Value} {Q : Option Value → Heap → List Loc → Prop}
    (hown : s.vm.findClass own = some m.cls) (w1 : (Jvm.Cond.methodLink own index y).before a0 Z = true) (w2 : (Jvm.Cond.declares y).before a0 Z = true) (nf : ∀ {s : State}, Z.Warmed39 s.vm → NotFace s y) (w5 : (Jvm.Cond.selects C y z).before a0 Z = true) (w6 : (Jvm.Cond.instanceMethod z).before a0 Z = true) (hy : y.cls ≠ "java/lang/invoke/MethodHandle" ∧ y.cls ≠ "java/lang/invoke/VarHandle")
    {b : Addr} (E : Exa Z h b C)
    (hK : Back l R p e below s args z 3 W (fun A a => a = as' ∧ A.U.heap = h ∧ A.cells + kc ≤ R.cells ∧ A.slots + ks ≤ R.slots) (fun A _ v B => ∃ L, Q v B.U.heap L ∧ B.locs = A.locs ++ L ∧ B.cells = A.cells + kc ∧ B.slots = A.slots + ks))
    (eT : T.heap = h) {g : JFrame} (hg : g.method = m) (hsize : g.locals.size = c.maxLocals) {argsL rest : List Value} (hlen : ∀ sig, parseMethodDescriptor y.desc = some sig → argsL.length = sig.parameters.length)
    (hstack : g.stack = argsL.reverse ++ .ref b :: rest) (hW : 2 * g.monitorRoom + (rest.map fun v => v.category).sum ≤ W) (hdg : decode c.code g.pc = .ok (.invokevirtual index, 3)) (has : (.ref b :: argsL).toArray = as') (hc : cells + kc ≤ R.cells) (hs : slots + ks ≤ R.slots) {P : Outcome → State → Prop}
    (k : ∀ (v : Option Value) (T' : State) (L : List Loc), Stand p l e R s m args below meth c T' (locs ++ L) (cells + kc) (slots + ks) → Q v T'.heap L → own_Fin p e below P T' { g with pc := g.pc + 3, stack := v.toList ++ rest }) : own_Fin p e below P T g := by
  obtain ⟨cq, kq, qa, qb, qc⟩ := isOf hZ eT E
  obtain ⟨v, _, ⟨U', L', k', n'⟩, -, X', ⟨Lc, hQ, l1, l2, l3⟩, st⟩ := X.virtualBack hx (y := y) (z := z) hown (mvT hZ w1) (mvT hZ w2) (nf hZ) (mvT hZ w5) (mvT hZ w6) hy hK qa qc hg hsize (Steps.refl _) hlen hstack hW hdg (fun _ _ => ⟨has, eT, hc, hs⟩)
  dsimp only [Pt.U, Pt.locs, Pt.cells, Pt.slots] at X' l1 l2 l3 st hQ
  subst l1 l2 l3
  exact own_by (fun _ q => st.trans q) (k v U' Lc X' hQ)
theorem own_callV (X : Stand p l e R s m args below meth c T locs cells slots) (hx : p.tables.exec = Jvm.exec) (hZ : Z.Warmed39 s.vm) {own C : String} {index : Nat} {y z : MethodName} {bytes : ByteArray} {maxL W : Nat} {ret : Option FieldType} {rm : Room} {as' : Array Value} {Q : Option Value → Heap → List Loc → Prop}
    (hown : s.vm.findClass own = some m.cls) (w1 : (Jvm.Cond.methodLink own index y).before a0 Z = true) (w2 : (Jvm.Cond.declares y).before a0 Z = true) (nf : ∀ {s : State}, Z.Warmed39 s.vm → NotFace s y) (w5 : (Jvm.Cond.selects C y z).before a0 Z = true) (w6 : (Jvm.Cond.instanceMethod z).before a0 Z = true) (w4 : (Jvm.Cond.code z bytes maxL ret).before a0 Z = true) (w3 : (Jvm.Cond.initialized z.cls).before a0 Z = true) (hy : y.cls ≠ "java/lang/invoke/MethodHandle" ∧ y.cls ≠ "java/lang/invoke/VarHandle")
    {b : Addr} (E : Exa Z h b C)
    (hM : MetFree l z (head1 [Jvm.Cond.code z bytes maxL ret] rm) (fun a U => a = as' ∧ Z.Warmed39 U.vm ∧ U.heap = h) (fun _ _ _ _ _ => True) (fun _ U o U' => ∃ v L, o = .returned v ∧ Q v U'.heap L ∧ FrameEnd U o U' L rm.cells rm.slots))
    (hf : rm.frames + 1 ≤ R.frames) (hl : W + (maxL + 11) + rm.locals ≤ R.locals) (eT : T.heap = h) {g : JFrame} (hg : g.method = m) (hsize : g.locals.size = c.maxLocals) {argsL rest : List Value} (hlen : ∀ sig, parseMethodDescriptor y.desc = some sig → argsL.length = sig.parameters.length)
    (hstack : g.stack = argsL.reverse ++ .ref b :: rest) (hW : 2 * g.monitorRoom + (rest.map fun v => v.category).sum ≤ W) (hdg : decode c.code g.pc = .ok (.invokevirtual index, 3)) (has : (.ref b :: argsL).toArray = as') (hc : cells + rm.cells ≤ R.cells) (hs : slots + rm.slots ≤ R.slots) {P : Outcome → State → Prop}
    (k : ∀ (v : Option Value) (T' : State) (L : List Loc), Stand p l e R s m args below meth c T' (locs ++ L) (cells + rm.cells) (slots + rm.slots) → Q v T'.heap L → own_Fin p e below P T' { g with pc := g.pc + 3, stack := v.toList ++ rest }) : own_Fin p e below P T g :=
  own_callVB X hx hZ hown w1 w2 nf w5 w6 hy E (backOf (W := W) hM hZ w4 w3 hf hl) eT hg hsize hlen hstack hW hdg has hc hs k
theorem own_narR {t : FieldType} {w : Value} (ht : t.isReference = true) : narrow t w = w := by cases t <;> first | rfl | (cases ht)
theorem own_fldI {t : Term} {C n d : String} {k : Int32} {a : Addr} (hv : (Jvm.Cond.eq (.field t C n d) (.int k)).value args s none s [] = some true) (ht : t.eval args s none [] s = some (.ref a)) : Fld s s.heap a C n d (.int k) := by
  obtain ⟨x, y, e1, e2, k1, k2⟩ := cmp_v (Or.inl hv)
  rw [Term.int_eval] at e2
  cases e2
  obtain ⟨z, rfl⟩ := k2
  have q : z = k := by simpa [Jvm.Cond.value, e1, Term.int_eval] using hv
  rw [fld_at ht] at e1
  exact Fld.start (q ▸ e1)
theorem own_clash {x y z : Int32} (h : x = y) (n : ¬ y = z) : ¬ x = z := fun q => n (h.symm.trans q)
theorem own_rem (x y : Int32) (n : Int) (hy : y.toInt = n) (hn : 0 < n) : 0 ≤ ((x &&& (2147483647 : Int32)) % y).toInt ∧ ((x &&& (2147483647 : Int32)) % y).toInt < n := by
  have h0 := c_and x 2147483647 (by decide)
  have h1 := (c_irem (x &&& 2147483647) y n hy).1 h0.1
  rw [h1]
  exact ⟨Int.emod_nonneg _ (by omega), Int.emod_lt_of_pos _ hn⟩
theorem own_eqI {x y : Int32} (h : x.toInt = y.toInt) : x = y := Int32.toInt_inj.mp h
theorem own_neI {x y : Int32} (h : ¬ x = y) : x.toInt ≠ y.toInt := fun q => h (Int32.toInt_inj.mp q)
theorem own_fitsR {t : FieldType} {v : Value} (ht : t.isReference = true) (hv : v.isRef = true) : fits t v = true := by
  rcases ref_cases hv with rfl | ⟨a, rfl⟩ <;> cases t <;> first | rfl | (cases ht)
theorem own_cat {v : Value} (hv : v.isRef = true) : v.category = 1 := by
  rcases ref_cases hv with rfl | ⟨a, rfl⟩ <;> rfl
theorem own_store1 {L : Array Slot} {i : Nat} {v : Value} {o : Slot} {L' : Array Slot} (hold : L[i]? = some o) (ho : One o) (hv : v.category = 1) (e : L.setIfInBounds i (.val v) = L') : storeLocals L i v = some L' := by
  rw [← e]; exact XS.store1 hold ho hv
end OwnKit
theorem own_tasks (x : Int32) : 1 ≤ ((x &&& (7 : Int32)) + (1 : Int32)).toInt ∧ ((x &&& (7 : Int32)) + (1 : Int32)).toInt ≤ 8 := by
  have a := c_and x 7 (by decide)
  have b := c_iadd (x &&& 7) 1
  have r := rng32 ((x &&& 7) + 1)
  have e1 : (1 : Int32).toInt = 1 := by decide
  have e7 : (7 : Int32).toInt = 7 := by decide
  omega
theorem own_small (x k : Int32) (hk : 1 ≤ k.toInt) : 0 ≤ ((x &&& (2147483647 : Int32)) % k).toInt ∧ ((x &&& (2147483647 : Int32)) % k).toInt < k.toInt := by
  have a := c_and x 2147483647 (by decide)
  have b := (c_iremV (x &&& 2147483647) k).1 a.1 (by omega)
  exact ⟨b.1, b.2.1⟩
theorem own_key {t : Int32} (h0 : 0 ≤ t.toInt) (h1 : t.toInt < 2147483647) : (t + (1 : Int32)).toInt64.toInt = t.toInt + 1 := by
  have a := c_iadd t 1
  have b := rng32 (t + 1)
  have e1 : (1 : Int32).toInt = 1 := by decide
  rw [c_i2l]
  omega
theorem own_key2 {t : Int32} (h0 : 0 ≤ t.toInt) (h1 : t.toInt < 2147483647) : ((t + (1 : Int32)).toInt64) = (t.toInt64 + (1 : Int64)) := by
  apply Int64.toInt_inj.mp
  have a := own_key h0 h1
  have b := c_ladd t.toInt64 1
  have r := rng64 (t.toInt64 + 1)
  have q := c_i2l t
  have e1 : (1 : Int64).toInt = 1 := by decide
  omega
theorem own_step {i z : Int32} (h0 : 0 ≤ i.toInt) (h1 : i < z) : 0 ≤ (i + (1 : Int32)).toInt ∧ (i + (1 : Int32)).toInt = i.toInt + 1 := by
  have h2 := Int32.lt_iff_toInt_lt.mp h1
  have a := c_iadd i 1
  have b := rng32 (i + 1)
  have b2 := rng32 z
  have e1 : (1 : Int32).toInt = 1 := by decide
  omega
theorem own_nlt0 {i : Int32} (h0 : 0 ≤ i.toInt) : ¬ i < (0 : Int32) := fun q => by
  have h2 := Int32.lt_iff_toInt_lt.mp q
  have e0 : (0 : Int32).toInt = 0 := by decide
  omega
theorem own_d3_0 : decode jdk_65_method_101_code 0 = .ok (.iconst 0, 1) := by decide +kernel
theorem own_d3_1 : decode jdk_65_method_101_code 1 = .ok (.istore_n 3, 1) := by decide +kernel
theorem own_d3_2 : decode jdk_65_method_101_code 2 = .ok (.aload_n 0, 1) := by decide +kernel
theorem own_d3_3 : decode jdk_65_method_101_code 3 = .ok (.arraylength, 1) := by decide +kernel
theorem own_d3_4 : decode jdk_65_method_101_code 4 = .ok (.istore 4, 2) := by decide +kernel
theorem own_d3_6 : decode jdk_65_method_101_code 6 = .ok (.iload_n 3, 1) := by decide +kernel
theorem own_d3_7 : decode jdk_65_method_101_code 7 = .ok (.iload 4, 2) := by decide +kernel
theorem own_d3_9 : decode jdk_65_method_101_code 9 = .ok (.if_icmp .ge 13, 3) := by decide +kernel
theorem own_d3_22 : decode jdk_65_method_101_code 22 = .ok (.return_, 1) := by decide +kernel
theorem own_d3_12 : decode jdk_65_method_101_code 12 = .ok (.aload_n 0, 1) := by decide +kernel
theorem own_d3_13 : decode jdk_65_method_101_code 13 = .ok (.iload_n 3, 1) := by decide +kernel
theorem own_d3_14 : decode jdk_65_method_101_code 14 = .ok (.lload_n 1, 1) := by decide +kernel
theorem own_d3_15 : decode jdk_65_method_101_code 15 = .ok (.lastore, 1) := by decide +kernel
theorem own_d3_16 : decode jdk_65_method_101_code 16 = .ok (.iinc 3 1, 3) := by decide +kernel
theorem own_d3_19 : decode jdk_65_method_101_code 19 = .ok (.goto (-13), 3) := by decide +kernel
theorem own_rm3_ef (m : MethodId) (a : Addr) (x0 : Int64) : entryFrame m #[(.ref a), (.long x0)] 5 = mkF m 0 #[.val (.ref a), .val (.long x0), .second, .unset, .unset] [] := by  first | (simp [entryFrame, mkF, argsToLocals, Value.category]; done) | rfl
def own_rm3_Q (Z : State) (a : Addr) (x0 : Int64) (cl : Cell) (z : Int32) (h0 : Heap) (n0 : Nat) (v : Option Value) (h : Heap) (L : List Loc) : Prop := v = none ∧ Fr n0 L ∧ Keep h0 h [a] ∧ ∃ cl' : Cell, Arr Z h a cl' .long ∧ cl'.slots.size = z.toNatClampNeg
theorem own_pn_java_util_Arrays : plainName "java/util/Arrays" = true := by first | (simp [plainName, overriddenIn]; done) | decide +kernel
set_option maxRecDepth 65536 in
set_option maxHeartbeats 40000000 in
theorem own_rm3 (l : Launch) (Z : State) (a0 : Array Value) (hw : ∀ d ∈ tables_1, d.before a0 Z = true) (ws : List Jvm.Cond) (a : Addr) (x0 : Int64) (cl₀ : Cell) (z : Int32) (h0 : Heap) (n0 : Nat) (Z0 : n0 ≤ h0.size) (Ar : Arr Z h0 a cl₀ .long) (Sz : cl₀.slots.size = z.toNatClampNeg) (Pz : ¬ z < 0) (ga : n0 ≤ a) :
    MetFree l (⟨"java/util/Arrays", "fill", "([JJ)V"⟩ : MethodName) (head1 (Jvm.Cond.code (⟨"java/util/Arrays", "fill", "([JJ)V"⟩ : MethodName) jdk_65_method_101_code 5 none :: ws) ({ frames := 0, cells := 0, slots := 0, locals := 0 } : Room)) (fun aa U => aa = #[(.ref a), (.long x0)] ∧ Z.Warmed39 U.vm ∧ U.heap = h0) (fun _ _ _ _ _ => True) (fun _ U o U' => ∃ v L, o = .returned v ∧ own_rm3_Q Z a x0 cl₀ z h0 n0 v U'.heap L ∧ FrameEnd U o U' L ({ frames := 0, cells := 0, slots := 0, locals := 0 } : Room).cells ({ frames := 0, cells := 0, slots := 0, locals := 0 } : Room).slots) := by
  refine MetFree.of_bodySF (plainFor_of_name own_pn_java_util_Arrays) hisR ?_
  intro p e s m args below meth c s₁ Bd hml0 hP hK
  obtain ⟨rfl, hZ, hh⟩ := hP
  have hx := Bd.exec
  have hby := Bd.bytes
  have hml : c.maxLocals = 5 := hml0
  have hown : s.vm.findClass "java/util/Arrays" = some m.cls := findClass_of_methodNamed Bd.named
  have hnm := (name_of_methodNamed Bd.named Bd.method).1
  have hlk := Bd.notSynchronized
  have X0 : Stand p l e ({ frames := 0, cells := 0, slots := 0, locals := 0 } : Room) s m #[(.ref a), (.long x0)] below meth c s₁ [] 0 0 := Stand.of_body Bd
  have e0 : s₁.heap = h0 := by rw [← hh, Bd.state]; rfl
  have N0 := Fr.nil n0
  refine own_start (Q := own_rm3_Q Z a x0 cl₀ z h0 n0) (own_rm3_ef m a x0) ?_
  refine own_by (T' := s₁) (g' := (mkF m 1 #[.val (.ref a), .val (.long x0), .second, .unset, .unset] [(.int (0 : Int32))])) (fun _ kq => XS.iconst X0.here hx rfl (hb hby own_d3_0) kq) ?_
  refine own_by (T' := s₁) (g' := (mkF m 2 #[.val (.ref a), .val (.long x0), .second, .val (.int (0 : Int32)), .unset] [])) (fun _ kq => XS.istoreN X0.here hx rfl (hb hby own_d3_1) rfl (l' := #[.val (.ref a), .val (.long x0), .second, .val (.int (0 : Int32)), .unset]) rfl kq) ?_
  refine own_by (T' := s₁) (g' := (mkF m 3 #[.val (.ref a), .val (.long x0), .second, .val (.int (0 : Int32)), .unset] [(.ref a)])) (fun _ kq => XS.aloadN X0.here hx rfl (hb hby own_d3_2) rfl rfl kq) ?_
  refine own_by (T' := s₁) (g' := (mkF m 4 #[.val (.ref a), .val (.long x0), .second, .val (.int (0 : Int32)), .unset] [(.int z)])) (fun _ kq => X0.arraylength hx (by rw [e0]; exact Ar.1) (State.isArrayOf_alike hZ.alike Ar.2.1) (g := (mkF m 3 #[.val (.ref a), .val (.long x0), .second, .val (.int (0 : Int32)), .unset] [(.ref a)])) rfl rfl (hb hby own_d3_3) _ (by rw [len_of Sz Pz]; exact kq)) ?_
  refine own_by (T' := s₁) (g' := (mkF m 6 #[.val (.ref a), .val (.long x0), .second, .val (.int (0 : Int32)), .val (.int z)] [])) (fun _ kq => XS.istore X0.here hx rfl (hb hby own_d3_4) rfl (l' := #[.val (.ref a), .val (.long x0), .second, .val (.int (0 : Int32)), .val (.int z)]) rfl kq) ?_
  suffices loop : ∀ (k : Nat) (T : State) (h : Heap) (cl : Cell) (i : Int32) (locs : List Loc), Stand p l e ({ frames := 0, cells := 0, slots := 0, locals := 0 } : Room) s m #[(.ref a), (.long x0)] below meth c T locs 0 0 → T.heap = h → Keep h0 h [a] → Arr Z h a cl .long → cl.slots.size = z.toNatClampNeg → 0 ≤ i.toInt → z.toInt - i.toInt = k → Fr n0 locs → own_Fin p e below (own_P s (own_rm3_Q Z a x0 cl₀ z h0 n0) 0 0) T (mkF m 6 #[.val (.ref a), .val (.long x0), .second, .val (.int i), .val (.int z)] []) from
    loop z.toInt.toNat _ _ _ _ _ X0 e0 (Keep.refl h0 [a]) Ar Sz (by decide) (by have q : 0 ≤ z.toInt := (by have := Int32.not_lt.mp Pz; exact Int32.le_iff_toInt_le.mp this); have e0 : (0 : Int32).toInt = 0 := (by decide); omega) N0
  intro k
  induction k with
  | zero =>
    intro T h cl i locs X eT K Aq Sq hi hk N
    refine own_by (T' := T) (g' := (mkF m 7 #[.val (.ref a), .val (.long x0), .second, .val (.int i), .val (.int z)] [(.int i)])) (fun _ kq => XS.iloadN X.here hx rfl (hb hby own_d3_6) rfl kq) ?_
    refine own_by (T' := T) (g' := (mkF m 9 #[.val (.ref a), .val (.long x0), .second, .val (.int i), .val (.int z)] [(.int z), (.int i)])) (fun _ kq => XS.iload X.here hx rfl (hb hby own_d3_7) rfl kq) ?_
    refine own_by (T' := T) (g' := (mkF m 22 #[.val (.ref a), .val (.long x0), .second, .val (.int i), .val (.int z)] [])) (fun _ kq => XS.icmpYes X.here hx rfl (pc0 := 9) (pc' := 22) rfl (hb hby own_d3_9) rfl (flt (fun q => by have := Int32.lt_iff_toInt_lt.mp q; omega)).2.1 (by decide) (by decide) kq) ?_
    exact own_end X (v := none) (fun _ => rfl) hlk (fun hr => X.returnOut hx Bd.returns (hb hby own_d3_22) hr) (by rw [eT]; exact ⟨rfl, N, K, _, Aq, Sq⟩) (by decide) (by decide)
  | succ k ih =>
    intro T h cl i locs X eT K Aq Sq hi hk N
    have hlt : i < z := Int32.lt_iff_toInt_lt.mpr (by omega)
    refine own_by (T' := T) (g' := (mkF m 7 #[.val (.ref a), .val (.long x0), .second, .val (.int i), .val (.int z)] [(.int i)])) (fun _ kq => XS.iloadN X.here hx rfl (hb hby own_d3_6) rfl kq) ?_
    refine own_by (T' := T) (g' := (mkF m 9 #[.val (.ref a), .val (.long x0), .second, .val (.int i), .val (.int z)] [(.int z), (.int i)])) (fun _ kq => XS.iload X.here hx rfl (hb hby own_d3_7) rfl kq) ?_
    refine own_by (T' := T) (g' := (mkF m 12 #[.val (.ref a), .val (.long x0), .second, .val (.int i), .val (.int z)] [])) (fun _ kq => XS.icmpNo X.here hx rfl (hb hby own_d3_9) rfl (tlt hlt).2.1 kq) ?_
    refine own_by (T' := T) (g' := (mkF m 13 #[.val (.ref a), .val (.long x0), .second, .val (.int i), .val (.int z)] [(.ref a)])) (fun _ kq => XS.aloadN X.here hx rfl (hb hby own_d3_12) rfl rfl kq) ?_
    refine own_by (T' := T) (g' := (mkF m 14 #[.val (.ref a), .val (.long x0), .second, .val (.int i), .val (.int z)] [(.int i), (.ref a)])) (fun _ kq => XS.iloadN X.here hx rfl (hb hby own_d3_13) rfl kq) ?_
    refine own_by (T' := T) (g' := (mkF m 15 #[.val (.ref a), .val (.long x0), .second, .val (.int i), .val (.int z)] [(.long x0), (.int i), (.ref a)])) (fun _ kq => XS.lloadN X.here hx rfl (hb hby own_d3_14) rfl kq) ?_
    have hin : ¬ (i < 0 ∨ cl.slots.size ≤ i.toNatClampNeg) := inb_of Sq ⟨own_nlt0 hi, hlt⟩
    obtain ⟨T1, h1, X1, e1, W1, st1⟩ := stJ X hx hZ eT Aq (j := i) hin (g := (mkF m 15 #[.val (.ref a), .val (.long x0), .second, .val (.int i), .val (.int z)] [(.long x0), (.int i), (.ref a)])) rfl rfl (hb hby own_d3_15)
    have Kq := K.wr W1 (Or.inl (List.mem_of_getElem? (i := 0) rfl))
    have Aq := Aq.same W1
    have N1 := Fr.snoc X1 N ga
    refine own_by (T' := T1) (g' := (mkF m 16 #[.val (.ref a), .val (.long x0), .second, .val (.int i), .val (.int z)] [])) st1 ?_
    refine own_by (T' := T1) (g' := (mkF m 19 #[.val (.ref a), .val (.long x0), .second, .val (.int (i + (1 : Int32))), .val (.int z)] [])) (fun _ kq => XS.iinc X1.here hx rfl (hb hby own_d3_16) rfl (l' := #[.val (.ref a), .val (.long x0), .second, .val (.int (i + (1 : Int32))), .val (.int z)]) rfl kq) ?_
    refine own_by (T' := T1) (g' := (mkF m 6 #[.val (.ref a), .val (.long x0), .second, .val (.int (i + (1 : Int32))), .val (.int z)] [])) (fun _ kq => XS.goto X1.here hx rfl (pc0 := 19) (pc' := 6) rfl (hb hby own_d3_19) (by decide) (by decide) kq) ?_
    exact ih _ _ _ _ _ X1 e1 Kq Aq (by rw [sz_set]; exact Sq) (own_step hi hlt).1 (by have q := (own_step hi hlt).2; omega) N1
theorem own_d1_0 : decode prog_61_method_5_code 0 = .ok (.aload_n 0, 1) := by decide +kernel
theorem own_d1_1 : decode prog_61_method_5_code 1 = .ok (.getstatic 3, 3) := by decide +kernel
theorem own_d1_4 : decode prog_61_method_5_code 4 = .ok (.if_acmp .ne 7, 3) := by decide +kernel
theorem own_d1_7 : decode prog_61_method_5_code 7 = .ok (.lconst 1, 1) := by decide +kernel
theorem own_d1_8 : decode prog_61_method_5_code 8 = .ok (.goto 7, 3) := by decide +kernel
theorem own_d1_15 : decode prog_61_method_5_code 15 = .ok (.lreturn, 1) := by decide +kernel
theorem own_d1_11 : decode prog_61_method_5_code 11 = .ok (.iload_n 1, 1) := by decide +kernel
theorem own_d1_12 : decode prog_61_method_5_code 12 = .ok (.iconst 1, 1) := by decide +kernel
theorem own_d1_13 : decode prog_61_method_5_code 13 = .ok (.iadd, 1) := by decide +kernel
theorem own_d1_14 : decode prog_61_method_5_code 14 = .ok (.i2l, 1) := by decide +kernel
theorem own_rm1_ef (m : MethodId) (a : Addr) (t : Int32) : entryFrame m #[(.ref a), (.int t)] 2 = mkF m 0 #[.val (.ref a), .val (.int t)] [] := by  first | (simp [entryFrame, mkF, argsToLocals, Value.category]; done) | rfl
def own_rm1_Q (Z : State) (a : Addr) (t : Int32) (aSTOCK : Addr) (h0 : Heap) (n0 : Nat) (v : Option Value) (h : Heap) (L : List Loc) : Prop := v = some (.long (if a = aSTOCK then (1 : Int64) else ((t + (1 : Int32)).toInt64))) ∧ Fr n0 L ∧ h = h0
theorem own_pn_com_example_careful_commit_carefulcommit_drill_Scenario : plainName "com/example/careful_commit/carefulcommit/drill/Scenario" = true := by first | (simp [plainName, overriddenIn]; done) | decide +kernel
set_option maxRecDepth 65536 in
set_option maxHeartbeats 40000000 in
theorem own_rm1 (l : Launch) (Z : State) (a0 : Array Value) (hw : ∀ d ∈ tables_1, d.before a0 Z = true) (ws : List Jvm.Cond) (a : Addr) (t : Int32) (aSTOCK : Addr) (h0 : Heap) (n0 : Nat) (Z0 : n0 ≤ h0.size) (S_STOCK : Sta Z h0 "com/example/careful_commit/carefulcommit/drill/Scenario" "STOCK" "Lcom/example/careful_commit/carefulcommit/drill/Scenario;" (.ref aSTOCK)) :
    MetFree l (⟨"com/example/careful_commit/carefulcommit/drill/Scenario", "keyFor", "(I)J"⟩ : MethodName) (head1 (Jvm.Cond.code (⟨"com/example/careful_commit/carefulcommit/drill/Scenario", "keyFor", "(I)J"⟩ : MethodName) prog_61_method_5_code 2 (some .long) :: ws) ({ frames := 0, cells := 0, slots := 0, locals := 0 } : Room)) (fun aa U => aa = #[(.ref a), (.int t)] ∧ Z.Warmed39 U.vm ∧ U.heap = h0) (fun _ _ _ _ _ => True) (fun _ U o U' => ∃ v L, o = .returned v ∧ own_rm1_Q Z a t aSTOCK h0 n0 v U'.heap L ∧ FrameEnd U o U' L ({ frames := 0, cells := 0, slots := 0, locals := 0 } : Room).cells ({ frames := 0, cells := 0, slots := 0, locals := 0 } : Room).slots) := by
  refine MetFree.of_bodySF (plainFor_of_name own_pn_com_example_careful_commit_carefulcommit_drill_Scenario) hisR ?_
  intro p e s m args below meth c s₁ Bd hml0 hP hK
  obtain ⟨rfl, hZ, hh⟩ := hP
  have hx := Bd.exec
  have hby := Bd.bytes
  have hml : c.maxLocals = 2 := hml0
  have hown : s.vm.findClass "com/example/careful_commit/carefulcommit/drill/Scenario" = some m.cls := findClass_of_methodNamed Bd.named
  have hnm := (name_of_methodNamed Bd.named Bd.method).1
  have hlk := Bd.notSynchronized
  have X0 : Stand p l e ({ frames := 0, cells := 0, slots := 0, locals := 0 } : Room) s m #[(.ref a), (.int t)] below meth c s₁ [] 0 0 := Stand.of_body Bd
  have e0 : s₁.heap = h0 := by rw [← hh, Bd.state]; rfl
  have N0 := Fr.nil n0
  refine own_start (Q := own_rm1_Q Z a t aSTOCK h0 n0) (own_rm1_ef m a t) ?_
  refine own_by (T' := s₁) (g' := (mkF m 1 #[.val (.ref a), .val (.int t)] [(.ref a)])) (fun _ kq => XS.aloadN X0.here hx rfl (hb hby own_d1_0) rfl rfl kq) ?_
  obtain ⟨T1, X1, e1, st1⟩ := getS2 X0 hx hZ hown (host := "") (Or.inl (hw _ (List.mem_of_getElem? (i := 9) rfl))) Via.refl e0 S_STOCK (g := (mkF m 1 #[.val (.ref a), .val (.int t)] [(.ref a)])) rfl (hb hby own_d1_1)
  refine own_by (T' := T1) (g' := (mkF m 4 #[.val (.ref a), .val (.int t)] [(.ref aSTOCK), (.ref a)])) st1 ?_
  by_cases hc2 : a = aSTOCK
  · refine own_by (T' := T1) (g' := (mkF m 7 #[.val (.ref a), .val (.int t)] [])) (fun _ kq => Jvm.RoadKit.acmp (g := (mkF m 4 #[.val (.ref a), .val (.int t)] [(.ref aSTOCK), (.ref a)])) X1 hx rfl rfl rfl (pc0 := 4) (pc' := 7) (same := true) rfl (hb hby own_d1_4) rfl (decide_eq_true (congrArg Value.ref hc2)) (by decide) (by decide) kq) ?_
    refine own_by (T' := T1) (g' := (mkF m 8 #[.val (.ref a), .val (.int t)] [(.long (1 : Int64))])) (fun _ kq => XS.lconst X1.here hx rfl (hb hby own_d1_7) kq) ?_
    refine own_by (T' := T1) (g' := (mkF m 15 #[.val (.ref a), .val (.int t)] [(.long (1 : Int64))])) (fun _ kq => XS.goto X1.here hx rfl (pc0 := 8) (pc' := 15) rfl (hb hby own_d1_8) (by decide) (by decide) kq) ?_
    exact own_end X1 (v := some (.long (1 : Int64))) (fun h => by rw [Bd.returns] at h; cases h) hlk (fun hr => retOut X1 hx Bd.returns rfl (Or.inr (Or.inl ⟨rfl, rfl, _, rfl⟩)) (hb hby own_d1_15) hr) (by rw [e1]; exact ⟨by rw [if_pos hc2], N0, rfl⟩) (by decide) (by decide)
  · refine own_by (T' := T1) (g' := (mkF m 11 #[.val (.ref a), .val (.int t)] [])) (fun _ kq => Jvm.RoadKit.acmp (g := (mkF m 4 #[.val (.ref a), .val (.int t)] [(.ref aSTOCK), (.ref a)])) X1 hx rfl rfl rfl (pc0 := 4) (pc' := 11) (same := false) rfl (hb hby own_d1_4) rfl (decide_eq_false fun q => hc2 (Value.ref.inj q)) (by decide) (by decide) kq) ?_
    refine own_by (T' := T1) (g' := (mkF m 12 #[.val (.ref a), .val (.int t)] [(.int t)])) (fun _ kq => XS.iloadN X1.here hx rfl (hb hby own_d1_11) rfl kq) ?_
    refine own_by (T' := T1) (g' := (mkF m 13 #[.val (.ref a), .val (.int t)] [(.int (1 : Int32)), (.int t)])) (fun _ kq => XS.iconst X1.here hx rfl (hb hby own_d1_12) kq) ?_
    refine own_by (T' := T1) (g' := (mkF m 14 #[.val (.ref a), .val (.int t)] [(.int (t + (1 : Int32)))])) (fun _ kq => XS.iadd X1.here hx rfl (hb hby own_d1_13) rfl kq) ?_
    refine own_by (T' := T1) (g' := (mkF m 15 #[.val (.ref a), .val (.int t)] [(.long ((t + (1 : Int32)).toInt64))])) (fun _ kq => XS.i2l X1.here hx rfl (hb hby own_d1_14) rfl kq) ?_
    exact own_end X1 (v := some (.long ((t + (1 : Int32)).toInt64))) (fun h => by rw [Bd.returns] at h; cases h) hlk (fun hr => retOut X1 hx Bd.returns rfl (Or.inr (Or.inl ⟨rfl, rfl, _, rfl⟩)) (hb hby own_d1_15) hr) (by rw [e1]; exact ⟨by rw [if_neg hc2], N0, rfl⟩) (by decide) (by decide)
theorem own_cap8 {n : Int32} (h1 : 1 ≤ n.toInt) (h8 : n.toInt ≤ 8) : n.toNatClampNeg ≤ 8 := by
  have q : n.toNatClampNeg = n.toInt.toNat := rfl
  omega
theorem own_d2_0 : decode prog_61_method_4_code 0 = .ok (.aload_n 0, 1) := by decide +kernel
theorem own_d2_1 : decode prog_61_method_4_code 1 = .ok (.getstatic 3, 3) := by decide +kernel
theorem own_d2_4 : decode prog_61_method_4_code 4 = .ok (.if_acmp .ne 15, 3) := by decide +kernel
theorem own_d2_7 : decode prog_61_method_4_code 7 = .ok (.iconst 1, 1) := by decide +kernel
theorem own_d2_8 : decode prog_61_method_4_code 8 = .ok (.newarray .long, 2) := by decide +kernel
theorem own_d2_10 : decode prog_61_method_4_code 10 = .ok (.dup, 1) := by decide +kernel
theorem own_d2_11 : decode prog_61_method_4_code 11 = .ok (.iconst 0, 1) := by decide +kernel
theorem own_d2_12 : decode prog_61_method_4_code 12 = .ok (.lload_n 2, 1) := by decide +kernel
theorem own_d2_13 : decode prog_61_method_4_code 13 = .ok (.lastore, 1) := by decide +kernel
theorem own_d2_14 : decode prog_61_method_4_code 14 = .ok (.astore 4, 2) := by decide +kernel
theorem own_d2_16 : decode prog_61_method_4_code 16 = .ok (.goto 14, 3) := by decide +kernel
theorem own_d2_30 : decode prog_61_method_4_code 30 = .ok (.aload 4, 2) := by decide +kernel
theorem own_d2_32 : decode prog_61_method_4_code 32 = .ok (.areturn, 1) := by decide +kernel
theorem own_d2_19 : decode prog_61_method_4_code 19 = .ok (.iload_n 1, 1) := by decide +kernel
theorem own_d2_20 : decode prog_61_method_4_code 20 = .ok (.newarray .long, 2) := by decide +kernel
theorem own_d2_22 : decode prog_61_method_4_code 22 = .ok (.astore 4, 2) := by decide +kernel
theorem own_d2_24 : decode prog_61_method_4_code 24 = .ok (.aload 4, 2) := by decide +kernel
theorem own_d2_26 : decode prog_61_method_4_code 26 = .ok (.lconst 1, 1) := by decide +kernel
theorem own_d2_27 : decode prog_61_method_4_code 27 = .ok (.invokestatic 29, 3) := by decide +kernel
theorem own_pd__28_5bJJ_29V : parseMethodDescriptor "([JJ)V" = some ⟨[(.array .long), .long], none⟩ := by decide +kernel
theorem own_rm2_ef (m : MethodId) (a : Addr) (n : Int32) (q : Int64) : entryFrame m #[(.ref a), (.int n), (.long q)] 5 = mkF m 0 #[.val (.ref a), .val (.int n), .val (.long q), .second, .unset] [] := by  first | (simp [entryFrame, mkF, argsToLocals, Value.category]; done) | rfl
def own_rm2_Q (Z : State) (a : Addr) (n : Int32) (q : Int64) (aSTOCK : Addr) (h0 : Heap) (n0 : Nat) (v : Option Value) (h : Heap) (L : List Loc) : Prop := ∃ (b : Addr) (cl : Cell), v = some (.ref b) ∧ Fr n0 L ∧ Old Z n0 h ∧ Arr Z h b cl .long ∧ cl.slots.size = (if a = aSTOCK then (1 : Int32) else n).toNatClampNeg
set_option maxRecDepth 65536 in
set_option maxHeartbeats 40000000 in
theorem own_rm2 (l : Launch) (Z : State) (a0 : Array Value) (hw : ∀ d ∈ tables_1, d.before a0 Z = true) (ws : List Jvm.Cond) (a : Addr) (n : Int32) (q : Int64) (aSTOCK : Addr) (h0 : Heap) (n0 : Nat) (Z0 : n0 ≤ h0.size) (S_STOCK : Sta Z h0 "com/example/careful_commit/carefulcommit/drill/Scenario" "STOCK" "Lcom/example/careful_commit/carefulcommit/drill/Scenario;" (.ref aSTOCK)) (O0 : Old Z n0 h0) (hn1 : 1 ≤ n.toInt) (hn8 : n.toInt ≤ 8) :
    MetFree l (⟨"com/example/careful_commit/carefulcommit/drill/Scenario", "quantities", "(IJ)[J"⟩ : MethodName) (head1 (Jvm.Cond.code (⟨"com/example/careful_commit/carefulcommit/drill/Scenario", "quantities", "(IJ)[J"⟩ : MethodName) prog_61_method_4_code 5 (some (.array .long)) :: ws) ({ frames := 1, cells := 1, slots := 8, locals := 16 } : Room)) (fun aa U => aa = #[(.ref a), (.int n), (.long q)] ∧ Z.Warmed39 U.vm ∧ U.heap = h0) (fun _ _ _ _ _ => True) (fun _ U o U' => ∃ v L, o = .returned v ∧ own_rm2_Q Z a n q aSTOCK h0 n0 v U'.heap L ∧ FrameEnd U o U' L ({ frames := 1, cells := 1, slots := 8, locals := 16 } : Room).cells ({ frames := 1, cells := 1, slots := 8, locals := 16 } : Room).slots) := by
  refine MetFree.of_bodySF (plainFor_of_name own_pn_com_example_careful_commit_carefulcommit_drill_Scenario) hisR ?_
  intro p e s m args below meth c s₁ Bd hml0 hP hK
  obtain ⟨rfl, hZ, hh⟩ := hP
  have hx := Bd.exec
  have hby := Bd.bytes
  have hml : c.maxLocals = 5 := hml0
  have hown : s.vm.findClass "com/example/careful_commit/carefulcommit/drill/Scenario" = some m.cls := findClass_of_methodNamed Bd.named
  have hnm := (name_of_methodNamed Bd.named Bd.method).1
  have hlk := Bd.notSynchronized
  have X0 : Stand p l e ({ frames := 1, cells := 1, slots := 8, locals := 16 } : Room) s m #[(.ref a), (.int n), (.long q)] below meth c s₁ [] 0 0 := Stand.of_body Bd
  have e0 : s₁.heap = h0 := by rw [← hh, Bd.state]; rfl
  have N0 := Fr.nil n0
  refine own_start (Q := own_rm2_Q Z a n q aSTOCK h0 n0) (own_rm2_ef m a n q) ?_
  refine own_by (T' := s₁) (g' := (mkF m 1 #[.val (.ref a), .val (.int n), .val (.long q), .second, .unset] [(.ref a)])) (fun _ kq => XS.aloadN X0.here hx rfl (hb hby own_d2_0) rfl rfl kq) ?_
  obtain ⟨T1, X1, e1, st1⟩ := getS2 X0 hx hZ hown (host := "") (Or.inl (hw _ (List.mem_of_getElem? (i := 9) rfl))) Via.refl e0 S_STOCK (g := (mkF m 1 #[.val (.ref a), .val (.int n), .val (.long q), .second, .unset] [(.ref a)])) rfl (hb hby own_d2_1)
  refine own_by (T' := T1) (g' := (mkF m 4 #[.val (.ref a), .val (.int n), .val (.long q), .second, .unset] [(.ref aSTOCK), (.ref a)])) st1 ?_
  by_cases hc2 : a = aSTOCK
  · refine own_by (T' := T1) (g' := (mkF m 7 #[.val (.ref a), .val (.int n), .val (.long q), .second, .unset] [])) (fun _ kq => Jvm.RoadKit.acmp (g := (mkF m 4 #[.val (.ref a), .val (.int n), .val (.long q), .second, .unset] [(.ref aSTOCK), (.ref a)])) X1 hx rfl rfl rfl (pc0 := 4) (pc' := 7) (same := true) rfl (hb hby own_d2_4) rfl (decide_eq_true (congrArg Value.ref hc2)) (by decide) (by decide) kq) ?_
    refine own_by (T' := T1) (g' := (mkF m 8 #[.val (.ref a), .val (.int n), .val (.long q), .second, .unset] [(.int (1 : Int32))])) (fun _ kq => XS.iconst X1.here hx rfl (hb hby own_d2_7) kq) ?_
    obtain ⟨T3, h3, k3, X3, e3, E3, A3, st3⟩ := newP X1 hx hZ (hw _ (List.mem_of_getElem? (i := 15) rfl)) e1 (g := (mkF m 8 #[.val (.ref a), .val (.int n), .val (.long q), .second, .unset] [(.int (1 : Int32))])) rfl (hb hby own_d2_8) rfl (by decide) (cap := 1) (by decide) (by decide) (by decide) (by decide)
    obtain ⟨b3, g3⟩ : ∃ z, z = h0.size := ⟨_, rfl⟩
    rw [← g3] at A3 st3
    have g_b3 : n0 ≤ b3 := Nat.le_trans (Nat.le_trans Z0 (Keep.refl h0 []).1) (Nat.le_of_eq g3.symm)
    have sz_b3 : h0.size ≤ b3 := Nat.le_trans (Keep.refl h0 []).1 (Nat.le_of_eq g3.symm)
    have V_b3 : Arv Z h3 b3 k3 .long (1 : Int32) [(.long (0 : Int64))] (.long (0 : Int64)) := (Arv.new A3 (by decide)).pad (pad_rep [] (.long (0 : Int64)) 1)
    refine own_by (T' := T3) (g' := (mkF m 10 #[.val (.ref a), .val (.int n), .val (.long q), .second, .unset] [(.ref b3)])) st3 ?_
    refine own_by (T' := T3) (g' := (mkF m 11 #[.val (.ref a), .val (.int n), .val (.long q), .second, .unset] [(.ref b3), (.ref b3)])) (fun _ kq => XS.dup X3.here hx rfl (hb hby own_d2_10) rfl rfl kq) ?_
    refine own_by (T' := T3) (g' := (mkF m 12 #[.val (.ref a), .val (.int n), .val (.long q), .second, .unset] [(.int (0 : Int32)), (.ref b3), (.ref b3)])) (fun _ kq => XS.iconst X3.here hx rfl (hb hby own_d2_11) kq) ?_
    refine own_by (T' := T3) (g' := (mkF m 13 #[.val (.ref a), .val (.int n), .val (.long q), .second, .unset] [(.long q), (.int (0 : Int32)), (.ref b3), (.ref b3)])) (fun _ kq => XS.lloadN X3.here hx rfl (hb hby own_d2_12) rfl kq) ?_
    obtain ⟨cl4, Ar4, q4, S4, P4, H4, G4⟩ := id V_b3
    have hin4 : ¬ ((0 : Int32) < 0 ∨ cl4.slots.size ≤ ((0 : Int32)).toNatClampNeg) := inb_of S4 ⟨by decide, by decide⟩
    obtain ⟨T5, h5, X5, e5, W5, st5⟩ := stJ X3 hx hZ e3 Ar4 (j := (0 : Int32)) hin4 (g := (mkF m 13 #[.val (.ref a), .val (.int n), .val (.long q), .second, .unset] [(.long q), (.int (0 : Int32)), (.ref b3), (.ref b3)])) rfl rfl (hb hby own_d2_13)
    have V5 : Arv Z h5 b3 k3 .long (1 : Int32) [(.long q)] (.long (0 : Int64)) := Arv.set Ar4 q4 S4 P4 H4 G4 rfl W5 0 rfl (Nat.le_of_ble_eq_true rfl)
    have N5 := Fr.snoc X5 N0 g_b3
    refine own_by (T' := T5) (g' := (mkF m 14 #[.val (.ref a), .val (.int n), .val (.long q), .second, .unset] [(.ref b3)])) st5 ?_
    refine own_by (T' := T5) (g' := (mkF m 16 #[.val (.ref a), .val (.int n), .val (.long q), .second, .val (.ref b3)] [])) (fun _ kq => XS.astore X5.here hx rfl (hb hby own_d2_14) rfl rfl (l' := #[.val (.ref a), .val (.int n), .val (.long q), .second, .val (.ref b3)]) rfl kq) ?_
    refine own_by (T' := T5) (g' := (mkF m 30 #[.val (.ref a), .val (.int n), .val (.long q), .second, .val (.ref b3)] [])) (fun _ kq => XS.goto X5.here hx rfl (pc0 := 16) (pc' := 30) rfl (hb hby own_d2_16) (by decide) (by decide) kq) ?_
    refine own_by (T' := T5) (g' := (mkF m 32 #[.val (.ref a), .val (.int n), .val (.long q), .second, .val (.ref b3)] [(.ref b3)])) (fun _ kq => XS.aload X5.here hx rfl (hb hby own_d2_30) rfl rfl kq) ?_
    have o6_ := ((O0.ext E3).wr W5 g_b3)
    obtain ⟨clF, ArF, qF, SF, PF, HF, GF⟩ := id V5
    exact own_end X5 (v := some (.ref b3)) (fun h => by rw [Bd.returns] at h; cases h) hlk (fun hr => retOut X5 hx Bd.returns (own_narR rfl) (Or.inr (Or.inr (Or.inr (Or.inr ⟨rfl, rfl, rfl⟩)))) (hb hby own_d2_32) hr) (by rw [e5]; exact ⟨_, clF, rfl, N5, o6_, ArF, by rw [if_pos hc2]; exact SF⟩) (by decide) (by decide)
  · refine own_by (T' := T1) (g' := (mkF m 19 #[.val (.ref a), .val (.int n), .val (.long q), .second, .unset] [])) (fun _ kq => Jvm.RoadKit.acmp (g := (mkF m 4 #[.val (.ref a), .val (.int n), .val (.long q), .second, .unset] [(.ref aSTOCK), (.ref a)])) X1 hx rfl rfl rfl (pc0 := 4) (pc' := 19) (same := false) rfl (hb hby own_d2_4) rfl (decide_eq_false fun q => hc2 (Value.ref.inj q)) (by decide) (by decide) kq) ?_
    refine own_by (T' := T1) (g' := (mkF m 20 #[.val (.ref a), .val (.int n), .val (.long q), .second, .unset] [(.int n)])) (fun _ kq => XS.iloadN X1.here hx rfl (hb hby own_d2_19) rfl kq) ?_
    obtain ⟨T7, h7, k7, X7, e7, E7, A7, st7⟩ := newP X1 hx hZ (hw _ (List.mem_of_getElem? (i := 15) rfl)) e1 (g := (mkF m 20 #[.val (.ref a), .val (.int n), .val (.long q), .second, .unset] [(.int n)])) rfl (hb hby own_d2_20) rfl (own_nlt0 (by omega)) (cap := 8) (own_cap8 hn1 hn8) (by decide) (by decide) (by decide)
    obtain ⟨b7, g7⟩ : ∃ z, z = h0.size := ⟨_, rfl⟩
    rw [← g7] at A7 st7
    have g_b7 : n0 ≤ b7 := Nat.le_trans (Nat.le_trans Z0 (Keep.refl h0 []).1) (Nat.le_of_eq g7.symm)
    have sz_b7 : h0.size ≤ b7 := Nat.le_trans (Keep.refl h0 []).1 (Nat.le_of_eq g7.symm)
    have V_b7 := Arv.new A7 (own_nlt0 (by omega))
    refine own_by (T' := T7) (g' := (mkF m 22 #[.val (.ref a), .val (.int n), .val (.long q), .second, .unset] [(.ref b7)])) st7 ?_
    refine own_by (T' := T7) (g' := (mkF m 24 #[.val (.ref a), .val (.int n), .val (.long q), .second, .val (.ref b7)] [])) (fun _ kq => XS.astore X7.here hx rfl (hb hby own_d2_22) rfl rfl (l' := #[.val (.ref a), .val (.int n), .val (.long q), .second, .val (.ref b7)]) rfl kq) ?_
    refine own_by (T' := T7) (g' := (mkF m 26 #[.val (.ref a), .val (.int n), .val (.long q), .second, .val (.ref b7)] [(.ref b7)])) (fun _ kq => XS.aload X7.here hx rfl (hb hby own_d2_24) rfl rfl kq) ?_
    refine own_by (T' := T7) (g' := (mkF m 27 #[.val (.ref a), .val (.int n), .val (.long q), .second, .val (.ref b7)] [(.long (1 : Int64)), (.ref b7)])) (fun _ kq => XS.lconst X7.here hx rfl (hb hby own_d2_26) kq) ?_
    obtain ⟨clF, ArF, qF, SF, PF, HF, GF⟩ := id V_b7
    have o8_ := (O0.ext E7)
    have k9_ := ((Keep.refl h0 []).ext E7)
    refine own_callS X7 hx hZ (y := (⟨"java/util/Arrays", "fill", "([JJ)V"⟩ : MethodName)) hown (hw _ (List.mem_of_getElem? (i := 18) rfl)) (hw _ (List.mem_of_getElem? (i := 19) rfl)) (hw _ (List.mem_of_getElem? (i := 20) rfl)) (hw _ (List.mem_of_getElem? (i := 21) rfl)) (by decide) (own_rm3 l Z a0 hw [] b7 (1 : Int64) clF n h7 n0 (Nat.le_trans Z0 k9_.1) ArF SF PF g_b7) (by decide) (by decide) e7 (g := (mkF m 27 #[.val (.ref a), .val (.int n), .val (.long q), .second, .val (.ref b7)] [(.long (1 : Int64)), (.ref b7)])) rfl (by rw [hml]; rfl) (argsL := [(.ref b7), (.long (1 : Int64))]) (rest := []) (lenOf own_pd__28_5bJJ_29V rfl) rfl (W := 0) (by show 2 * 0 + _ ≤ _; exact Nat.le_of_eq rfl) (hb hby own_d2_27) rfl (by decide) (by decide) ?_
    rintro rv10 T10 L10 X10 ⟨rfl, Nq10, KF, clG, ArG, SG⟩
    have N10 := Fr.app N0 Nq10
    show own_Fin p e below _ T10 (mkF m 30 #[.val (.ref a), .val (.int n), .val (.long q), .second, .val (.ref b7)] [])
    refine own_by (T' := T10) (g' := (mkF m 32 #[.val (.ref a), .val (.int n), .val (.long q), .second, .val (.ref b7)] [(.ref b7)])) (fun _ kq => XS.aload X10.here hx rfl (hb hby own_d2_30) rfl rfl kq) ?_
    have o11_ := (o8_.keep KF (allS g_b7 all0))
    exact own_end X10 (v := some (.ref b7)) (fun h => by rw [Bd.returns] at h; cases h) hlk (fun hr => retOut X10 hx Bd.returns (own_narR rfl) (Or.inr (Or.inr (Or.inr (Or.inr ⟨rfl, rfl, rfl⟩)))) (hb hby own_d2_32) hr) (⟨_, clG, rfl, N10, o11_, ArG, by rw [if_neg hc2]; exact SG⟩) (by decide) (by decide)
theorem own_pd__28I_29J : parseMethodDescriptor "(I)J" = some ⟨[.int], some .long⟩ := by decide +kernel
theorem own_pd__28IJ_29_5bJ : parseMethodDescriptor "(IJ)[J" = some ⟨[.int, .long], some (.array .long)⟩ := by decide +kernel
theorem own_rm0_ef (m : MethodId) (p0 : Int32) (p1 : Int32) (p2 : Int32) (p3 : Int32) (q4 : Int64) : entryFrame m #[(.int p0), (.int p1), (.int p2), (.int p3), (.long q4)] maxLocals = mkF m 0 #[.val (.int p0), .val (.int p1), .val (.int p2), .val (.int p3), .val (.long q4), .second, .unset, .unset, .unset, .unset, .unset, .unset, .unset, .unset, .unset, .unset, .unset, .unset, .unset, .unset] [] := by  first | (simp [entryFrame, mkF, argsToLocals, Value.category, maxLocals]; done) | rfl
def own_rm0_Q (Z : State) (p0 : Int32) (p1 : Int32) (p2 : Int32) (p3 : Int32) (q4 : Int64) (aSTOCK : Addr) (aSPREAD : Addr) (h0 : Heap) (n0 : Nat) (v : Option Value) (h : Heap) (L : List Loc) : Prop := v = some (.int 1) ∧ Fr n0 L
theorem own_pn_com_example_careful_commit_carefulcommit_drill_ScenarioKeyForPinLaw : plainName "com/example/careful_commit/carefulcommit/drill/ScenarioKeyForPinLaw" = true := by first | (simp [plainName, overriddenIn]; done) | decide +kernel
set_option maxRecDepth 65536 in
set_option maxHeartbeats 40000000 in
theorem own_rm0 (l : Launch) (Z : State) (a0 : Array Value) (hw : ∀ d ∈ tables_1, d.before a0 Z = true) (ws : List Jvm.Cond) (p0 : Int32) (p1 : Int32) (p2 : Int32) (p3 : Int32) (q4 : Int64) (aSTOCK : Addr) (aSPREAD : Addr) (h0 : Heap) (n0 : Nat) (Z0 : n0 ≤ h0.size) (S_STOCK : Sta Z Z.heap "com/example/careful_commit/carefulcommit/drill/Scenario" "STOCK" "Lcom/example/careful_commit/carefulcommit/drill/Scenario;" (.ref aSTOCK)) (S_SPREAD : Sta Z Z.heap "com/example/careful_commit/carefulcommit/drill/Scenario" "SPREAD" "Lcom/example/careful_commit/carefulcommit/drill/Scenario;" (.ref aSPREAD)) (E_STOCK : Exa Z Z.heap aSTOCK "com/example/careful_commit/carefulcommit/drill/Scenario") (E_SPREAD : Exa Z Z.heap aSPREAD "com/example/careful_commit/carefulcommit/drill/Scenario") (n_SPREAD_STOCK : ¬ aSPREAD = aSTOCK) (O0 : Old Z n0 h0) :
    MetFree l x (head1 (Jvm.Cond.code x code maxLocals ret :: ws) room_1) (fun aa U => aa = #[(.int p0), (.int p1), (.int p2), (.int p3), (.long q4)] ∧ Z.Warmed39 U.vm ∧ U.heap = h0) (fun _ _ _ _ _ => True) (fun _ U o U' => ∃ v L, o = .returned v ∧ own_rm0_Q Z p0 p1 p2 p3 q4 aSTOCK aSPREAD h0 n0 v U'.heap L ∧ FrameEnd U o U' L room_1.cells room_1.slots) := by
  refine MetFree.of_bodySF (plainFor_of_name own_pn_com_example_careful_commit_carefulcommit_drill_ScenarioKeyForPinLaw) hisR ?_
  intro p e s m args below meth c s₁ Bd hml0 hP hK
  obtain ⟨rfl, hZ, hh⟩ := hP
  have hx := Bd.exec
  have hby := Bd.bytes
  have hml : c.maxLocals = 20 := hml0
  have hown : s.vm.findClass "com/example/careful_commit/carefulcommit/drill/ScenarioKeyForPinLaw" = some m.cls := findClass_of_methodNamed Bd.named
  have hnm := (name_of_methodNamed Bd.named Bd.method).1
  have hlk := Bd.notSynchronized
  have X0 : Stand p l e room_1 s m #[(.int p0), (.int p1), (.int p2), (.int p3), (.long q4)] below meth c s₁ [] 0 0 := Stand.of_body Bd
  have e0 : s₁.heap = h0 := by rw [← hh, Bd.state]; rfl
  have N0 := Fr.nil n0
  refine own_start (Q := own_rm0_Q Z p0 p1 p2 p3 q4 aSTOCK aSPREAD h0 n0) (own_rm0_ef m p0 p1 p2 p3 q4) ?_
  refine own_by (T' := s₁) (g' := (mkF m 1 #[.val (.int p0), .val (.int p1), .val (.int p2), .val (.int p3), .val (.long q4), .second, .unset, .unset, .unset, .unset, .unset, .unset, .unset, .unset, .unset, .unset, .unset, .unset, .unset, .unset] [(.int p0)])) (fun _ kq => XS.iloadN X0.here hx rfl (hb hby at_0) rfl kq) ?_
  refine own_by (T' := s₁) (g' := (mkF m 2 #[.val (.int p0), .val (.int p1), .val (.int p2), .val (.int p3), .val (.long q4), .second, .unset, .unset, .unset, .unset, .unset, .unset, .unset, .unset, .unset, .unset, .unset, .unset, .unset, .unset] [(.int (1 : Int32)), (.int p0)])) (fun _ kq => XS.iconst X0.here hx rfl (hb hby at_1) kq) ?_
  refine own_by (T' := s₁) (g' := (mkF m 3 #[.val (.int p0), .val (.int p1), .val (.int p2), .val (.int p3), .val (.long q4), .second, .unset, .unset, .unset, .unset, .unset, .unset, .unset, .unset, .unset, .unset, .unset, .unset, .unset, .unset] [(.int (p0 &&& (1 : Int32)))])) (fun _ kq => XS.iand X0.here hx rfl (hb hby at_2) rfl kq) ?_
  by_cases hc1 : (p0 &&& (1 : Int32)) = (0 : Int32)
  · refine own_by (T' := s₁) (g' := (mkF m 6 #[.val (.int p0), .val (.int p1), .val (.int p2), .val (.int p3), .val (.long q4), .second, .unset, .unset, .unset, .unset, .unset, .unset, .unset, .unset, .unset, .unset, .unset, .unset, .unset, .unset] [])) (fun _ kq => XS.ifNo X0.here hx rfl (hb hby at_3) rfl ((if0 _ _).trans (teq hc1).2) kq) ?_
    obtain ⟨T2, X2, e2, st2⟩ := getS2 X0 hx hZ hown (host := "") (Or.inl (hw _ (List.mem_of_getElem? (i := 0) rfl))) Via.refl e0 (S_STOCK.ext O0.2) (g := (mkF m 6 #[.val (.int p0), .val (.int p1), .val (.int p2), .val (.int p3), .val (.long q4), .second, .unset, .unset, .unset, .unset, .unset, .unset, .unset, .unset, .unset, .unset, .unset, .unset, .unset, .unset] [])) rfl (hb hby at_6)
    refine own_by (T' := T2) (g' := (mkF m 9 #[.val (.int p0), .val (.int p1), .val (.int p2), .val (.int p3), .val (.long q4), .second, .unset, .unset, .unset, .unset, .unset, .unset, .unset, .unset, .unset, .unset, .unset, .unset, .unset, .unset] [(.ref aSTOCK)])) st2 ?_
    refine own_by (T' := T2) (g' := (mkF m 15 #[.val (.int p0), .val (.int p1), .val (.int p2), .val (.int p3), .val (.long q4), .second, .unset, .unset, .unset, .unset, .unset, .unset, .unset, .unset, .unset, .unset, .unset, .unset, .unset, .unset] [(.ref aSTOCK)])) (fun _ kq => XS.goto X2.here hx rfl (pc0 := 9) (pc' := 15) rfl (hb hby at_9) (by decide) (by decide) kq) ?_
    refine own_by (T' := T2) (g' := (mkF m 17 #[.val (.int p0), .val (.int p1), .val (.int p2), .val (.int p3), .val (.long q4), .second, .val (.ref aSTOCK), .unset, .unset, .unset, .unset, .unset, .unset, .unset, .unset, .unset, .unset, .unset, .unset, .unset] [])) (fun _ kq => XS.astore X2.here hx rfl (hb hby at_15) rfl rfl (l' := #[.val (.int p0), .val (.int p1), .val (.int p2), .val (.int p3), .val (.long q4), .second, .val (.ref aSTOCK), .unset, .unset, .unset, .unset, .unset, .unset, .unset, .unset, .unset, .unset, .unset, .unset, .unset]) rfl kq) ?_
    refine own_by (T' := T2) (g' := (mkF m 18 #[.val (.int p0), .val (.int p1), .val (.int p2), .val (.int p3), .val (.long q4), .second, .val (.ref aSTOCK), .unset, .unset, .unset, .unset, .unset, .unset, .unset, .unset, .unset, .unset, .unset, .unset, .unset] [(.int p1)])) (fun _ kq => XS.iloadN X2.here hx rfl (hb hby at_17) rfl kq) ?_
    refine own_by (T' := T2) (g' := (mkF m 20 #[.val (.int p0), .val (.int p1), .val (.int p2), .val (.int p3), .val (.long q4), .second, .val (.ref aSTOCK), .unset, .unset, .unset, .unset, .unset, .unset, .unset, .unset, .unset, .unset, .unset, .unset, .unset] [(.int (2147483647 : Int32)), (.int p1)])) (fun _ kq => X2.ldcInt hx hown (mvT hZ (hw _ (List.mem_of_getElem? (i := 3) rfl))) (g := (mkF m 18 #[.val (.int p0), .val (.int p1), .val (.int p2), .val (.int p3), .val (.long q4), .second, .val (.ref aSTOCK), .unset, .unset, .unset, .unset, .unset, .unset, .unset, .unset, .unset, .unset, .unset, .unset, .unset] [(.int p1)])) rfl (hb hby at_18) _ kq) ?_
    refine own_by (T' := T2) (g' := (mkF m 21 #[.val (.int p0), .val (.int p1), .val (.int p2), .val (.int p3), .val (.long q4), .second, .val (.ref aSTOCK), .unset, .unset, .unset, .unset, .unset, .unset, .unset, .unset, .unset, .unset, .unset, .unset, .unset] [(.int (p1 &&& (2147483647 : Int32)))])) (fun _ kq => XS.iand X2.here hx rfl (hb hby at_20) rfl kq) ?_
    refine own_by (T' := T2) (g' := (mkF m 23 #[.val (.int p0), .val (.int p1), .val (.int p2), .val (.int p3), .val (.long q4), .second, .val (.ref aSTOCK), .unset, .unset, .unset, .unset, .unset, .unset, .unset, .unset, .unset, .unset, .unset, .unset, .unset] [(.int (2147483647 : Int32)), (.int (p1 &&& (2147483647 : Int32)))])) (fun _ kq => X2.ldcInt hx hown (mvT hZ (hw _ (List.mem_of_getElem? (i := 3) rfl))) (g := (mkF m 21 #[.val (.int p0), .val (.int p1), .val (.int p2), .val (.int p3), .val (.long q4), .second, .val (.ref aSTOCK), .unset, .unset, .unset, .unset, .unset, .unset, .unset, .unset, .unset, .unset, .unset, .unset, .unset] [(.int (p1 &&& (2147483647 : Int32)))])) rfl (hb hby at_21) _ kq) ?_
    refine own_by (T' := T2) (g' := (mkF m 24 #[.val (.int p0), .val (.int p1), .val (.int p2), .val (.int p3), .val (.long q4), .second, .val (.ref aSTOCK), .unset, .unset, .unset, .unset, .unset, .unset, .unset, .unset, .unset, .unset, .unset, .unset, .unset] [(.int ((p1 &&& (2147483647 : Int32)) % (2147483647 : Int32)))])) (fun _ kq => Jvm.RoadKit.iremM (g := (mkF m 23 #[.val (.int p0), .val (.int p1), .val (.int p2), .val (.int p3), .val (.long q4), .second, .val (.ref aSTOCK), .unset, .unset, .unset, .unset, .unset, .unset, .unset, .unset, .unset, .unset, .unset, .unset, .unset] [(.int (2147483647 : Int32)), (.int (p1 &&& (2147483647 : Int32)))])) X2 hx rfl (hb hby at_23) rfl (by decide) kq) ?_
    refine own_by (T' := T2) (g' := (mkF m 26 #[.val (.int p0), .val (.int p1), .val (.int p2), .val (.int p3), .val (.long q4), .second, .val (.ref aSTOCK), .val (.int ((p1 &&& (2147483647 : Int32)) % (2147483647 : Int32))), .unset, .unset, .unset, .unset, .unset, .unset, .unset, .unset, .unset, .unset, .unset, .unset] [])) (fun _ kq => XS.istore X2.here hx rfl (hb hby at_24) rfl (l' := #[.val (.int p0), .val (.int p1), .val (.int p2), .val (.int p3), .val (.long q4), .second, .val (.ref aSTOCK), .val (.int ((p1 &&& (2147483647 : Int32)) % (2147483647 : Int32))), .unset, .unset, .unset, .unset, .unset, .unset, .unset, .unset, .unset, .unset, .unset, .unset]) rfl kq) ?_
    have ht := own_rem p1 (2147483647 : Int32) 2147483647 (by decide) (by decide)
    generalize hg_t : ((p1 &&& (2147483647 : Int32)) % (2147483647 : Int32)) = t at ht ⊢
    refine own_by (T' := T2) (g' := (mkF m 27 #[.val (.int p0), .val (.int p1), .val (.int p2), .val (.int p3), .val (.long q4), .second, .val (.ref aSTOCK), .val (.int t), .unset, .unset, .unset, .unset, .unset, .unset, .unset, .unset, .unset, .unset, .unset, .unset] [(.int p2)])) (fun _ kq => XS.iloadN X2.here hx rfl (hb hby at_26) rfl kq) ?_
    refine own_by (T' := T2) (g' := (mkF m 29 #[.val (.int p0), .val (.int p1), .val (.int p2), .val (.int p3), .val (.long q4), .second, .val (.ref aSTOCK), .val (.int t), .unset, .unset, .unset, .unset, .unset, .unset, .unset, .unset, .unset, .unset, .unset, .unset] [(.int (2147483647 : Int32)), (.int p2)])) (fun _ kq => X2.ldcInt hx hown (mvT hZ (hw _ (List.mem_of_getElem? (i := 3) rfl))) (g := (mkF m 27 #[.val (.int p0), .val (.int p1), .val (.int p2), .val (.int p3), .val (.long q4), .second, .val (.ref aSTOCK), .val (.int t), .unset, .unset, .unset, .unset, .unset, .unset, .unset, .unset, .unset, .unset, .unset, .unset] [(.int p2)])) rfl (hb hby at_27) _ kq) ?_
    refine own_by (T' := T2) (g' := (mkF m 30 #[.val (.int p0), .val (.int p1), .val (.int p2), .val (.int p3), .val (.long q4), .second, .val (.ref aSTOCK), .val (.int t), .unset, .unset, .unset, .unset, .unset, .unset, .unset, .unset, .unset, .unset, .unset, .unset] [(.int (p2 &&& (2147483647 : Int32)))])) (fun _ kq => XS.iand X2.here hx rfl (hb hby at_29) rfl kq) ?_
    refine own_by (T' := T2) (g' := (mkF m 32 #[.val (.int p0), .val (.int p1), .val (.int p2), .val (.int p3), .val (.long q4), .second, .val (.ref aSTOCK), .val (.int t), .unset, .unset, .unset, .unset, .unset, .unset, .unset, .unset, .unset, .unset, .unset, .unset] [(.int (2147483647 : Int32)), (.int (p2 &&& (2147483647 : Int32)))])) (fun _ kq => X2.ldcInt hx hown (mvT hZ (hw _ (List.mem_of_getElem? (i := 3) rfl))) (g := (mkF m 30 #[.val (.int p0), .val (.int p1), .val (.int p2), .val (.int p3), .val (.long q4), .second, .val (.ref aSTOCK), .val (.int t), .unset, .unset, .unset, .unset, .unset, .unset, .unset, .unset, .unset, .unset, .unset, .unset] [(.int (p2 &&& (2147483647 : Int32)))])) rfl (hb hby at_30) _ kq) ?_
    refine own_by (T' := T2) (g' := (mkF m 33 #[.val (.int p0), .val (.int p1), .val (.int p2), .val (.int p3), .val (.long q4), .second, .val (.ref aSTOCK), .val (.int t), .unset, .unset, .unset, .unset, .unset, .unset, .unset, .unset, .unset, .unset, .unset, .unset] [(.int ((p2 &&& (2147483647 : Int32)) % (2147483647 : Int32)))])) (fun _ kq => Jvm.RoadKit.iremM (g := (mkF m 32 #[.val (.int p0), .val (.int p1), .val (.int p2), .val (.int p3), .val (.long q4), .second, .val (.ref aSTOCK), .val (.int t), .unset, .unset, .unset, .unset, .unset, .unset, .unset, .unset, .unset, .unset, .unset, .unset] [(.int (2147483647 : Int32)), (.int (p2 &&& (2147483647 : Int32)))])) X2 hx rfl (hb hby at_32) rfl (by decide) kq) ?_
    refine own_by (T' := T2) (g' := (mkF m 35 #[.val (.int p0), .val (.int p1), .val (.int p2), .val (.int p3), .val (.long q4), .second, .val (.ref aSTOCK), .val (.int t), .val (.int ((p2 &&& (2147483647 : Int32)) % (2147483647 : Int32))), .unset, .unset, .unset, .unset, .unset, .unset, .unset, .unset, .unset, .unset, .unset] [])) (fun _ kq => XS.istore X2.here hx rfl (hb hby at_33) rfl (l' := #[.val (.int p0), .val (.int p1), .val (.int p2), .val (.int p3), .val (.long q4), .second, .val (.ref aSTOCK), .val (.int t), .val (.int ((p2 &&& (2147483647 : Int32)) % (2147483647 : Int32))), .unset, .unset, .unset, .unset, .unset, .unset, .unset, .unset, .unset, .unset, .unset]) rfl kq) ?_
    have hu := own_rem p2 (2147483647 : Int32) 2147483647 (by decide) (by decide)
    generalize hg_u : ((p2 &&& (2147483647 : Int32)) % (2147483647 : Int32)) = u at hu ⊢
    refine own_by (T' := T2) (g' := (mkF m 36 #[.val (.int p0), .val (.int p1), .val (.int p2), .val (.int p3), .val (.long q4), .second, .val (.ref aSTOCK), .val (.int t), .val (.int u), .unset, .unset, .unset, .unset, .unset, .unset, .unset, .unset, .unset, .unset, .unset] [(.int p3)])) (fun _ kq => XS.iloadN X2.here hx rfl (hb hby at_35) rfl kq) ?_
    refine own_by (T' := T2) (g' := (mkF m 38 #[.val (.int p0), .val (.int p1), .val (.int p2), .val (.int p3), .val (.long q4), .second, .val (.ref aSTOCK), .val (.int t), .val (.int u), .unset, .unset, .unset, .unset, .unset, .unset, .unset, .unset, .unset, .unset, .unset] [(.int (7 : Int32)), (.int p3)])) (fun _ kq => XS.bipush X2.here hx rfl (hb hby at_36) kq) ?_
    refine own_by (T' := T2) (g' := (mkF m 39 #[.val (.int p0), .val (.int p1), .val (.int p2), .val (.int p3), .val (.long q4), .second, .val (.ref aSTOCK), .val (.int t), .val (.int u), .unset, .unset, .unset, .unset, .unset, .unset, .unset, .unset, .unset, .unset, .unset] [(.int (p3 &&& (7 : Int32)))])) (fun _ kq => XS.iand X2.here hx rfl (hb hby at_38) rfl kq) ?_
    refine own_by (T' := T2) (g' := (mkF m 40 #[.val (.int p0), .val (.int p1), .val (.int p2), .val (.int p3), .val (.long q4), .second, .val (.ref aSTOCK), .val (.int t), .val (.int u), .unset, .unset, .unset, .unset, .unset, .unset, .unset, .unset, .unset, .unset, .unset] [(.int (1 : Int32)), (.int (p3 &&& (7 : Int32)))])) (fun _ kq => XS.iconst X2.here hx rfl (hb hby at_39) kq) ?_
    refine own_by (T' := T2) (g' := (mkF m 41 #[.val (.int p0), .val (.int p1), .val (.int p2), .val (.int p3), .val (.long q4), .second, .val (.ref aSTOCK), .val (.int t), .val (.int u), .unset, .unset, .unset, .unset, .unset, .unset, .unset, .unset, .unset, .unset, .unset] [(.int ((p3 &&& (7 : Int32)) + (1 : Int32)))])) (fun _ kq => XS.iadd X2.here hx rfl (hb hby at_40) rfl kq) ?_
    refine own_by (T' := T2) (g' := (mkF m 43 #[.val (.int p0), .val (.int p1), .val (.int p2), .val (.int p3), .val (.long q4), .second, .val (.ref aSTOCK), .val (.int t), .val (.int u), .val (.int ((p3 &&& (7 : Int32)) + (1 : Int32))), .unset, .unset, .unset, .unset, .unset, .unset, .unset, .unset, .unset, .unset] [])) (fun _ kq => XS.istore X2.here hx rfl (hb hby at_41) rfl (l' := #[.val (.int p0), .val (.int p1), .val (.int p2), .val (.int p3), .val (.long q4), .second, .val (.ref aSTOCK), .val (.int t), .val (.int u), .val (.int ((p3 &&& (7 : Int32)) + (1 : Int32))), .unset, .unset, .unset, .unset, .unset, .unset, .unset, .unset, .unset, .unset]) rfl kq) ?_
    have htk := own_tasks p3
    generalize hg_tk : ((p3 &&& (7 : Int32)) + (1 : Int32)) = tk at htk ⊢
    refine own_by (T' := T2) (g' := (mkF m 44 #[.val (.int p0), .val (.int p1), .val (.int p2), .val (.int p3), .val (.long q4), .second, .val (.ref aSTOCK), .val (.int t), .val (.int u), .val (.int tk), .unset, .unset, .unset, .unset, .unset, .unset, .unset, .unset, .unset, .unset] [(.int p1)])) (fun _ kq => XS.iloadN X2.here hx rfl (hb hby at_43) rfl kq) ?_
    refine own_by (T' := T2) (g' := (mkF m 46 #[.val (.int p0), .val (.int p1), .val (.int p2), .val (.int p3), .val (.long q4), .second, .val (.ref aSTOCK), .val (.int t), .val (.int u), .val (.int tk), .unset, .unset, .unset, .unset, .unset, .unset, .unset, .unset, .unset, .unset] [(.int (2147483647 : Int32)), (.int p1)])) (fun _ kq => X2.ldcInt hx hown (mvT hZ (hw _ (List.mem_of_getElem? (i := 3) rfl))) (g := (mkF m 44 #[.val (.int p0), .val (.int p1), .val (.int p2), .val (.int p3), .val (.long q4), .second, .val (.ref aSTOCK), .val (.int t), .val (.int u), .val (.int tk), .unset, .unset, .unset, .unset, .unset, .unset, .unset, .unset, .unset, .unset] [(.int p1)])) rfl (hb hby at_44) _ kq) ?_
    refine own_by (T' := T2) (g' := (mkF m 47 #[.val (.int p0), .val (.int p1), .val (.int p2), .val (.int p3), .val (.long q4), .second, .val (.ref aSTOCK), .val (.int t), .val (.int u), .val (.int tk), .unset, .unset, .unset, .unset, .unset, .unset, .unset, .unset, .unset, .unset] [(.int (p1 &&& (2147483647 : Int32)))])) (fun _ kq => XS.iand X2.here hx rfl (hb hby at_46) rfl kq) ?_
    refine own_by (T' := T2) (g' := (mkF m 49 #[.val (.int p0), .val (.int p1), .val (.int p2), .val (.int p3), .val (.long q4), .second, .val (.ref aSTOCK), .val (.int t), .val (.int u), .val (.int tk), .unset, .unset, .unset, .unset, .unset, .unset, .unset, .unset, .unset, .unset] [(.int tk), (.int (p1 &&& (2147483647 : Int32)))])) (fun _ kq => XS.iload X2.here hx rfl (hb hby at_47) rfl kq) ?_
    refine own_by (T' := T2) (g' := (mkF m 50 #[.val (.int p0), .val (.int p1), .val (.int p2), .val (.int p3), .val (.long q4), .second, .val (.ref aSTOCK), .val (.int t), .val (.int u), .val (.int tk), .unset, .unset, .unset, .unset, .unset, .unset, .unset, .unset, .unset, .unset] [(.int ((p1 &&& (2147483647 : Int32)) % tk))])) (fun _ kq => Jvm.RoadKit.iremM (g := (mkF m 49 #[.val (.int p0), .val (.int p1), .val (.int p2), .val (.int p3), .val (.long q4), .second, .val (.ref aSTOCK), .val (.int t), .val (.int u), .val (.int tk), .unset, .unset, .unset, .unset, .unset, .unset, .unset, .unset, .unset, .unset] [(.int tk), (.int (p1 &&& (2147483647 : Int32)))])) X2 hx rfl (hb hby at_49) rfl (fun q => by rw [q] at htk; exact absurd htk.1 (by decide)) kq) ?_
    refine own_by (T' := T2) (g' := (mkF m 52 #[.val (.int p0), .val (.int p1), .val (.int p2), .val (.int p3), .val (.long q4), .second, .val (.ref aSTOCK), .val (.int t), .val (.int u), .val (.int tk), .val (.int ((p1 &&& (2147483647 : Int32)) % tk)), .unset, .unset, .unset, .unset, .unset, .unset, .unset, .unset, .unset] [])) (fun _ kq => XS.istore X2.here hx rfl (hb hby at_50) rfl (l' := #[.val (.int p0), .val (.int p1), .val (.int p2), .val (.int p3), .val (.long q4), .second, .val (.ref aSTOCK), .val (.int t), .val (.int u), .val (.int tk), .val (.int ((p1 &&& (2147483647 : Int32)) % tk)), .unset, .unset, .unset, .unset, .unset, .unset, .unset, .unset, .unset]) rfl kq) ?_
    have hsm := own_small p1 tk htk.1
    generalize hg_sm : ((p1 &&& (2147483647 : Int32)) % tk) = sm at hsm ⊢
    refine own_by (T' := T2) (g' := (mkF m 54 #[.val (.int p0), .val (.int p1), .val (.int p2), .val (.int p3), .val (.long q4), .second, .val (.ref aSTOCK), .val (.int t), .val (.int u), .val (.int tk), .val (.int sm), .unset, .unset, .unset, .unset, .unset, .unset, .unset, .unset, .unset] [(.ref aSTOCK)])) (fun _ kq => XS.aload X2.here hx rfl (hb hby at_52) rfl rfl kq) ?_
    refine own_by (T' := T2) (g' := (mkF m 56 #[.val (.int p0), .val (.int p1), .val (.int p2), .val (.int p3), .val (.long q4), .second, .val (.ref aSTOCK), .val (.int t), .val (.int u), .val (.int tk), .val (.int sm), .unset, .unset, .unset, .unset, .unset, .unset, .unset, .unset, .unset] [(.int t), (.ref aSTOCK)])) (fun _ kq => XS.iload X2.here hx rfl (hb hby at_54) rfl kq) ?_
    refine own_callV X2 hx hZ (y := (⟨"com/example/careful_commit/carefulcommit/drill/Scenario", "keyFor", "(I)J"⟩ : MethodName)) (z := (⟨"com/example/careful_commit/carefulcommit/drill/Scenario", "keyFor", "(I)J"⟩ : MethodName)) hown (hw _ (List.mem_of_getElem? (i := 4) rfl)) (hw _ (List.mem_of_getElem? (i := 5) rfl)) (own_nf (hw _ (List.mem_of_getElem? (i := 7) rfl))) (hw _ (List.mem_of_getElem? (i := 7) rfl)) (hw _ (List.mem_of_getElem? (i := 6) rfl)) (hw _ (List.mem_of_getElem? (i := 8) rfl)) (hw _ (List.mem_of_getElem? (i := 1) rfl)) (by decide) (E_STOCK.ext O0.2) (own_rm1 l Z a0 hw [] aSTOCK t aSTOCK h0 n0 Z0 (S_STOCK.ext O0.2)) (by decide) (by decide) e2 (g := (mkF m 56 #[.val (.int p0), .val (.int p1), .val (.int p2), .val (.int p3), .val (.long q4), .second, .val (.ref aSTOCK), .val (.int t), .val (.int u), .val (.int tk), .val (.int sm), .unset, .unset, .unset, .unset, .unset, .unset, .unset, .unset, .unset] [(.int t), (.ref aSTOCK)])) rfl (by rw [hml]; rfl) (argsL := [(.int t)]) (rest := []) (lenOf own_pd__28I_29J rfl) rfl (W := 0) (by show 2 * 0 + _ ≤ _; exact Nat.le_of_eq rfl) (hb hby at_56) rfl (by decide) (by decide) ?_
    rintro rv3 T3 L3 X3 ⟨hv3, Nq3, eh3⟩
    have N3 := Fr.app N0 Nq3
    rw [if_pos rfl] at hv3
    subst hv3
    show own_Fin p e below _ T3 (mkF m 59 #[.val (.int p0), .val (.int p1), .val (.int p2), .val (.int p3), .val (.long q4), .second, .val (.ref aSTOCK), .val (.int t), .val (.int u), .val (.int tk), .val (.int sm), .unset, .unset, .unset, .unset, .unset, .unset, .unset, .unset, .unset] [(.long (1 : Int64))])
    refine own_by (T' := T3) (g' := (mkF m 61 #[.val (.int p0), .val (.int p1), .val (.int p2), .val (.int p3), .val (.long q4), .second, .val (.ref aSTOCK), .val (.int t), .val (.int u), .val (.int tk), .val (.int sm), .val (.long (1 : Int64)), .second, .unset, .unset, .unset, .unset, .unset, .unset, .unset] [])) (fun _ kq => XS.lstore X3.here hx rfl (hb hby at_59) rfl (l' := #[.val (.int p0), .val (.int p1), .val (.int p2), .val (.int p3), .val (.long q4), .second, .val (.ref aSTOCK), .val (.int t), .val (.int u), .val (.int tk), .val (.int sm), .val (.long (1 : Int64)), .second, .unset, .unset, .unset, .unset, .unset, .unset, .unset]) rfl kq) ?_
    refine own_by (T' := T3) (g' := (mkF m 63 #[.val (.int p0), .val (.int p1), .val (.int p2), .val (.int p3), .val (.long q4), .second, .val (.ref aSTOCK), .val (.int t), .val (.int u), .val (.int tk), .val (.int sm), .val (.long (1 : Int64)), .second, .unset, .unset, .unset, .unset, .unset, .unset, .unset] [(.ref aSTOCK)])) (fun _ kq => XS.aload X3.here hx rfl (hb hby at_61) rfl rfl kq) ?_
    refine own_by (T' := T3) (g' := (mkF m 65 #[.val (.int p0), .val (.int p1), .val (.int p2), .val (.int p3), .val (.long q4), .second, .val (.ref aSTOCK), .val (.int t), .val (.int u), .val (.int tk), .val (.int sm), .val (.long (1 : Int64)), .second, .unset, .unset, .unset, .unset, .unset, .unset, .unset] [(.int u), (.ref aSTOCK)])) (fun _ kq => XS.iload X3.here hx rfl (hb hby at_63) rfl kq) ?_
    refine own_callV X3 hx hZ (y := (⟨"com/example/careful_commit/carefulcommit/drill/Scenario", "keyFor", "(I)J"⟩ : MethodName)) (z := (⟨"com/example/careful_commit/carefulcommit/drill/Scenario", "keyFor", "(I)J"⟩ : MethodName)) hown (hw _ (List.mem_of_getElem? (i := 4) rfl)) (hw _ (List.mem_of_getElem? (i := 5) rfl)) (own_nf (hw _ (List.mem_of_getElem? (i := 7) rfl))) (hw _ (List.mem_of_getElem? (i := 7) rfl)) (hw _ (List.mem_of_getElem? (i := 6) rfl)) (hw _ (List.mem_of_getElem? (i := 8) rfl)) (hw _ (List.mem_of_getElem? (i := 1) rfl)) (by decide) (E_STOCK.ext O0.2) (own_rm1 l Z a0 hw [] aSTOCK u aSTOCK h0 n0 Z0 (S_STOCK.ext O0.2)) (by decide) (by decide) eh3 (g := (mkF m 65 #[.val (.int p0), .val (.int p1), .val (.int p2), .val (.int p3), .val (.long q4), .second, .val (.ref aSTOCK), .val (.int t), .val (.int u), .val (.int tk), .val (.int sm), .val (.long (1 : Int64)), .second, .unset, .unset, .unset, .unset, .unset, .unset, .unset] [(.int u), (.ref aSTOCK)])) rfl (by rw [hml]; rfl) (argsL := [(.int u)]) (rest := []) (lenOf own_pd__28I_29J rfl) rfl (W := 0) (by show 2 * 0 + _ ≤ _; exact Nat.le_of_eq rfl) (hb hby at_65) rfl (by decide) (by decide) ?_
    rintro rv4 T4 L4 X4 ⟨hv4, Nq4, eh4⟩
    have N4 := Fr.app N3 Nq4
    rw [if_pos rfl] at hv4
    subst hv4
    show own_Fin p e below _ T4 (mkF m 68 #[.val (.int p0), .val (.int p1), .val (.int p2), .val (.int p3), .val (.long q4), .second, .val (.ref aSTOCK), .val (.int t), .val (.int u), .val (.int tk), .val (.int sm), .val (.long (1 : Int64)), .second, .unset, .unset, .unset, .unset, .unset, .unset, .unset] [(.long (1 : Int64))])
    refine own_by (T' := T4) (g' := (mkF m 70 #[.val (.int p0), .val (.int p1), .val (.int p2), .val (.int p3), .val (.long q4), .second, .val (.ref aSTOCK), .val (.int t), .val (.int u), .val (.int tk), .val (.int sm), .val (.long (1 : Int64)), .second, .val (.long (1 : Int64)), .second, .unset, .unset, .unset, .unset, .unset] [])) (fun _ kq => XS.lstore X4.here hx rfl (hb hby at_68) rfl (l' := #[.val (.int p0), .val (.int p1), .val (.int p2), .val (.int p3), .val (.long q4), .second, .val (.ref aSTOCK), .val (.int t), .val (.int u), .val (.int tk), .val (.int sm), .val (.long (1 : Int64)), .second, .val (.long (1 : Int64)), .second, .unset, .unset, .unset, .unset, .unset]) rfl kq) ?_
    refine own_by (T' := T4) (g' := (mkF m 72 #[.val (.int p0), .val (.int p1), .val (.int p2), .val (.int p3), .val (.long q4), .second, .val (.ref aSTOCK), .val (.int t), .val (.int u), .val (.int tk), .val (.int sm), .val (.long (1 : Int64)), .second, .val (.long (1 : Int64)), .second, .unset, .unset, .unset, .unset, .unset] [(.ref aSTOCK)])) (fun _ kq => XS.aload X4.here hx rfl (hb hby at_70) rfl rfl kq) ?_
    refine own_by (T' := T4) (g' := (mkF m 74 #[.val (.int p0), .val (.int p1), .val (.int p2), .val (.int p3), .val (.long q4), .second, .val (.ref aSTOCK), .val (.int t), .val (.int u), .val (.int tk), .val (.int sm), .val (.long (1 : Int64)), .second, .val (.long (1 : Int64)), .second, .unset, .unset, .unset, .unset, .unset] [(.int sm), (.ref aSTOCK)])) (fun _ kq => XS.iload X4.here hx rfl (hb hby at_72) rfl kq) ?_
    refine own_callV X4 hx hZ (y := (⟨"com/example/careful_commit/carefulcommit/drill/Scenario", "keyFor", "(I)J"⟩ : MethodName)) (z := (⟨"com/example/careful_commit/carefulcommit/drill/Scenario", "keyFor", "(I)J"⟩ : MethodName)) hown (hw _ (List.mem_of_getElem? (i := 4) rfl)) (hw _ (List.mem_of_getElem? (i := 5) rfl)) (own_nf (hw _ (List.mem_of_getElem? (i := 7) rfl))) (hw _ (List.mem_of_getElem? (i := 7) rfl)) (hw _ (List.mem_of_getElem? (i := 6) rfl)) (hw _ (List.mem_of_getElem? (i := 8) rfl)) (hw _ (List.mem_of_getElem? (i := 1) rfl)) (by decide) (E_STOCK.ext O0.2) (own_rm1 l Z a0 hw [] aSTOCK sm aSTOCK h0 n0 Z0 (S_STOCK.ext O0.2)) (by decide) (by decide) eh4 (g := (mkF m 74 #[.val (.int p0), .val (.int p1), .val (.int p2), .val (.int p3), .val (.long q4), .second, .val (.ref aSTOCK), .val (.int t), .val (.int u), .val (.int tk), .val (.int sm), .val (.long (1 : Int64)), .second, .val (.long (1 : Int64)), .second, .unset, .unset, .unset, .unset, .unset] [(.int sm), (.ref aSTOCK)])) rfl (by rw [hml]; rfl) (argsL := [(.int sm)]) (rest := []) (lenOf own_pd__28I_29J rfl) rfl (W := 0) (by show 2 * 0 + _ ≤ _; exact Nat.le_of_eq rfl) (hb hby at_74) rfl (by decide) (by decide) ?_
    rintro rv5 T5 L5 X5 ⟨hv5, Nq5, eh5⟩
    have N5 := Fr.app N4 Nq5
    rw [if_pos rfl] at hv5
    subst hv5
    show own_Fin p e below _ T5 (mkF m 77 #[.val (.int p0), .val (.int p1), .val (.int p2), .val (.int p3), .val (.long q4), .second, .val (.ref aSTOCK), .val (.int t), .val (.int u), .val (.int tk), .val (.int sm), .val (.long (1 : Int64)), .second, .val (.long (1 : Int64)), .second, .unset, .unset, .unset, .unset, .unset] [(.long (1 : Int64))])
    refine own_by (T' := T5) (g' := (mkF m 79 #[.val (.int p0), .val (.int p1), .val (.int p2), .val (.int p3), .val (.long q4), .second, .val (.ref aSTOCK), .val (.int t), .val (.int u), .val (.int tk), .val (.int sm), .val (.long (1 : Int64)), .second, .val (.long (1 : Int64)), .second, .val (.long (1 : Int64)), .second, .unset, .unset, .unset] [])) (fun _ kq => XS.lstore X5.here hx rfl (hb hby at_77) rfl (l' := #[.val (.int p0), .val (.int p1), .val (.int p2), .val (.int p3), .val (.long q4), .second, .val (.ref aSTOCK), .val (.int t), .val (.int u), .val (.int tk), .val (.int sm), .val (.long (1 : Int64)), .second, .val (.long (1 : Int64)), .second, .val (.long (1 : Int64)), .second, .unset, .unset, .unset]) rfl kq) ?_
    refine own_by (T' := T5) (g' := (mkF m 81 #[.val (.int p0), .val (.int p1), .val (.int p2), .val (.int p3), .val (.long q4), .second, .val (.ref aSTOCK), .val (.int t), .val (.int u), .val (.int tk), .val (.int sm), .val (.long (1 : Int64)), .second, .val (.long (1 : Int64)), .second, .val (.long (1 : Int64)), .second, .unset, .unset, .unset] [(.ref aSTOCK)])) (fun _ kq => XS.aload X5.here hx rfl (hb hby at_79) rfl rfl kq) ?_
    refine own_by (T' := T5) (g' := (mkF m 83 #[.val (.int p0), .val (.int p1), .val (.int p2), .val (.int p3), .val (.long q4), .second, .val (.ref aSTOCK), .val (.int t), .val (.int u), .val (.int tk), .val (.int sm), .val (.long (1 : Int64)), .second, .val (.long (1 : Int64)), .second, .val (.long (1 : Int64)), .second, .unset, .unset, .unset] [(.int tk), (.ref aSTOCK)])) (fun _ kq => XS.iload X5.here hx rfl (hb hby at_81) rfl kq) ?_
    refine own_by (T' := T5) (g' := (mkF m 85 #[.val (.int p0), .val (.int p1), .val (.int p2), .val (.int p3), .val (.long q4), .second, .val (.ref aSTOCK), .val (.int t), .val (.int u), .val (.int tk), .val (.int sm), .val (.long (1 : Int64)), .second, .val (.long (1 : Int64)), .second, .val (.long (1 : Int64)), .second, .unset, .unset, .unset] [(.long q4), (.int tk), (.ref aSTOCK)])) (fun _ kq => XS.lload X5.here hx rfl (hb hby at_83) rfl kq) ?_
    refine own_callV X5 hx hZ (y := (⟨"com/example/careful_commit/carefulcommit/drill/Scenario", "quantities", "(IJ)[J"⟩ : MethodName)) (z := (⟨"com/example/careful_commit/carefulcommit/drill/Scenario", "quantities", "(IJ)[J"⟩ : MethodName)) hown (hw _ (List.mem_of_getElem? (i := 10) rfl)) (hw _ (List.mem_of_getElem? (i := 11) rfl)) (own_nf (hw _ (List.mem_of_getElem? (i := 13) rfl))) (hw _ (List.mem_of_getElem? (i := 13) rfl)) (hw _ (List.mem_of_getElem? (i := 12) rfl)) (hw _ (List.mem_of_getElem? (i := 14) rfl)) (hw _ (List.mem_of_getElem? (i := 1) rfl)) (by decide) (E_STOCK.ext O0.2) (own_rm2 l Z a0 hw [] aSTOCK tk q4 aSTOCK h0 n0 Z0 (S_STOCK.ext O0.2) O0 htk.1 htk.2) (by decide) (by decide) eh5 (g := (mkF m 85 #[.val (.int p0), .val (.int p1), .val (.int p2), .val (.int p3), .val (.long q4), .second, .val (.ref aSTOCK), .val (.int t), .val (.int u), .val (.int tk), .val (.int sm), .val (.long (1 : Int64)), .second, .val (.long (1 : Int64)), .second, .val (.long (1 : Int64)), .second, .unset, .unset, .unset] [(.long q4), (.int tk), (.ref aSTOCK)])) rfl (by rw [hml]; rfl) (argsL := [(.int tk), (.long q4)]) (rest := []) (lenOf own_pd__28IJ_29_5bJ rfl) rfl (W := 0) (by show 2 * 0 + _ ≤ _; exact Nat.le_of_eq rfl) (hb hby at_85) rfl (by decide) (by decide) ?_
    rintro rv6 T6 L6 X6 ⟨rw6, clR, rfl, Nq6, OR, ArR, SR⟩
    have N6 := Fr.app N5 Nq6
    rw [if_pos rfl] at SR
    show own_Fin p e below _ T6 (mkF m 88 #[.val (.int p0), .val (.int p1), .val (.int p2), .val (.int p3), .val (.long q4), .second, .val (.ref aSTOCK), .val (.int t), .val (.int u), .val (.int tk), .val (.int sm), .val (.long (1 : Int64)), .second, .val (.long (1 : Int64)), .second, .val (.long (1 : Int64)), .second, .unset, .unset, .unset] [(.ref rw6)])
    refine own_by (T' := T6) (g' := (mkF m 90 #[.val (.int p0), .val (.int p1), .val (.int p2), .val (.int p3), .val (.long q4), .second, .val (.ref aSTOCK), .val (.int t), .val (.int u), .val (.int tk), .val (.int sm), .val (.long (1 : Int64)), .second, .val (.long (1 : Int64)), .second, .val (.long (1 : Int64)), .second, .val (.ref rw6), .unset, .unset] [])) (fun _ kq => XS.astore X6.here hx rfl (hb hby at_88) rfl rfl (l' := #[.val (.int p0), .val (.int p1), .val (.int p2), .val (.int p3), .val (.long q4), .second, .val (.ref aSTOCK), .val (.int t), .val (.int u), .val (.int tk), .val (.int sm), .val (.long (1 : Int64)), .second, .val (.long (1 : Int64)), .second, .val (.long (1 : Int64)), .second, .val (.ref rw6), .unset, .unset]) rfl kq) ?_
    refine own_by (T' := T6) (g' := (mkF m 92 #[.val (.int p0), .val (.int p1), .val (.int p2), .val (.int p3), .val (.long q4), .second, .val (.ref aSTOCK), .val (.int t), .val (.int u), .val (.int tk), .val (.int sm), .val (.long (1 : Int64)), .second, .val (.long (1 : Int64)), .second, .val (.long (1 : Int64)), .second, .val (.ref rw6), .unset, .unset] [(.ref aSTOCK)])) (fun _ kq => XS.aload X6.here hx rfl (hb hby at_90) rfl rfl kq) ?_
    obtain ⟨T7, X7, e7, st7⟩ := getS2 X6 hx hZ hown (host := "") (Or.inl (hw _ (List.mem_of_getElem? (i := 0) rfl))) Via.refl rfl (S_STOCK.ext OR.2) (g := (mkF m 92 #[.val (.int p0), .val (.int p1), .val (.int p2), .val (.int p3), .val (.long q4), .second, .val (.ref aSTOCK), .val (.int t), .val (.int u), .val (.int tk), .val (.int sm), .val (.long (1 : Int64)), .second, .val (.long (1 : Int64)), .second, .val (.long (1 : Int64)), .second, .val (.ref rw6), .unset, .unset] [(.ref aSTOCK)])) rfl (hb hby at_92)
    refine own_by (T' := T7) (g' := (mkF m 95 #[.val (.int p0), .val (.int p1), .val (.int p2), .val (.int p3), .val (.long q4), .second, .val (.ref aSTOCK), .val (.int t), .val (.int u), .val (.int tk), .val (.int sm), .val (.long (1 : Int64)), .second, .val (.long (1 : Int64)), .second, .val (.long (1 : Int64)), .second, .val (.ref rw6), .unset, .unset] [(.ref aSTOCK), (.ref aSTOCK)])) st7 ?_
    refine own_by (T' := T7) (g' := (mkF m 98 #[.val (.int p0), .val (.int p1), .val (.int p2), .val (.int p3), .val (.long q4), .second, .val (.ref aSTOCK), .val (.int t), .val (.int u), .val (.int tk), .val (.int sm), .val (.long (1 : Int64)), .second, .val (.long (1 : Int64)), .second, .val (.long (1 : Int64)), .second, .val (.ref rw6), .unset, .unset] [])) (fun _ kq => Jvm.RoadKit.acmp (g := (mkF m 95 #[.val (.int p0), .val (.int p1), .val (.int p2), .val (.int p3), .val (.long q4), .second, .val (.ref aSTOCK), .val (.int t), .val (.int u), .val (.int tk), .val (.int sm), .val (.long (1 : Int64)), .second, .val (.long (1 : Int64)), .second, .val (.long (1 : Int64)), .second, .val (.ref rw6), .unset, .unset] [(.ref aSTOCK), (.ref aSTOCK)])) X7 hx rfl rfl rfl (pc0 := 95) (pc' := 98) (same := true) rfl (hb hby at_95) rfl (decide_eq_true rfl) (by decide) (by decide) kq) ?_
    refine own_by (T' := T7) (g' := (mkF m 100 #[.val (.int p0), .val (.int p1), .val (.int p2), .val (.int p3), .val (.long q4), .second, .val (.ref aSTOCK), .val (.int t), .val (.int u), .val (.int tk), .val (.int sm), .val (.long (1 : Int64)), .second, .val (.long (1 : Int64)), .second, .val (.long (1 : Int64)), .second, .val (.ref rw6), .unset, .unset] [(.long (1 : Int64))])) (fun _ kq => XS.lload X7.here hx rfl (hb hby at_98) rfl kq) ?_
    refine own_by (T' := T7) (g' := (mkF m 101 #[.val (.int p0), .val (.int p1), .val (.int p2), .val (.int p3), .val (.long q4), .second, .val (.ref aSTOCK), .val (.int t), .val (.int u), .val (.int tk), .val (.int sm), .val (.long (1 : Int64)), .second, .val (.long (1 : Int64)), .second, .val (.long (1 : Int64)), .second, .val (.ref rw6), .unset, .unset] [(.long (1 : Int64)), (.long (1 : Int64))])) (fun _ kq => XS.lconst X7.here hx rfl (hb hby at_100) kq) ?_
    refine own_by (T' := T7) (g' := (mkF m 102 #[.val (.int p0), .val (.int p1), .val (.int p2), .val (.int p3), .val (.long q4), .second, .val (.ref aSTOCK), .val (.int t), .val (.int u), .val (.int tk), .val (.int sm), .val (.long (1 : Int64)), .second, .val (.long (1 : Int64)), .second, .val (.long (1 : Int64)), .second, .val (.ref rw6), .unset, .unset] [(.int (lcmpW (1 : Int64) (1 : Int64)))])) (fun _ kq => XS.lcmp X7.here hx rfl (hb hby at_101) rfl kq) ?_
    refine own_by (T' := T7) (g' := (mkF m 105 #[.val (.int p0), .val (.int p1), .val (.int p2), .val (.int p3), .val (.long q4), .second, .val (.ref aSTOCK), .val (.int t), .val (.int u), .val (.int tk), .val (.int sm), .val (.long (1 : Int64)), .second, .val (.long (1 : Int64)), .second, .val (.long (1 : Int64)), .second, .val (.ref rw6), .unset, .unset] [])) (fun _ kq => XS.ifNo X7.here hx rfl (hb hby at_102) rfl ((if0 _ _).trans (teq (by decide)).2) kq) ?_
    refine own_by (T' := T7) (g' := (mkF m 107 #[.val (.int p0), .val (.int p1), .val (.int p2), .val (.int p3), .val (.long q4), .second, .val (.ref aSTOCK), .val (.int t), .val (.int u), .val (.int tk), .val (.int sm), .val (.long (1 : Int64)), .second, .val (.long (1 : Int64)), .second, .val (.long (1 : Int64)), .second, .val (.ref rw6), .unset, .unset] [(.long (1 : Int64))])) (fun _ kq => XS.lload X7.here hx rfl (hb hby at_105) rfl kq) ?_
    refine own_by (T' := T7) (g' := (mkF m 108 #[.val (.int p0), .val (.int p1), .val (.int p2), .val (.int p3), .val (.long q4), .second, .val (.ref aSTOCK), .val (.int t), .val (.int u), .val (.int tk), .val (.int sm), .val (.long (1 : Int64)), .second, .val (.long (1 : Int64)), .second, .val (.long (1 : Int64)), .second, .val (.ref rw6), .unset, .unset] [(.long (1 : Int64)), (.long (1 : Int64))])) (fun _ kq => XS.lconst X7.here hx rfl (hb hby at_107) kq) ?_
    refine own_by (T' := T7) (g' := (mkF m 109 #[.val (.int p0), .val (.int p1), .val (.int p2), .val (.int p3), .val (.long q4), .second, .val (.ref aSTOCK), .val (.int t), .val (.int u), .val (.int tk), .val (.int sm), .val (.long (1 : Int64)), .second, .val (.long (1 : Int64)), .second, .val (.long (1 : Int64)), .second, .val (.ref rw6), .unset, .unset] [(.int (lcmpW (1 : Int64) (1 : Int64)))])) (fun _ kq => XS.lcmp X7.here hx rfl (hb hby at_108) rfl kq) ?_
    refine own_by (T' := T7) (g' := (mkF m 112 #[.val (.int p0), .val (.int p1), .val (.int p2), .val (.int p3), .val (.long q4), .second, .val (.ref aSTOCK), .val (.int t), .val (.int u), .val (.int tk), .val (.int sm), .val (.long (1 : Int64)), .second, .val (.long (1 : Int64)), .second, .val (.long (1 : Int64)), .second, .val (.ref rw6), .unset, .unset] [])) (fun _ kq => XS.ifNo X7.here hx rfl (hb hby at_109) rfl ((if0 _ _).trans (teq (by decide)).2) kq) ?_
    refine own_by (T' := T7) (g' := (mkF m 113 #[.val (.int p0), .val (.int p1), .val (.int p2), .val (.int p3), .val (.long q4), .second, .val (.ref aSTOCK), .val (.int t), .val (.int u), .val (.int tk), .val (.int sm), .val (.long (1 : Int64)), .second, .val (.long (1 : Int64)), .second, .val (.long (1 : Int64)), .second, .val (.ref rw6), .unset, .unset] [(.int (1 : Int32))])) (fun _ kq => XS.iconst X7.here hx rfl (hb hby at_112) kq) ?_
    refine own_by (T' := T7) (g' := (mkF m 117 #[.val (.int p0), .val (.int p1), .val (.int p2), .val (.int p3), .val (.long q4), .second, .val (.ref aSTOCK), .val (.int t), .val (.int u), .val (.int tk), .val (.int sm), .val (.long (1 : Int64)), .second, .val (.long (1 : Int64)), .second, .val (.long (1 : Int64)), .second, .val (.ref rw6), .unset, .unset] [(.int (1 : Int32))])) (fun _ kq => XS.goto X7.here hx rfl (pc0 := 113) (pc' := 117) rfl (hb hby at_113) (by decide) (by decide) kq) ?_
    refine own_by (T' := T7) (g' := (mkF m 119 #[.val (.int p0), .val (.int p1), .val (.int p2), .val (.int p3), .val (.long q4), .second, .val (.ref aSTOCK), .val (.int t), .val (.int u), .val (.int tk), .val (.int sm), .val (.long (1 : Int64)), .second, .val (.long (1 : Int64)), .second, .val (.long (1 : Int64)), .second, .val (.ref rw6), .val (.int (1 : Int32)), .unset] [])) (fun _ kq => XS.istore X7.here hx rfl (hb hby at_117) rfl (l' := #[.val (.int p0), .val (.int p1), .val (.int p2), .val (.int p3), .val (.long q4), .second, .val (.ref aSTOCK), .val (.int t), .val (.int u), .val (.int tk), .val (.int sm), .val (.long (1 : Int64)), .second, .val (.long (1 : Int64)), .second, .val (.long (1 : Int64)), .second, .val (.ref rw6), .val (.int (1 : Int32)), .unset]) rfl kq) ?_
    refine own_by (T' := T7) (g' := (mkF m 151 #[.val (.int p0), .val (.int p1), .val (.int p2), .val (.int p3), .val (.long q4), .second, .val (.ref aSTOCK), .val (.int t), .val (.int u), .val (.int tk), .val (.int sm), .val (.long (1 : Int64)), .second, .val (.long (1 : Int64)), .second, .val (.long (1 : Int64)), .second, .val (.ref rw6), .val (.int (1 : Int32)), .unset] [])) (fun _ kq => XS.goto X7.here hx rfl (pc0 := 119) (pc' := 151) rfl (hb hby at_119) (by decide) (by decide) kq) ?_
    refine own_by (T' := T7) (g' := (mkF m 153 #[.val (.int p0), .val (.int p1), .val (.int p2), .val (.int p3), .val (.long q4), .second, .val (.ref aSTOCK), .val (.int t), .val (.int u), .val (.int tk), .val (.int sm), .val (.long (1 : Int64)), .second, .val (.long (1 : Int64)), .second, .val (.long (1 : Int64)), .second, .val (.ref rw6), .val (.int (1 : Int32)), .unset] [(.long (1 : Int64))])) (fun _ kq => XS.lload X7.here hx rfl (hb hby at_151) rfl kq) ?_
    refine own_by (T' := T7) (g' := (mkF m 154 #[.val (.int p0), .val (.int p1), .val (.int p2), .val (.int p3), .val (.long q4), .second, .val (.ref aSTOCK), .val (.int t), .val (.int u), .val (.int tk), .val (.int sm), .val (.long (1 : Int64)), .second, .val (.long (1 : Int64)), .second, .val (.long (1 : Int64)), .second, .val (.ref rw6), .val (.int (1 : Int32)), .unset] [(.long (1 : Int64)), (.long (1 : Int64))])) (fun _ kq => XS.lconst X7.here hx rfl (hb hby at_153) kq) ?_
    refine own_by (T' := T7) (g' := (mkF m 155 #[.val (.int p0), .val (.int p1), .val (.int p2), .val (.int p3), .val (.long q4), .second, .val (.ref aSTOCK), .val (.int t), .val (.int u), .val (.int tk), .val (.int sm), .val (.long (1 : Int64)), .second, .val (.long (1 : Int64)), .second, .val (.long (1 : Int64)), .second, .val (.ref rw6), .val (.int (1 : Int32)), .unset] [(.int (lcmpW (1 : Int64) (1 : Int64)))])) (fun _ kq => XS.lcmp X7.here hx rfl (hb hby at_154) rfl kq) ?_
    refine own_by (T' := T7) (g' := (mkF m 158 #[.val (.int p0), .val (.int p1), .val (.int p2), .val (.int p3), .val (.long q4), .second, .val (.ref aSTOCK), .val (.int t), .val (.int u), .val (.int tk), .val (.int sm), .val (.long (1 : Int64)), .second, .val (.long (1 : Int64)), .second, .val (.long (1 : Int64)), .second, .val (.ref rw6), .val (.int (1 : Int32)), .unset] [])) (fun _ kq => XS.ifNo X7.here hx rfl (hb hby at_155) rfl ((if0 _ _).trans (flt (by decide)).1) kq) ?_
    refine own_by (T' := T7) (g' := (mkF m 160 #[.val (.int p0), .val (.int p1), .val (.int p2), .val (.int p3), .val (.long q4), .second, .val (.ref aSTOCK), .val (.int t), .val (.int u), .val (.int tk), .val (.int sm), .val (.long (1 : Int64)), .second, .val (.long (1 : Int64)), .second, .val (.long (1 : Int64)), .second, .val (.ref rw6), .val (.int (1 : Int32)), .unset] [(.long (1 : Int64))])) (fun _ kq => XS.lload X7.here hx rfl (hb hby at_158) rfl kq) ?_
    refine own_by (T' := T7) (g' := (mkF m 162 #[.val (.int p0), .val (.int p1), .val (.int p2), .val (.int p3), .val (.long q4), .second, .val (.ref aSTOCK), .val (.int t), .val (.int u), .val (.int tk), .val (.int sm), .val (.long (1 : Int64)), .second, .val (.long (1 : Int64)), .second, .val (.long (1 : Int64)), .second, .val (.ref rw6), .val (.int (1 : Int32)), .unset] [(.ref rw6), (.long (1 : Int64))])) (fun _ kq => XS.aload X7.here hx rfl (hb hby at_160) rfl rfl kq) ?_
    have PR : ¬ (1 : Int32) < (0 : Int32) := by decide
    refine own_by (T' := T7) (g' := (mkF m 163 #[.val (.int p0), .val (.int p1), .val (.int p2), .val (.int p3), .val (.long q4), .second, .val (.ref aSTOCK), .val (.int t), .val (.int u), .val (.int tk), .val (.int sm), .val (.long (1 : Int64)), .second, .val (.long (1 : Int64)), .second, .val (.long (1 : Int64)), .second, .val (.ref rw6), .val (.int (1 : Int32)), .unset] [(.int (1 : Int32)), (.long (1 : Int64))])) (fun _ kq => X7.arraylength hx (by first | rw [e7]; exact ArR.1 | exact ArR.1) (State.isArrayOf_alike hZ.alike ArR.2.1) (g := (mkF m 162 #[.val (.int p0), .val (.int p1), .val (.int p2), .val (.int p3), .val (.long q4), .second, .val (.ref aSTOCK), .val (.int t), .val (.int u), .val (.int tk), .val (.int sm), .val (.long (1 : Int64)), .second, .val (.long (1 : Int64)), .second, .val (.long (1 : Int64)), .second, .val (.ref rw6), .val (.int (1 : Int32)), .unset] [(.ref rw6), (.long (1 : Int64))])) rfl rfl (hb hby at_162) _ (by rw [len_of SR PR]; exact kq)) ?_
    refine own_by (T' := T7) (g' := (mkF m 164 #[.val (.int p0), .val (.int p1), .val (.int p2), .val (.int p3), .val (.long q4), .second, .val (.ref aSTOCK), .val (.int t), .val (.int u), .val (.int tk), .val (.int sm), .val (.long (1 : Int64)), .second, .val (.long (1 : Int64)), .second, .val (.long (1 : Int64)), .second, .val (.ref rw6), .val (.int (1 : Int32)), .unset] [(.long ((1 : Int32).toInt64)), (.long (1 : Int64))])) (fun _ kq => XS.i2l X7.here hx rfl (hb hby at_163) rfl kq) ?_
    refine own_by (T' := T7) (g' := (mkF m 165 #[.val (.int p0), .val (.int p1), .val (.int p2), .val (.int p3), .val (.long q4), .second, .val (.ref aSTOCK), .val (.int t), .val (.int u), .val (.int tk), .val (.int sm), .val (.long (1 : Int64)), .second, .val (.long (1 : Int64)), .second, .val (.long (1 : Int64)), .second, .val (.ref rw6), .val (.int (1 : Int32)), .unset] [(.int (lcmpW (1 : Int64) ((1 : Int32).toInt64)))])) (fun _ kq => XS.lcmp X7.here hx rfl (hb hby at_164) rfl kq) ?_
    refine own_by (T' := T7) (g' := (mkF m 168 #[.val (.int p0), .val (.int p1), .val (.int p2), .val (.int p3), .val (.long q4), .second, .val (.ref aSTOCK), .val (.int t), .val (.int u), .val (.int tk), .val (.int sm), .val (.long (1 : Int64)), .second, .val (.long (1 : Int64)), .second, .val (.long (1 : Int64)), .second, .val (.ref rw6), .val (.int (1 : Int32)), .unset] [])) (fun _ kq => XS.ifNo X7.here hx rfl (hb hby at_165) rfl ((if0 _ _).trans (flt (by decide)).2.2.1) kq) ?_
    refine own_by (T' := T7) (g' := (mkF m 169 #[.val (.int p0), .val (.int p1), .val (.int p2), .val (.int p3), .val (.long q4), .second, .val (.ref aSTOCK), .val (.int t), .val (.int u), .val (.int tk), .val (.int sm), .val (.long (1 : Int64)), .second, .val (.long (1 : Int64)), .second, .val (.long (1 : Int64)), .second, .val (.ref rw6), .val (.int (1 : Int32)), .unset] [(.int (1 : Int32))])) (fun _ kq => XS.iconst X7.here hx rfl (hb hby at_168) kq) ?_
    refine own_by (T' := T7) (g' := (mkF m 173 #[.val (.int p0), .val (.int p1), .val (.int p2), .val (.int p3), .val (.long q4), .second, .val (.ref aSTOCK), .val (.int t), .val (.int u), .val (.int tk), .val (.int sm), .val (.long (1 : Int64)), .second, .val (.long (1 : Int64)), .second, .val (.long (1 : Int64)), .second, .val (.ref rw6), .val (.int (1 : Int32)), .unset] [(.int (1 : Int32))])) (fun _ kq => XS.goto X7.here hx rfl (pc0 := 169) (pc' := 173) rfl (hb hby at_169) (by decide) (by decide) kq) ?_
    refine own_by (T' := T7) (g' := (mkF m 175 #[.val (.int p0), .val (.int p1), .val (.int p2), .val (.int p3), .val (.long q4), .second, .val (.ref aSTOCK), .val (.int t), .val (.int u), .val (.int tk), .val (.int sm), .val (.long (1 : Int64)), .second, .val (.long (1 : Int64)), .second, .val (.long (1 : Int64)), .second, .val (.ref rw6), .val (.int (1 : Int32)), .val (.int (1 : Int32))] [])) (fun _ kq => XS.istore X7.here hx rfl (hb hby at_173) rfl (l' := #[.val (.int p0), .val (.int p1), .val (.int p2), .val (.int p3), .val (.long q4), .second, .val (.ref aSTOCK), .val (.int t), .val (.int u), .val (.int tk), .val (.int sm), .val (.long (1 : Int64)), .second, .val (.long (1 : Int64)), .second, .val (.long (1 : Int64)), .second, .val (.ref rw6), .val (.int (1 : Int32)), .val (.int (1 : Int32))]) rfl kq) ?_
    refine own_by (T' := T7) (g' := (mkF m 177 #[.val (.int p0), .val (.int p1), .val (.int p2), .val (.int p3), .val (.long q4), .second, .val (.ref aSTOCK), .val (.int t), .val (.int u), .val (.int tk), .val (.int sm), .val (.long (1 : Int64)), .second, .val (.long (1 : Int64)), .second, .val (.long (1 : Int64)), .second, .val (.ref rw6), .val (.int (1 : Int32)), .val (.int (1 : Int32))] [(.int (1 : Int32))])) (fun _ kq => XS.iload X7.here hx rfl (hb hby at_175) rfl kq) ?_
    refine own_by (T' := T7) (g' := (mkF m 180 #[.val (.int p0), .val (.int p1), .val (.int p2), .val (.int p3), .val (.long q4), .second, .val (.ref aSTOCK), .val (.int t), .val (.int u), .val (.int tk), .val (.int sm), .val (.long (1 : Int64)), .second, .val (.long (1 : Int64)), .second, .val (.long (1 : Int64)), .second, .val (.ref rw6), .val (.int (1 : Int32)), .val (.int (1 : Int32))] [])) (fun _ kq => XS.ifNo X7.here hx rfl (hb hby at_177) rfl ((if0 _ _).trans (feq (by decide : ¬ ((1 : Int32) = (0 : Int32)))).1) kq) ?_
    refine own_by (T' := T7) (g' := (mkF m 182 #[.val (.int p0), .val (.int p1), .val (.int p2), .val (.int p3), .val (.long q4), .second, .val (.ref aSTOCK), .val (.int t), .val (.int u), .val (.int tk), .val (.int sm), .val (.long (1 : Int64)), .second, .val (.long (1 : Int64)), .second, .val (.long (1 : Int64)), .second, .val (.ref rw6), .val (.int (1 : Int32)), .val (.int (1 : Int32))] [(.int (1 : Int32))])) (fun _ kq => XS.iload X7.here hx rfl (hb hby at_180) rfl kq) ?_
    refine own_by (T' := T7) (g' := (mkF m 185 #[.val (.int p0), .val (.int p1), .val (.int p2), .val (.int p3), .val (.long q4), .second, .val (.ref aSTOCK), .val (.int t), .val (.int u), .val (.int tk), .val (.int sm), .val (.long (1 : Int64)), .second, .val (.long (1 : Int64)), .second, .val (.long (1 : Int64)), .second, .val (.ref rw6), .val (.int (1 : Int32)), .val (.int (1 : Int32))] [])) (fun _ kq => XS.ifNo X7.here hx rfl (hb hby at_182) rfl ((if0 _ _).trans (feq (by decide : ¬ ((1 : Int32) = (0 : Int32)))).1) kq) ?_
    refine own_by (T' := T7) (g' := (mkF m 186 #[.val (.int p0), .val (.int p1), .val (.int p2), .val (.int p3), .val (.long q4), .second, .val (.ref aSTOCK), .val (.int t), .val (.int u), .val (.int tk), .val (.int sm), .val (.long (1 : Int64)), .second, .val (.long (1 : Int64)), .second, .val (.long (1 : Int64)), .second, .val (.ref rw6), .val (.int (1 : Int32)), .val (.int (1 : Int32))] [(.int (1 : Int32))])) (fun _ kq => XS.iconst X7.here hx rfl (hb hby at_185) kq) ?_
    refine own_by (T' := T7) (g' := (mkF m 190 #[.val (.int p0), .val (.int p1), .val (.int p2), .val (.int p3), .val (.long q4), .second, .val (.ref aSTOCK), .val (.int t), .val (.int u), .val (.int tk), .val (.int sm), .val (.long (1 : Int64)), .second, .val (.long (1 : Int64)), .second, .val (.long (1 : Int64)), .second, .val (.ref rw6), .val (.int (1 : Int32)), .val (.int (1 : Int32))] [(.int (1 : Int32))])) (fun _ kq => XS.goto X7.here hx rfl (pc0 := 186) (pc' := 190) rfl (hb hby at_186) (by decide) (by decide) kq) ?_
    exact own_end X7 (v := some (.int (nar .boolean (1 : Int32)))) (fun h => by rw [Bd.returns] at h; cases h) hlk (fun hr => retN X7 hx (t := .boolean) Bd.returns (by simp) (hb hby at_190) hr) (by rw [e7]; exact ⟨rfl, N6⟩) (by decide) (by decide)
  · refine own_by (T' := s₁) (g' := (mkF m 12 #[.val (.int p0), .val (.int p1), .val (.int p2), .val (.int p3), .val (.long q4), .second, .unset, .unset, .unset, .unset, .unset, .unset, .unset, .unset, .unset, .unset, .unset, .unset, .unset, .unset] [])) (fun _ kq => XS.ifYes X0.here hx rfl (pc0 := 3) (pc' := 12) rfl (hb hby at_3) rfl ((if0 _ _).trans (feq hc1).2) (by decide) (by decide) kq) ?_
    obtain ⟨T8, X8, e8, st8⟩ := getS2 X0 hx hZ hown (host := "") (Or.inl (hw _ (List.mem_of_getElem? (i := 16) rfl))) Via.refl e0 (S_SPREAD.ext O0.2) (g := (mkF m 12 #[.val (.int p0), .val (.int p1), .val (.int p2), .val (.int p3), .val (.long q4), .second, .unset, .unset, .unset, .unset, .unset, .unset, .unset, .unset, .unset, .unset, .unset, .unset, .unset, .unset] [])) rfl (hb hby at_12)
    refine own_by (T' := T8) (g' := (mkF m 15 #[.val (.int p0), .val (.int p1), .val (.int p2), .val (.int p3), .val (.long q4), .second, .unset, .unset, .unset, .unset, .unset, .unset, .unset, .unset, .unset, .unset, .unset, .unset, .unset, .unset] [(.ref aSPREAD)])) st8 ?_
    refine own_by (T' := T8) (g' := (mkF m 17 #[.val (.int p0), .val (.int p1), .val (.int p2), .val (.int p3), .val (.long q4), .second, .val (.ref aSPREAD), .unset, .unset, .unset, .unset, .unset, .unset, .unset, .unset, .unset, .unset, .unset, .unset, .unset] [])) (fun _ kq => XS.astore X8.here hx rfl (hb hby at_15) rfl rfl (l' := #[.val (.int p0), .val (.int p1), .val (.int p2), .val (.int p3), .val (.long q4), .second, .val (.ref aSPREAD), .unset, .unset, .unset, .unset, .unset, .unset, .unset, .unset, .unset, .unset, .unset, .unset, .unset]) rfl kq) ?_
    refine own_by (T' := T8) (g' := (mkF m 18 #[.val (.int p0), .val (.int p1), .val (.int p2), .val (.int p3), .val (.long q4), .second, .val (.ref aSPREAD), .unset, .unset, .unset, .unset, .unset, .unset, .unset, .unset, .unset, .unset, .unset, .unset, .unset] [(.int p1)])) (fun _ kq => XS.iloadN X8.here hx rfl (hb hby at_17) rfl kq) ?_
    refine own_by (T' := T8) (g' := (mkF m 20 #[.val (.int p0), .val (.int p1), .val (.int p2), .val (.int p3), .val (.long q4), .second, .val (.ref aSPREAD), .unset, .unset, .unset, .unset, .unset, .unset, .unset, .unset, .unset, .unset, .unset, .unset, .unset] [(.int (2147483647 : Int32)), (.int p1)])) (fun _ kq => X8.ldcInt hx hown (mvT hZ (hw _ (List.mem_of_getElem? (i := 3) rfl))) (g := (mkF m 18 #[.val (.int p0), .val (.int p1), .val (.int p2), .val (.int p3), .val (.long q4), .second, .val (.ref aSPREAD), .unset, .unset, .unset, .unset, .unset, .unset, .unset, .unset, .unset, .unset, .unset, .unset, .unset] [(.int p1)])) rfl (hb hby at_18) _ kq) ?_
    refine own_by (T' := T8) (g' := (mkF m 21 #[.val (.int p0), .val (.int p1), .val (.int p2), .val (.int p3), .val (.long q4), .second, .val (.ref aSPREAD), .unset, .unset, .unset, .unset, .unset, .unset, .unset, .unset, .unset, .unset, .unset, .unset, .unset] [(.int (p1 &&& (2147483647 : Int32)))])) (fun _ kq => XS.iand X8.here hx rfl (hb hby at_20) rfl kq) ?_
    refine own_by (T' := T8) (g' := (mkF m 23 #[.val (.int p0), .val (.int p1), .val (.int p2), .val (.int p3), .val (.long q4), .second, .val (.ref aSPREAD), .unset, .unset, .unset, .unset, .unset, .unset, .unset, .unset, .unset, .unset, .unset, .unset, .unset] [(.int (2147483647 : Int32)), (.int (p1 &&& (2147483647 : Int32)))])) (fun _ kq => X8.ldcInt hx hown (mvT hZ (hw _ (List.mem_of_getElem? (i := 3) rfl))) (g := (mkF m 21 #[.val (.int p0), .val (.int p1), .val (.int p2), .val (.int p3), .val (.long q4), .second, .val (.ref aSPREAD), .unset, .unset, .unset, .unset, .unset, .unset, .unset, .unset, .unset, .unset, .unset, .unset, .unset] [(.int (p1 &&& (2147483647 : Int32)))])) rfl (hb hby at_21) _ kq) ?_
    refine own_by (T' := T8) (g' := (mkF m 24 #[.val (.int p0), .val (.int p1), .val (.int p2), .val (.int p3), .val (.long q4), .second, .val (.ref aSPREAD), .unset, .unset, .unset, .unset, .unset, .unset, .unset, .unset, .unset, .unset, .unset, .unset, .unset] [(.int ((p1 &&& (2147483647 : Int32)) % (2147483647 : Int32)))])) (fun _ kq => Jvm.RoadKit.iremM (g := (mkF m 23 #[.val (.int p0), .val (.int p1), .val (.int p2), .val (.int p3), .val (.long q4), .second, .val (.ref aSPREAD), .unset, .unset, .unset, .unset, .unset, .unset, .unset, .unset, .unset, .unset, .unset, .unset, .unset] [(.int (2147483647 : Int32)), (.int (p1 &&& (2147483647 : Int32)))])) X8 hx rfl (hb hby at_23) rfl (by decide) kq) ?_
    refine own_by (T' := T8) (g' := (mkF m 26 #[.val (.int p0), .val (.int p1), .val (.int p2), .val (.int p3), .val (.long q4), .second, .val (.ref aSPREAD), .val (.int ((p1 &&& (2147483647 : Int32)) % (2147483647 : Int32))), .unset, .unset, .unset, .unset, .unset, .unset, .unset, .unset, .unset, .unset, .unset, .unset] [])) (fun _ kq => XS.istore X8.here hx rfl (hb hby at_24) rfl (l' := #[.val (.int p0), .val (.int p1), .val (.int p2), .val (.int p3), .val (.long q4), .second, .val (.ref aSPREAD), .val (.int ((p1 &&& (2147483647 : Int32)) % (2147483647 : Int32))), .unset, .unset, .unset, .unset, .unset, .unset, .unset, .unset, .unset, .unset, .unset, .unset]) rfl kq) ?_
    have ht := own_rem p1 (2147483647 : Int32) 2147483647 (by decide) (by decide)
    generalize hg_t : ((p1 &&& (2147483647 : Int32)) % (2147483647 : Int32)) = t at ht ⊢
    refine own_by (T' := T8) (g' := (mkF m 27 #[.val (.int p0), .val (.int p1), .val (.int p2), .val (.int p3), .val (.long q4), .second, .val (.ref aSPREAD), .val (.int t), .unset, .unset, .unset, .unset, .unset, .unset, .unset, .unset, .unset, .unset, .unset, .unset] [(.int p2)])) (fun _ kq => XS.iloadN X8.here hx rfl (hb hby at_26) rfl kq) ?_
    refine own_by (T' := T8) (g' := (mkF m 29 #[.val (.int p0), .val (.int p1), .val (.int p2), .val (.int p3), .val (.long q4), .second, .val (.ref aSPREAD), .val (.int t), .unset, .unset, .unset, .unset, .unset, .unset, .unset, .unset, .unset, .unset, .unset, .unset] [(.int (2147483647 : Int32)), (.int p2)])) (fun _ kq => X8.ldcInt hx hown (mvT hZ (hw _ (List.mem_of_getElem? (i := 3) rfl))) (g := (mkF m 27 #[.val (.int p0), .val (.int p1), .val (.int p2), .val (.int p3), .val (.long q4), .second, .val (.ref aSPREAD), .val (.int t), .unset, .unset, .unset, .unset, .unset, .unset, .unset, .unset, .unset, .unset, .unset, .unset] [(.int p2)])) rfl (hb hby at_27) _ kq) ?_
    refine own_by (T' := T8) (g' := (mkF m 30 #[.val (.int p0), .val (.int p1), .val (.int p2), .val (.int p3), .val (.long q4), .second, .val (.ref aSPREAD), .val (.int t), .unset, .unset, .unset, .unset, .unset, .unset, .unset, .unset, .unset, .unset, .unset, .unset] [(.int (p2 &&& (2147483647 : Int32)))])) (fun _ kq => XS.iand X8.here hx rfl (hb hby at_29) rfl kq) ?_
    refine own_by (T' := T8) (g' := (mkF m 32 #[.val (.int p0), .val (.int p1), .val (.int p2), .val (.int p3), .val (.long q4), .second, .val (.ref aSPREAD), .val (.int t), .unset, .unset, .unset, .unset, .unset, .unset, .unset, .unset, .unset, .unset, .unset, .unset] [(.int (2147483647 : Int32)), (.int (p2 &&& (2147483647 : Int32)))])) (fun _ kq => X8.ldcInt hx hown (mvT hZ (hw _ (List.mem_of_getElem? (i := 3) rfl))) (g := (mkF m 30 #[.val (.int p0), .val (.int p1), .val (.int p2), .val (.int p3), .val (.long q4), .second, .val (.ref aSPREAD), .val (.int t), .unset, .unset, .unset, .unset, .unset, .unset, .unset, .unset, .unset, .unset, .unset, .unset] [(.int (p2 &&& (2147483647 : Int32)))])) rfl (hb hby at_30) _ kq) ?_
    refine own_by (T' := T8) (g' := (mkF m 33 #[.val (.int p0), .val (.int p1), .val (.int p2), .val (.int p3), .val (.long q4), .second, .val (.ref aSPREAD), .val (.int t), .unset, .unset, .unset, .unset, .unset, .unset, .unset, .unset, .unset, .unset, .unset, .unset] [(.int ((p2 &&& (2147483647 : Int32)) % (2147483647 : Int32)))])) (fun _ kq => Jvm.RoadKit.iremM (g := (mkF m 32 #[.val (.int p0), .val (.int p1), .val (.int p2), .val (.int p3), .val (.long q4), .second, .val (.ref aSPREAD), .val (.int t), .unset, .unset, .unset, .unset, .unset, .unset, .unset, .unset, .unset, .unset, .unset, .unset] [(.int (2147483647 : Int32)), (.int (p2 &&& (2147483647 : Int32)))])) X8 hx rfl (hb hby at_32) rfl (by decide) kq) ?_
    refine own_by (T' := T8) (g' := (mkF m 35 #[.val (.int p0), .val (.int p1), .val (.int p2), .val (.int p3), .val (.long q4), .second, .val (.ref aSPREAD), .val (.int t), .val (.int ((p2 &&& (2147483647 : Int32)) % (2147483647 : Int32))), .unset, .unset, .unset, .unset, .unset, .unset, .unset, .unset, .unset, .unset, .unset] [])) (fun _ kq => XS.istore X8.here hx rfl (hb hby at_33) rfl (l' := #[.val (.int p0), .val (.int p1), .val (.int p2), .val (.int p3), .val (.long q4), .second, .val (.ref aSPREAD), .val (.int t), .val (.int ((p2 &&& (2147483647 : Int32)) % (2147483647 : Int32))), .unset, .unset, .unset, .unset, .unset, .unset, .unset, .unset, .unset, .unset, .unset]) rfl kq) ?_
    have hu := own_rem p2 (2147483647 : Int32) 2147483647 (by decide) (by decide)
    generalize hg_u : ((p2 &&& (2147483647 : Int32)) % (2147483647 : Int32)) = u at hu ⊢
    refine own_by (T' := T8) (g' := (mkF m 36 #[.val (.int p0), .val (.int p1), .val (.int p2), .val (.int p3), .val (.long q4), .second, .val (.ref aSPREAD), .val (.int t), .val (.int u), .unset, .unset, .unset, .unset, .unset, .unset, .unset, .unset, .unset, .unset, .unset] [(.int p3)])) (fun _ kq => XS.iloadN X8.here hx rfl (hb hby at_35) rfl kq) ?_
    refine own_by (T' := T8) (g' := (mkF m 38 #[.val (.int p0), .val (.int p1), .val (.int p2), .val (.int p3), .val (.long q4), .second, .val (.ref aSPREAD), .val (.int t), .val (.int u), .unset, .unset, .unset, .unset, .unset, .unset, .unset, .unset, .unset, .unset, .unset] [(.int (7 : Int32)), (.int p3)])) (fun _ kq => XS.bipush X8.here hx rfl (hb hby at_36) kq) ?_
    refine own_by (T' := T8) (g' := (mkF m 39 #[.val (.int p0), .val (.int p1), .val (.int p2), .val (.int p3), .val (.long q4), .second, .val (.ref aSPREAD), .val (.int t), .val (.int u), .unset, .unset, .unset, .unset, .unset, .unset, .unset, .unset, .unset, .unset, .unset] [(.int (p3 &&& (7 : Int32)))])) (fun _ kq => XS.iand X8.here hx rfl (hb hby at_38) rfl kq) ?_
    refine own_by (T' := T8) (g' := (mkF m 40 #[.val (.int p0), .val (.int p1), .val (.int p2), .val (.int p3), .val (.long q4), .second, .val (.ref aSPREAD), .val (.int t), .val (.int u), .unset, .unset, .unset, .unset, .unset, .unset, .unset, .unset, .unset, .unset, .unset] [(.int (1 : Int32)), (.int (p3 &&& (7 : Int32)))])) (fun _ kq => XS.iconst X8.here hx rfl (hb hby at_39) kq) ?_
    refine own_by (T' := T8) (g' := (mkF m 41 #[.val (.int p0), .val (.int p1), .val (.int p2), .val (.int p3), .val (.long q4), .second, .val (.ref aSPREAD), .val (.int t), .val (.int u), .unset, .unset, .unset, .unset, .unset, .unset, .unset, .unset, .unset, .unset, .unset] [(.int ((p3 &&& (7 : Int32)) + (1 : Int32)))])) (fun _ kq => XS.iadd X8.here hx rfl (hb hby at_40) rfl kq) ?_
    refine own_by (T' := T8) (g' := (mkF m 43 #[.val (.int p0), .val (.int p1), .val (.int p2), .val (.int p3), .val (.long q4), .second, .val (.ref aSPREAD), .val (.int t), .val (.int u), .val (.int ((p3 &&& (7 : Int32)) + (1 : Int32))), .unset, .unset, .unset, .unset, .unset, .unset, .unset, .unset, .unset, .unset] [])) (fun _ kq => XS.istore X8.here hx rfl (hb hby at_41) rfl (l' := #[.val (.int p0), .val (.int p1), .val (.int p2), .val (.int p3), .val (.long q4), .second, .val (.ref aSPREAD), .val (.int t), .val (.int u), .val (.int ((p3 &&& (7 : Int32)) + (1 : Int32))), .unset, .unset, .unset, .unset, .unset, .unset, .unset, .unset, .unset, .unset]) rfl kq) ?_
    have htk := own_tasks p3
    generalize hg_tk : ((p3 &&& (7 : Int32)) + (1 : Int32)) = tk at htk ⊢
    refine own_by (T' := T8) (g' := (mkF m 44 #[.val (.int p0), .val (.int p1), .val (.int p2), .val (.int p3), .val (.long q4), .second, .val (.ref aSPREAD), .val (.int t), .val (.int u), .val (.int tk), .unset, .unset, .unset, .unset, .unset, .unset, .unset, .unset, .unset, .unset] [(.int p1)])) (fun _ kq => XS.iloadN X8.here hx rfl (hb hby at_43) rfl kq) ?_
    refine own_by (T' := T8) (g' := (mkF m 46 #[.val (.int p0), .val (.int p1), .val (.int p2), .val (.int p3), .val (.long q4), .second, .val (.ref aSPREAD), .val (.int t), .val (.int u), .val (.int tk), .unset, .unset, .unset, .unset, .unset, .unset, .unset, .unset, .unset, .unset] [(.int (2147483647 : Int32)), (.int p1)])) (fun _ kq => X8.ldcInt hx hown (mvT hZ (hw _ (List.mem_of_getElem? (i := 3) rfl))) (g := (mkF m 44 #[.val (.int p0), .val (.int p1), .val (.int p2), .val (.int p3), .val (.long q4), .second, .val (.ref aSPREAD), .val (.int t), .val (.int u), .val (.int tk), .unset, .unset, .unset, .unset, .unset, .unset, .unset, .unset, .unset, .unset] [(.int p1)])) rfl (hb hby at_44) _ kq) ?_
    refine own_by (T' := T8) (g' := (mkF m 47 #[.val (.int p0), .val (.int p1), .val (.int p2), .val (.int p3), .val (.long q4), .second, .val (.ref aSPREAD), .val (.int t), .val (.int u), .val (.int tk), .unset, .unset, .unset, .unset, .unset, .unset, .unset, .unset, .unset, .unset] [(.int (p1 &&& (2147483647 : Int32)))])) (fun _ kq => XS.iand X8.here hx rfl (hb hby at_46) rfl kq) ?_
    refine own_by (T' := T8) (g' := (mkF m 49 #[.val (.int p0), .val (.int p1), .val (.int p2), .val (.int p3), .val (.long q4), .second, .val (.ref aSPREAD), .val (.int t), .val (.int u), .val (.int tk), .unset, .unset, .unset, .unset, .unset, .unset, .unset, .unset, .unset, .unset] [(.int tk), (.int (p1 &&& (2147483647 : Int32)))])) (fun _ kq => XS.iload X8.here hx rfl (hb hby at_47) rfl kq) ?_
    refine own_by (T' := T8) (g' := (mkF m 50 #[.val (.int p0), .val (.int p1), .val (.int p2), .val (.int p3), .val (.long q4), .second, .val (.ref aSPREAD), .val (.int t), .val (.int u), .val (.int tk), .unset, .unset, .unset, .unset, .unset, .unset, .unset, .unset, .unset, .unset] [(.int ((p1 &&& (2147483647 : Int32)) % tk))])) (fun _ kq => Jvm.RoadKit.iremM (g := (mkF m 49 #[.val (.int p0), .val (.int p1), .val (.int p2), .val (.int p3), .val (.long q4), .second, .val (.ref aSPREAD), .val (.int t), .val (.int u), .val (.int tk), .unset, .unset, .unset, .unset, .unset, .unset, .unset, .unset, .unset, .unset] [(.int tk), (.int (p1 &&& (2147483647 : Int32)))])) X8 hx rfl (hb hby at_49) rfl (fun q => by rw [q] at htk; exact absurd htk.1 (by decide)) kq) ?_
    refine own_by (T' := T8) (g' := (mkF m 52 #[.val (.int p0), .val (.int p1), .val (.int p2), .val (.int p3), .val (.long q4), .second, .val (.ref aSPREAD), .val (.int t), .val (.int u), .val (.int tk), .val (.int ((p1 &&& (2147483647 : Int32)) % tk)), .unset, .unset, .unset, .unset, .unset, .unset, .unset, .unset, .unset] [])) (fun _ kq => XS.istore X8.here hx rfl (hb hby at_50) rfl (l' := #[.val (.int p0), .val (.int p1), .val (.int p2), .val (.int p3), .val (.long q4), .second, .val (.ref aSPREAD), .val (.int t), .val (.int u), .val (.int tk), .val (.int ((p1 &&& (2147483647 : Int32)) % tk)), .unset, .unset, .unset, .unset, .unset, .unset, .unset, .unset, .unset]) rfl kq) ?_
    have hsm := own_small p1 tk htk.1
    generalize hg_sm : ((p1 &&& (2147483647 : Int32)) % tk) = sm at hsm ⊢
    refine own_by (T' := T8) (g' := (mkF m 54 #[.val (.int p0), .val (.int p1), .val (.int p2), .val (.int p3), .val (.long q4), .second, .val (.ref aSPREAD), .val (.int t), .val (.int u), .val (.int tk), .val (.int sm), .unset, .unset, .unset, .unset, .unset, .unset, .unset, .unset, .unset] [(.ref aSPREAD)])) (fun _ kq => XS.aload X8.here hx rfl (hb hby at_52) rfl rfl kq) ?_
    refine own_by (T' := T8) (g' := (mkF m 56 #[.val (.int p0), .val (.int p1), .val (.int p2), .val (.int p3), .val (.long q4), .second, .val (.ref aSPREAD), .val (.int t), .val (.int u), .val (.int tk), .val (.int sm), .unset, .unset, .unset, .unset, .unset, .unset, .unset, .unset, .unset] [(.int t), (.ref aSPREAD)])) (fun _ kq => XS.iload X8.here hx rfl (hb hby at_54) rfl kq) ?_
    refine own_callV X8 hx hZ (y := (⟨"com/example/careful_commit/carefulcommit/drill/Scenario", "keyFor", "(I)J"⟩ : MethodName)) (z := (⟨"com/example/careful_commit/carefulcommit/drill/Scenario", "keyFor", "(I)J"⟩ : MethodName)) hown (hw _ (List.mem_of_getElem? (i := 4) rfl)) (hw _ (List.mem_of_getElem? (i := 5) rfl)) (own_nf (hw _ (List.mem_of_getElem? (i := 7) rfl))) (hw _ (List.mem_of_getElem? (i := 7) rfl)) (hw _ (List.mem_of_getElem? (i := 6) rfl)) (hw _ (List.mem_of_getElem? (i := 8) rfl)) (hw _ (List.mem_of_getElem? (i := 1) rfl)) (by decide) (E_SPREAD.ext O0.2) (own_rm1 l Z a0 hw [] aSPREAD t aSTOCK h0 n0 Z0 (S_STOCK.ext O0.2)) (by decide) (by decide) e8 (g := (mkF m 56 #[.val (.int p0), .val (.int p1), .val (.int p2), .val (.int p3), .val (.long q4), .second, .val (.ref aSPREAD), .val (.int t), .val (.int u), .val (.int tk), .val (.int sm), .unset, .unset, .unset, .unset, .unset, .unset, .unset, .unset, .unset] [(.int t), (.ref aSPREAD)])) rfl (by rw [hml]; rfl) (argsL := [(.int t)]) (rest := []) (lenOf own_pd__28I_29J rfl) rfl (W := 0) (by show 2 * 0 + _ ≤ _; exact Nat.le_of_eq rfl) (hb hby at_56) rfl (by decide) (by decide) ?_
    rintro rv9 T9 L9 X9 ⟨hv9, Nq9, eh9⟩
    have N9 := Fr.app N0 Nq9
    rw [if_neg n_SPREAD_STOCK] at hv9
    subst hv9
    show own_Fin p e below _ T9 (mkF m 59 #[.val (.int p0), .val (.int p1), .val (.int p2), .val (.int p3), .val (.long q4), .second, .val (.ref aSPREAD), .val (.int t), .val (.int u), .val (.int tk), .val (.int sm), .unset, .unset, .unset, .unset, .unset, .unset, .unset, .unset, .unset] [(.long ((t + (1 : Int32)).toInt64))])
    refine own_by (T' := T9) (g' := (mkF m 61 #[.val (.int p0), .val (.int p1), .val (.int p2), .val (.int p3), .val (.long q4), .second, .val (.ref aSPREAD), .val (.int t), .val (.int u), .val (.int tk), .val (.int sm), .val (.long ((t + (1 : Int32)).toInt64)), .second, .unset, .unset, .unset, .unset, .unset, .unset, .unset] [])) (fun _ kq => XS.lstore X9.here hx rfl (hb hby at_59) rfl (l' := #[.val (.int p0), .val (.int p1), .val (.int p2), .val (.int p3), .val (.long q4), .second, .val (.ref aSPREAD), .val (.int t), .val (.int u), .val (.int tk), .val (.int sm), .val (.long ((t + (1 : Int32)).toInt64)), .second, .unset, .unset, .unset, .unset, .unset, .unset, .unset]) rfl kq) ?_
    refine own_by (T' := T9) (g' := (mkF m 63 #[.val (.int p0), .val (.int p1), .val (.int p2), .val (.int p3), .val (.long q4), .second, .val (.ref aSPREAD), .val (.int t), .val (.int u), .val (.int tk), .val (.int sm), .val (.long ((t + (1 : Int32)).toInt64)), .second, .unset, .unset, .unset, .unset, .unset, .unset, .unset] [(.ref aSPREAD)])) (fun _ kq => XS.aload X9.here hx rfl (hb hby at_61) rfl rfl kq) ?_
    refine own_by (T' := T9) (g' := (mkF m 65 #[.val (.int p0), .val (.int p1), .val (.int p2), .val (.int p3), .val (.long q4), .second, .val (.ref aSPREAD), .val (.int t), .val (.int u), .val (.int tk), .val (.int sm), .val (.long ((t + (1 : Int32)).toInt64)), .second, .unset, .unset, .unset, .unset, .unset, .unset, .unset] [(.int u), (.ref aSPREAD)])) (fun _ kq => XS.iload X9.here hx rfl (hb hby at_63) rfl kq) ?_
    refine own_callV X9 hx hZ (y := (⟨"com/example/careful_commit/carefulcommit/drill/Scenario", "keyFor", "(I)J"⟩ : MethodName)) (z := (⟨"com/example/careful_commit/carefulcommit/drill/Scenario", "keyFor", "(I)J"⟩ : MethodName)) hown (hw _ (List.mem_of_getElem? (i := 4) rfl)) (hw _ (List.mem_of_getElem? (i := 5) rfl)) (own_nf (hw _ (List.mem_of_getElem? (i := 7) rfl))) (hw _ (List.mem_of_getElem? (i := 7) rfl)) (hw _ (List.mem_of_getElem? (i := 6) rfl)) (hw _ (List.mem_of_getElem? (i := 8) rfl)) (hw _ (List.mem_of_getElem? (i := 1) rfl)) (by decide) (E_SPREAD.ext O0.2) (own_rm1 l Z a0 hw [] aSPREAD u aSTOCK h0 n0 Z0 (S_STOCK.ext O0.2)) (by decide) (by decide) eh9 (g := (mkF m 65 #[.val (.int p0), .val (.int p1), .val (.int p2), .val (.int p3), .val (.long q4), .second, .val (.ref aSPREAD), .val (.int t), .val (.int u), .val (.int tk), .val (.int sm), .val (.long ((t + (1 : Int32)).toInt64)), .second, .unset, .unset, .unset, .unset, .unset, .unset, .unset] [(.int u), (.ref aSPREAD)])) rfl (by rw [hml]; rfl) (argsL := [(.int u)]) (rest := []) (lenOf own_pd__28I_29J rfl) rfl (W := 0) (by show 2 * 0 + _ ≤ _; exact Nat.le_of_eq rfl) (hb hby at_65) rfl (by decide) (by decide) ?_
    rintro rv10 T10 L10 X10 ⟨hv10, Nq10, eh10⟩
    have N10 := Fr.app N9 Nq10
    rw [if_neg n_SPREAD_STOCK] at hv10
    subst hv10
    show own_Fin p e below _ T10 (mkF m 68 #[.val (.int p0), .val (.int p1), .val (.int p2), .val (.int p3), .val (.long q4), .second, .val (.ref aSPREAD), .val (.int t), .val (.int u), .val (.int tk), .val (.int sm), .val (.long ((t + (1 : Int32)).toInt64)), .second, .unset, .unset, .unset, .unset, .unset, .unset, .unset] [(.long ((u + (1 : Int32)).toInt64))])
    refine own_by (T' := T10) (g' := (mkF m 70 #[.val (.int p0), .val (.int p1), .val (.int p2), .val (.int p3), .val (.long q4), .second, .val (.ref aSPREAD), .val (.int t), .val (.int u), .val (.int tk), .val (.int sm), .val (.long ((t + (1 : Int32)).toInt64)), .second, .val (.long ((u + (1 : Int32)).toInt64)), .second, .unset, .unset, .unset, .unset, .unset] [])) (fun _ kq => XS.lstore X10.here hx rfl (hb hby at_68) rfl (l' := #[.val (.int p0), .val (.int p1), .val (.int p2), .val (.int p3), .val (.long q4), .second, .val (.ref aSPREAD), .val (.int t), .val (.int u), .val (.int tk), .val (.int sm), .val (.long ((t + (1 : Int32)).toInt64)), .second, .val (.long ((u + (1 : Int32)).toInt64)), .second, .unset, .unset, .unset, .unset, .unset]) rfl kq) ?_
    refine own_by (T' := T10) (g' := (mkF m 72 #[.val (.int p0), .val (.int p1), .val (.int p2), .val (.int p3), .val (.long q4), .second, .val (.ref aSPREAD), .val (.int t), .val (.int u), .val (.int tk), .val (.int sm), .val (.long ((t + (1 : Int32)).toInt64)), .second, .val (.long ((u + (1 : Int32)).toInt64)), .second, .unset, .unset, .unset, .unset, .unset] [(.ref aSPREAD)])) (fun _ kq => XS.aload X10.here hx rfl (hb hby at_70) rfl rfl kq) ?_
    refine own_by (T' := T10) (g' := (mkF m 74 #[.val (.int p0), .val (.int p1), .val (.int p2), .val (.int p3), .val (.long q4), .second, .val (.ref aSPREAD), .val (.int t), .val (.int u), .val (.int tk), .val (.int sm), .val (.long ((t + (1 : Int32)).toInt64)), .second, .val (.long ((u + (1 : Int32)).toInt64)), .second, .unset, .unset, .unset, .unset, .unset] [(.int sm), (.ref aSPREAD)])) (fun _ kq => XS.iload X10.here hx rfl (hb hby at_72) rfl kq) ?_
    refine own_callV X10 hx hZ (y := (⟨"com/example/careful_commit/carefulcommit/drill/Scenario", "keyFor", "(I)J"⟩ : MethodName)) (z := (⟨"com/example/careful_commit/carefulcommit/drill/Scenario", "keyFor", "(I)J"⟩ : MethodName)) hown (hw _ (List.mem_of_getElem? (i := 4) rfl)) (hw _ (List.mem_of_getElem? (i := 5) rfl)) (own_nf (hw _ (List.mem_of_getElem? (i := 7) rfl))) (hw _ (List.mem_of_getElem? (i := 7) rfl)) (hw _ (List.mem_of_getElem? (i := 6) rfl)) (hw _ (List.mem_of_getElem? (i := 8) rfl)) (hw _ (List.mem_of_getElem? (i := 1) rfl)) (by decide) (E_SPREAD.ext O0.2) (own_rm1 l Z a0 hw [] aSPREAD sm aSTOCK h0 n0 Z0 (S_STOCK.ext O0.2)) (by decide) (by decide) eh10 (g := (mkF m 74 #[.val (.int p0), .val (.int p1), .val (.int p2), .val (.int p3), .val (.long q4), .second, .val (.ref aSPREAD), .val (.int t), .val (.int u), .val (.int tk), .val (.int sm), .val (.long ((t + (1 : Int32)).toInt64)), .second, .val (.long ((u + (1 : Int32)).toInt64)), .second, .unset, .unset, .unset, .unset, .unset] [(.int sm), (.ref aSPREAD)])) rfl (by rw [hml]; rfl) (argsL := [(.int sm)]) (rest := []) (lenOf own_pd__28I_29J rfl) rfl (W := 0) (by show 2 * 0 + _ ≤ _; exact Nat.le_of_eq rfl) (hb hby at_74) rfl (by decide) (by decide) ?_
    rintro rv11 T11 L11 X11 ⟨hv11, Nq11, eh11⟩
    have N11 := Fr.app N10 Nq11
    rw [if_neg n_SPREAD_STOCK] at hv11
    subst hv11
    show own_Fin p e below _ T11 (mkF m 77 #[.val (.int p0), .val (.int p1), .val (.int p2), .val (.int p3), .val (.long q4), .second, .val (.ref aSPREAD), .val (.int t), .val (.int u), .val (.int tk), .val (.int sm), .val (.long ((t + (1 : Int32)).toInt64)), .second, .val (.long ((u + (1 : Int32)).toInt64)), .second, .unset, .unset, .unset, .unset, .unset] [(.long ((sm + (1 : Int32)).toInt64))])
    refine own_by (T' := T11) (g' := (mkF m 79 #[.val (.int p0), .val (.int p1), .val (.int p2), .val (.int p3), .val (.long q4), .second, .val (.ref aSPREAD), .val (.int t), .val (.int u), .val (.int tk), .val (.int sm), .val (.long ((t + (1 : Int32)).toInt64)), .second, .val (.long ((u + (1 : Int32)).toInt64)), .second, .val (.long ((sm + (1 : Int32)).toInt64)), .second, .unset, .unset, .unset] [])) (fun _ kq => XS.lstore X11.here hx rfl (hb hby at_77) rfl (l' := #[.val (.int p0), .val (.int p1), .val (.int p2), .val (.int p3), .val (.long q4), .second, .val (.ref aSPREAD), .val (.int t), .val (.int u), .val (.int tk), .val (.int sm), .val (.long ((t + (1 : Int32)).toInt64)), .second, .val (.long ((u + (1 : Int32)).toInt64)), .second, .val (.long ((sm + (1 : Int32)).toInt64)), .second, .unset, .unset, .unset]) rfl kq) ?_
    refine own_by (T' := T11) (g' := (mkF m 81 #[.val (.int p0), .val (.int p1), .val (.int p2), .val (.int p3), .val (.long q4), .second, .val (.ref aSPREAD), .val (.int t), .val (.int u), .val (.int tk), .val (.int sm), .val (.long ((t + (1 : Int32)).toInt64)), .second, .val (.long ((u + (1 : Int32)).toInt64)), .second, .val (.long ((sm + (1 : Int32)).toInt64)), .second, .unset, .unset, .unset] [(.ref aSPREAD)])) (fun _ kq => XS.aload X11.here hx rfl (hb hby at_79) rfl rfl kq) ?_
    refine own_by (T' := T11) (g' := (mkF m 83 #[.val (.int p0), .val (.int p1), .val (.int p2), .val (.int p3), .val (.long q4), .second, .val (.ref aSPREAD), .val (.int t), .val (.int u), .val (.int tk), .val (.int sm), .val (.long ((t + (1 : Int32)).toInt64)), .second, .val (.long ((u + (1 : Int32)).toInt64)), .second, .val (.long ((sm + (1 : Int32)).toInt64)), .second, .unset, .unset, .unset] [(.int tk), (.ref aSPREAD)])) (fun _ kq => XS.iload X11.here hx rfl (hb hby at_81) rfl kq) ?_
    refine own_by (T' := T11) (g' := (mkF m 85 #[.val (.int p0), .val (.int p1), .val (.int p2), .val (.int p3), .val (.long q4), .second, .val (.ref aSPREAD), .val (.int t), .val (.int u), .val (.int tk), .val (.int sm), .val (.long ((t + (1 : Int32)).toInt64)), .second, .val (.long ((u + (1 : Int32)).toInt64)), .second, .val (.long ((sm + (1 : Int32)).toInt64)), .second, .unset, .unset, .unset] [(.long q4), (.int tk), (.ref aSPREAD)])) (fun _ kq => XS.lload X11.here hx rfl (hb hby at_83) rfl kq) ?_
    refine own_callV X11 hx hZ (y := (⟨"com/example/careful_commit/carefulcommit/drill/Scenario", "quantities", "(IJ)[J"⟩ : MethodName)) (z := (⟨"com/example/careful_commit/carefulcommit/drill/Scenario", "quantities", "(IJ)[J"⟩ : MethodName)) hown (hw _ (List.mem_of_getElem? (i := 10) rfl)) (hw _ (List.mem_of_getElem? (i := 11) rfl)) (own_nf (hw _ (List.mem_of_getElem? (i := 13) rfl))) (hw _ (List.mem_of_getElem? (i := 13) rfl)) (hw _ (List.mem_of_getElem? (i := 12) rfl)) (hw _ (List.mem_of_getElem? (i := 14) rfl)) (hw _ (List.mem_of_getElem? (i := 1) rfl)) (by decide) (E_SPREAD.ext O0.2) (own_rm2 l Z a0 hw [] aSPREAD tk q4 aSTOCK h0 n0 Z0 (S_STOCK.ext O0.2) O0 htk.1 htk.2) (by decide) (by decide) eh11 (g := (mkF m 85 #[.val (.int p0), .val (.int p1), .val (.int p2), .val (.int p3), .val (.long q4), .second, .val (.ref aSPREAD), .val (.int t), .val (.int u), .val (.int tk), .val (.int sm), .val (.long ((t + (1 : Int32)).toInt64)), .second, .val (.long ((u + (1 : Int32)).toInt64)), .second, .val (.long ((sm + (1 : Int32)).toInt64)), .second, .unset, .unset, .unset] [(.long q4), (.int tk), (.ref aSPREAD)])) rfl (by rw [hml]; rfl) (argsL := [(.int tk), (.long q4)]) (rest := []) (lenOf own_pd__28IJ_29_5bJ rfl) rfl (W := 0) (by show 2 * 0 + _ ≤ _; exact Nat.le_of_eq rfl) (hb hby at_85) rfl (by decide) (by decide) ?_
    rintro rv12 T12 L12 X12 ⟨rw12, clR, rfl, Nq12, OR, ArR, SR⟩
    have N12 := Fr.app N11 Nq12
    rw [if_neg n_SPREAD_STOCK] at SR
    show own_Fin p e below _ T12 (mkF m 88 #[.val (.int p0), .val (.int p1), .val (.int p2), .val (.int p3), .val (.long q4), .second, .val (.ref aSPREAD), .val (.int t), .val (.int u), .val (.int tk), .val (.int sm), .val (.long ((t + (1 : Int32)).toInt64)), .second, .val (.long ((u + (1 : Int32)).toInt64)), .second, .val (.long ((sm + (1 : Int32)).toInt64)), .second, .unset, .unset, .unset] [(.ref rw12)])
    refine own_by (T' := T12) (g' := (mkF m 90 #[.val (.int p0), .val (.int p1), .val (.int p2), .val (.int p3), .val (.long q4), .second, .val (.ref aSPREAD), .val (.int t), .val (.int u), .val (.int tk), .val (.int sm), .val (.long ((t + (1 : Int32)).toInt64)), .second, .val (.long ((u + (1 : Int32)).toInt64)), .second, .val (.long ((sm + (1 : Int32)).toInt64)), .second, .val (.ref rw12), .unset, .unset] [])) (fun _ kq => XS.astore X12.here hx rfl (hb hby at_88) rfl rfl (l' := #[.val (.int p0), .val (.int p1), .val (.int p2), .val (.int p3), .val (.long q4), .second, .val (.ref aSPREAD), .val (.int t), .val (.int u), .val (.int tk), .val (.int sm), .val (.long ((t + (1 : Int32)).toInt64)), .second, .val (.long ((u + (1 : Int32)).toInt64)), .second, .val (.long ((sm + (1 : Int32)).toInt64)), .second, .val (.ref rw12), .unset, .unset]) rfl kq) ?_
    refine own_by (T' := T12) (g' := (mkF m 92 #[.val (.int p0), .val (.int p1), .val (.int p2), .val (.int p3), .val (.long q4), .second, .val (.ref aSPREAD), .val (.int t), .val (.int u), .val (.int tk), .val (.int sm), .val (.long ((t + (1 : Int32)).toInt64)), .second, .val (.long ((u + (1 : Int32)).toInt64)), .second, .val (.long ((sm + (1 : Int32)).toInt64)), .second, .val (.ref rw12), .unset, .unset] [(.ref aSPREAD)])) (fun _ kq => XS.aload X12.here hx rfl (hb hby at_90) rfl rfl kq) ?_
    obtain ⟨T13, X13, e13, st13⟩ := getS2 X12 hx hZ hown (host := "") (Or.inl (hw _ (List.mem_of_getElem? (i := 0) rfl))) Via.refl rfl (S_STOCK.ext OR.2) (g := (mkF m 92 #[.val (.int p0), .val (.int p1), .val (.int p2), .val (.int p3), .val (.long q4), .second, .val (.ref aSPREAD), .val (.int t), .val (.int u), .val (.int tk), .val (.int sm), .val (.long ((t + (1 : Int32)).toInt64)), .second, .val (.long ((u + (1 : Int32)).toInt64)), .second, .val (.long ((sm + (1 : Int32)).toInt64)), .second, .val (.ref rw12), .unset, .unset] [(.ref aSPREAD)])) rfl (hb hby at_92)
    refine own_by (T' := T13) (g' := (mkF m 95 #[.val (.int p0), .val (.int p1), .val (.int p2), .val (.int p3), .val (.long q4), .second, .val (.ref aSPREAD), .val (.int t), .val (.int u), .val (.int tk), .val (.int sm), .val (.long ((t + (1 : Int32)).toInt64)), .second, .val (.long ((u + (1 : Int32)).toInt64)), .second, .val (.long ((sm + (1 : Int32)).toInt64)), .second, .val (.ref rw12), .unset, .unset] [(.ref aSTOCK), (.ref aSPREAD)])) st13 ?_
    refine own_by (T' := T13) (g' := (mkF m 122 #[.val (.int p0), .val (.int p1), .val (.int p2), .val (.int p3), .val (.long q4), .second, .val (.ref aSPREAD), .val (.int t), .val (.int u), .val (.int tk), .val (.int sm), .val (.long ((t + (1 : Int32)).toInt64)), .second, .val (.long ((u + (1 : Int32)).toInt64)), .second, .val (.long ((sm + (1 : Int32)).toInt64)), .second, .val (.ref rw12), .unset, .unset] [])) (fun _ kq => Jvm.RoadKit.acmp (g := (mkF m 95 #[.val (.int p0), .val (.int p1), .val (.int p2), .val (.int p3), .val (.long q4), .second, .val (.ref aSPREAD), .val (.int t), .val (.int u), .val (.int tk), .val (.int sm), .val (.long ((t + (1 : Int32)).toInt64)), .second, .val (.long ((u + (1 : Int32)).toInt64)), .second, .val (.long ((sm + (1 : Int32)).toInt64)), .second, .val (.ref rw12), .unset, .unset] [(.ref aSTOCK), (.ref aSPREAD)])) X13 hx rfl rfl rfl (pc0 := 95) (pc' := 122) (same := false) rfl (hb hby at_95) rfl (decide_eq_false fun q => n_SPREAD_STOCK (Value.ref.inj q)) (by decide) (by decide) kq) ?_
    refine own_by (T' := T13) (g' := (mkF m 124 #[.val (.int p0), .val (.int p1), .val (.int p2), .val (.int p3), .val (.long q4), .second, .val (.ref aSPREAD), .val (.int t), .val (.int u), .val (.int tk), .val (.int sm), .val (.long ((t + (1 : Int32)).toInt64)), .second, .val (.long ((u + (1 : Int32)).toInt64)), .second, .val (.long ((sm + (1 : Int32)).toInt64)), .second, .val (.ref rw12), .unset, .unset] [(.long ((t + (1 : Int32)).toInt64))])) (fun _ kq => XS.lload X13.here hx rfl (hb hby at_122) rfl kq) ?_
    refine own_by (T' := T13) (g' := (mkF m 126 #[.val (.int p0), .val (.int p1), .val (.int p2), .val (.int p3), .val (.long q4), .second, .val (.ref aSPREAD), .val (.int t), .val (.int u), .val (.int tk), .val (.int sm), .val (.long ((t + (1 : Int32)).toInt64)), .second, .val (.long ((u + (1 : Int32)).toInt64)), .second, .val (.long ((sm + (1 : Int32)).toInt64)), .second, .val (.ref rw12), .unset, .unset] [(.int t), (.long ((t + (1 : Int32)).toInt64))])) (fun _ kq => XS.iload X13.here hx rfl (hb hby at_124) rfl kq) ?_
    refine own_by (T' := T13) (g' := (mkF m 127 #[.val (.int p0), .val (.int p1), .val (.int p2), .val (.int p3), .val (.long q4), .second, .val (.ref aSPREAD), .val (.int t), .val (.int u), .val (.int tk), .val (.int sm), .val (.long ((t + (1 : Int32)).toInt64)), .second, .val (.long ((u + (1 : Int32)).toInt64)), .second, .val (.long ((sm + (1 : Int32)).toInt64)), .second, .val (.ref rw12), .unset, .unset] [(.long (t.toInt64)), (.long ((t + (1 : Int32)).toInt64))])) (fun _ kq => XS.i2l X13.here hx rfl (hb hby at_126) rfl kq) ?_
    refine own_by (T' := T13) (g' := (mkF m 128 #[.val (.int p0), .val (.int p1), .val (.int p2), .val (.int p3), .val (.long q4), .second, .val (.ref aSPREAD), .val (.int t), .val (.int u), .val (.int tk), .val (.int sm), .val (.long ((t + (1 : Int32)).toInt64)), .second, .val (.long ((u + (1 : Int32)).toInt64)), .second, .val (.long ((sm + (1 : Int32)).toInt64)), .second, .val (.ref rw12), .unset, .unset] [(.long (1 : Int64)), (.long (t.toInt64)), (.long ((t + (1 : Int32)).toInt64))])) (fun _ kq => XS.lconst X13.here hx rfl (hb hby at_127) kq) ?_
    refine own_by (T' := T13) (g' := (mkF m 129 #[.val (.int p0), .val (.int p1), .val (.int p2), .val (.int p3), .val (.long q4), .second, .val (.ref aSPREAD), .val (.int t), .val (.int u), .val (.int tk), .val (.int sm), .val (.long ((t + (1 : Int32)).toInt64)), .second, .val (.long ((u + (1 : Int32)).toInt64)), .second, .val (.long ((sm + (1 : Int32)).toInt64)), .second, .val (.ref rw12), .unset, .unset] [(.long ((t.toInt64) + (1 : Int64))), (.long ((t + (1 : Int32)).toInt64))])) (fun _ kq => XS.ladd X13.here hx rfl (hb hby at_128) rfl kq) ?_
    refine own_by (T' := T13) (g' := (mkF m 130 #[.val (.int p0), .val (.int p1), .val (.int p2), .val (.int p3), .val (.long q4), .second, .val (.ref aSPREAD), .val (.int t), .val (.int u), .val (.int tk), .val (.int sm), .val (.long ((t + (1 : Int32)).toInt64)), .second, .val (.long ((u + (1 : Int32)).toInt64)), .second, .val (.long ((sm + (1 : Int32)).toInt64)), .second, .val (.ref rw12), .unset, .unset] [(.int (lcmpW ((t + (1 : Int32)).toInt64) ((t.toInt64) + (1 : Int64))))])) (fun _ kq => XS.lcmp X13.here hx rfl (hb hby at_129) rfl kq) ?_
    refine own_by (T' := T13) (g' := (mkF m 133 #[.val (.int p0), .val (.int p1), .val (.int p2), .val (.int p3), .val (.long q4), .second, .val (.ref aSPREAD), .val (.int t), .val (.int u), .val (.int tk), .val (.int sm), .val (.long ((t + (1 : Int32)).toInt64)), .second, .val (.long ((u + (1 : Int32)).toInt64)), .second, .val (.long ((sm + (1 : Int32)).toInt64)), .second, .val (.ref rw12), .unset, .unset] [])) (fun _ kq => XS.ifNo X13.here hx rfl (hb hby at_130) rfl ((if0 _ _).trans (teq ((lw_eq _ _).mpr (own_key2 ht.1 ht.2))).2) kq) ?_
    refine own_by (T' := T13) (g' := (mkF m 135 #[.val (.int p0), .val (.int p1), .val (.int p2), .val (.int p3), .val (.long q4), .second, .val (.ref aSPREAD), .val (.int t), .val (.int u), .val (.int tk), .val (.int sm), .val (.long ((t + (1 : Int32)).toInt64)), .second, .val (.long ((u + (1 : Int32)).toInt64)), .second, .val (.long ((sm + (1 : Int32)).toInt64)), .second, .val (.ref rw12), .unset, .unset] [(.long ((u + (1 : Int32)).toInt64))])) (fun _ kq => XS.lload X13.here hx rfl (hb hby at_133) rfl kq) ?_
    refine own_by (T' := T13) (g' := (mkF m 137 #[.val (.int p0), .val (.int p1), .val (.int p2), .val (.int p3), .val (.long q4), .second, .val (.ref aSPREAD), .val (.int t), .val (.int u), .val (.int tk), .val (.int sm), .val (.long ((t + (1 : Int32)).toInt64)), .second, .val (.long ((u + (1 : Int32)).toInt64)), .second, .val (.long ((sm + (1 : Int32)).toInt64)), .second, .val (.ref rw12), .unset, .unset] [(.int u), (.long ((u + (1 : Int32)).toInt64))])) (fun _ kq => XS.iload X13.here hx rfl (hb hby at_135) rfl kq) ?_
    refine own_by (T' := T13) (g' := (mkF m 138 #[.val (.int p0), .val (.int p1), .val (.int p2), .val (.int p3), .val (.long q4), .second, .val (.ref aSPREAD), .val (.int t), .val (.int u), .val (.int tk), .val (.int sm), .val (.long ((t + (1 : Int32)).toInt64)), .second, .val (.long ((u + (1 : Int32)).toInt64)), .second, .val (.long ((sm + (1 : Int32)).toInt64)), .second, .val (.ref rw12), .unset, .unset] [(.long (u.toInt64)), (.long ((u + (1 : Int32)).toInt64))])) (fun _ kq => XS.i2l X13.here hx rfl (hb hby at_137) rfl kq) ?_
    refine own_by (T' := T13) (g' := (mkF m 139 #[.val (.int p0), .val (.int p1), .val (.int p2), .val (.int p3), .val (.long q4), .second, .val (.ref aSPREAD), .val (.int t), .val (.int u), .val (.int tk), .val (.int sm), .val (.long ((t + (1 : Int32)).toInt64)), .second, .val (.long ((u + (1 : Int32)).toInt64)), .second, .val (.long ((sm + (1 : Int32)).toInt64)), .second, .val (.ref rw12), .unset, .unset] [(.long (1 : Int64)), (.long (u.toInt64)), (.long ((u + (1 : Int32)).toInt64))])) (fun _ kq => XS.lconst X13.here hx rfl (hb hby at_138) kq) ?_
    refine own_by (T' := T13) (g' := (mkF m 140 #[.val (.int p0), .val (.int p1), .val (.int p2), .val (.int p3), .val (.long q4), .second, .val (.ref aSPREAD), .val (.int t), .val (.int u), .val (.int tk), .val (.int sm), .val (.long ((t + (1 : Int32)).toInt64)), .second, .val (.long ((u + (1 : Int32)).toInt64)), .second, .val (.long ((sm + (1 : Int32)).toInt64)), .second, .val (.ref rw12), .unset, .unset] [(.long ((u.toInt64) + (1 : Int64))), (.long ((u + (1 : Int32)).toInt64))])) (fun _ kq => XS.ladd X13.here hx rfl (hb hby at_139) rfl kq) ?_
    refine own_by (T' := T13) (g' := (mkF m 141 #[.val (.int p0), .val (.int p1), .val (.int p2), .val (.int p3), .val (.long q4), .second, .val (.ref aSPREAD), .val (.int t), .val (.int u), .val (.int tk), .val (.int sm), .val (.long ((t + (1 : Int32)).toInt64)), .second, .val (.long ((u + (1 : Int32)).toInt64)), .second, .val (.long ((sm + (1 : Int32)).toInt64)), .second, .val (.ref rw12), .unset, .unset] [(.int (lcmpW ((u + (1 : Int32)).toInt64) ((u.toInt64) + (1 : Int64))))])) (fun _ kq => XS.lcmp X13.here hx rfl (hb hby at_140) rfl kq) ?_
    refine own_by (T' := T13) (g' := (mkF m 144 #[.val (.int p0), .val (.int p1), .val (.int p2), .val (.int p3), .val (.long q4), .second, .val (.ref aSPREAD), .val (.int t), .val (.int u), .val (.int tk), .val (.int sm), .val (.long ((t + (1 : Int32)).toInt64)), .second, .val (.long ((u + (1 : Int32)).toInt64)), .second, .val (.long ((sm + (1 : Int32)).toInt64)), .second, .val (.ref rw12), .unset, .unset] [])) (fun _ kq => XS.ifNo X13.here hx rfl (hb hby at_141) rfl ((if0 _ _).trans (teq ((lw_eq _ _).mpr (own_key2 hu.1 hu.2))).2) kq) ?_
    refine own_by (T' := T13) (g' := (mkF m 145 #[.val (.int p0), .val (.int p1), .val (.int p2), .val (.int p3), .val (.long q4), .second, .val (.ref aSPREAD), .val (.int t), .val (.int u), .val (.int tk), .val (.int sm), .val (.long ((t + (1 : Int32)).toInt64)), .second, .val (.long ((u + (1 : Int32)).toInt64)), .second, .val (.long ((sm + (1 : Int32)).toInt64)), .second, .val (.ref rw12), .unset, .unset] [(.int (1 : Int32))])) (fun _ kq => XS.iconst X13.here hx rfl (hb hby at_144) kq) ?_
    refine own_by (T' := T13) (g' := (mkF m 149 #[.val (.int p0), .val (.int p1), .val (.int p2), .val (.int p3), .val (.long q4), .second, .val (.ref aSPREAD), .val (.int t), .val (.int u), .val (.int tk), .val (.int sm), .val (.long ((t + (1 : Int32)).toInt64)), .second, .val (.long ((u + (1 : Int32)).toInt64)), .second, .val (.long ((sm + (1 : Int32)).toInt64)), .second, .val (.ref rw12), .unset, .unset] [(.int (1 : Int32))])) (fun _ kq => XS.goto X13.here hx rfl (pc0 := 145) (pc' := 149) rfl (hb hby at_145) (by decide) (by decide) kq) ?_
    refine own_by (T' := T13) (g' := (mkF m 151 #[.val (.int p0), .val (.int p1), .val (.int p2), .val (.int p3), .val (.long q4), .second, .val (.ref aSPREAD), .val (.int t), .val (.int u), .val (.int tk), .val (.int sm), .val (.long ((t + (1 : Int32)).toInt64)), .second, .val (.long ((u + (1 : Int32)).toInt64)), .second, .val (.long ((sm + (1 : Int32)).toInt64)), .second, .val (.ref rw12), .val (.int (1 : Int32)), .unset] [])) (fun _ kq => XS.istore X13.here hx rfl (hb hby at_149) rfl (l' := #[.val (.int p0), .val (.int p1), .val (.int p2), .val (.int p3), .val (.long q4), .second, .val (.ref aSPREAD), .val (.int t), .val (.int u), .val (.int tk), .val (.int sm), .val (.long ((t + (1 : Int32)).toInt64)), .second, .val (.long ((u + (1 : Int32)).toInt64)), .second, .val (.long ((sm + (1 : Int32)).toInt64)), .second, .val (.ref rw12), .val (.int (1 : Int32)), .unset]) rfl kq) ?_
    refine own_by (T' := T13) (g' := (mkF m 153 #[.val (.int p0), .val (.int p1), .val (.int p2), .val (.int p3), .val (.long q4), .second, .val (.ref aSPREAD), .val (.int t), .val (.int u), .val (.int tk), .val (.int sm), .val (.long ((t + (1 : Int32)).toInt64)), .second, .val (.long ((u + (1 : Int32)).toInt64)), .second, .val (.long ((sm + (1 : Int32)).toInt64)), .second, .val (.ref rw12), .val (.int (1 : Int32)), .unset] [(.long ((sm + (1 : Int32)).toInt64))])) (fun _ kq => XS.lload X13.here hx rfl (hb hby at_151) rfl kq) ?_
    refine own_by (T' := T13) (g' := (mkF m 154 #[.val (.int p0), .val (.int p1), .val (.int p2), .val (.int p3), .val (.long q4), .second, .val (.ref aSPREAD), .val (.int t), .val (.int u), .val (.int tk), .val (.int sm), .val (.long ((t + (1 : Int32)).toInt64)), .second, .val (.long ((u + (1 : Int32)).toInt64)), .second, .val (.long ((sm + (1 : Int32)).toInt64)), .second, .val (.ref rw12), .val (.int (1 : Int32)), .unset] [(.long (1 : Int64)), (.long ((sm + (1 : Int32)).toInt64))])) (fun _ kq => XS.lconst X13.here hx rfl (hb hby at_153) kq) ?_
    refine own_by (T' := T13) (g' := (mkF m 155 #[.val (.int p0), .val (.int p1), .val (.int p2), .val (.int p3), .val (.long q4), .second, .val (.ref aSPREAD), .val (.int t), .val (.int u), .val (.int tk), .val (.int sm), .val (.long ((t + (1 : Int32)).toInt64)), .second, .val (.long ((u + (1 : Int32)).toInt64)), .second, .val (.long ((sm + (1 : Int32)).toInt64)), .second, .val (.ref rw12), .val (.int (1 : Int32)), .unset] [(.int (lcmpW ((sm + (1 : Int32)).toInt64) (1 : Int64)))])) (fun _ kq => XS.lcmp X13.here hx rfl (hb hby at_154) rfl kq) ?_
    refine own_by (T' := T13) (g' := (mkF m 158 #[.val (.int p0), .val (.int p1), .val (.int p2), .val (.int p3), .val (.long q4), .second, .val (.ref aSPREAD), .val (.int t), .val (.int u), .val (.int tk), .val (.int sm), .val (.long ((t + (1 : Int32)).toInt64)), .second, .val (.long ((u + (1 : Int32)).toInt64)), .second, .val (.long ((sm + (1 : Int32)).toInt64)), .second, .val (.ref rw12), .val (.int (1 : Int32)), .unset] [])) (fun _ kq => XS.ifNo X13.here hx rfl (hb hby at_155) rfl ((if0 _ _).trans (flt (fun q => by have q1 := Int64.lt_iff_toInt_lt.mp ((lw_lt _ _).mp q); have q2 := own_key hsm.1 (by omega); have e1 : (1 : Int64).toInt = 1 := (by decide); omega)).1) kq) ?_
    refine own_by (T' := T13) (g' := (mkF m 160 #[.val (.int p0), .val (.int p1), .val (.int p2), .val (.int p3), .val (.long q4), .second, .val (.ref aSPREAD), .val (.int t), .val (.int u), .val (.int tk), .val (.int sm), .val (.long ((t + (1 : Int32)).toInt64)), .second, .val (.long ((u + (1 : Int32)).toInt64)), .second, .val (.long ((sm + (1 : Int32)).toInt64)), .second, .val (.ref rw12), .val (.int (1 : Int32)), .unset] [(.long ((sm + (1 : Int32)).toInt64))])) (fun _ kq => XS.lload X13.here hx rfl (hb hby at_158) rfl kq) ?_
    refine own_by (T' := T13) (g' := (mkF m 162 #[.val (.int p0), .val (.int p1), .val (.int p2), .val (.int p3), .val (.long q4), .second, .val (.ref aSPREAD), .val (.int t), .val (.int u), .val (.int tk), .val (.int sm), .val (.long ((t + (1 : Int32)).toInt64)), .second, .val (.long ((u + (1 : Int32)).toInt64)), .second, .val (.long ((sm + (1 : Int32)).toInt64)), .second, .val (.ref rw12), .val (.int (1 : Int32)), .unset] [(.ref rw12), (.long ((sm + (1 : Int32)).toInt64))])) (fun _ kq => XS.aload X13.here hx rfl (hb hby at_160) rfl rfl kq) ?_
    have PR : ¬ tk < (0 : Int32) := own_nlt0 (by omega)
    refine own_by (T' := T13) (g' := (mkF m 163 #[.val (.int p0), .val (.int p1), .val (.int p2), .val (.int p3), .val (.long q4), .second, .val (.ref aSPREAD), .val (.int t), .val (.int u), .val (.int tk), .val (.int sm), .val (.long ((t + (1 : Int32)).toInt64)), .second, .val (.long ((u + (1 : Int32)).toInt64)), .second, .val (.long ((sm + (1 : Int32)).toInt64)), .second, .val (.ref rw12), .val (.int (1 : Int32)), .unset] [(.int tk), (.long ((sm + (1 : Int32)).toInt64))])) (fun _ kq => X13.arraylength hx (by first | rw [e13]; exact ArR.1 | exact ArR.1) (State.isArrayOf_alike hZ.alike ArR.2.1) (g := (mkF m 162 #[.val (.int p0), .val (.int p1), .val (.int p2), .val (.int p3), .val (.long q4), .second, .val (.ref aSPREAD), .val (.int t), .val (.int u), .val (.int tk), .val (.int sm), .val (.long ((t + (1 : Int32)).toInt64)), .second, .val (.long ((u + (1 : Int32)).toInt64)), .second, .val (.long ((sm + (1 : Int32)).toInt64)), .second, .val (.ref rw12), .val (.int (1 : Int32)), .unset] [(.ref rw12), (.long ((sm + (1 : Int32)).toInt64))])) rfl rfl (hb hby at_162) _ (by rw [len_of SR PR]; exact kq)) ?_
    refine own_by (T' := T13) (g' := (mkF m 164 #[.val (.int p0), .val (.int p1), .val (.int p2), .val (.int p3), .val (.long q4), .second, .val (.ref aSPREAD), .val (.int t), .val (.int u), .val (.int tk), .val (.int sm), .val (.long ((t + (1 : Int32)).toInt64)), .second, .val (.long ((u + (1 : Int32)).toInt64)), .second, .val (.long ((sm + (1 : Int32)).toInt64)), .second, .val (.ref rw12), .val (.int (1 : Int32)), .unset] [(.long (tk.toInt64)), (.long ((sm + (1 : Int32)).toInt64))])) (fun _ kq => XS.i2l X13.here hx rfl (hb hby at_163) rfl kq) ?_
    refine own_by (T' := T13) (g' := (mkF m 165 #[.val (.int p0), .val (.int p1), .val (.int p2), .val (.int p3), .val (.long q4), .second, .val (.ref aSPREAD), .val (.int t), .val (.int u), .val (.int tk), .val (.int sm), .val (.long ((t + (1 : Int32)).toInt64)), .second, .val (.long ((u + (1 : Int32)).toInt64)), .second, .val (.long ((sm + (1 : Int32)).toInt64)), .second, .val (.ref rw12), .val (.int (1 : Int32)), .unset] [(.int (lcmpW ((sm + (1 : Int32)).toInt64) (tk.toInt64)))])) (fun _ kq => XS.lcmp X13.here hx rfl (hb hby at_164) rfl kq) ?_
    refine own_by (T' := T13) (g' := (mkF m 168 #[.val (.int p0), .val (.int p1), .val (.int p2), .val (.int p3), .val (.long q4), .second, .val (.ref aSPREAD), .val (.int t), .val (.int u), .val (.int tk), .val (.int sm), .val (.long ((t + (1 : Int32)).toInt64)), .second, .val (.long ((u + (1 : Int32)).toInt64)), .second, .val (.long ((sm + (1 : Int32)).toInt64)), .second, .val (.ref rw12), .val (.int (1 : Int32)), .unset] [])) (fun _ kq => XS.ifNo X13.here hx rfl (hb hby at_165) rfl ((if0 _ _).trans (flt (fun q => by have q1 := Int64.lt_iff_toInt_lt.mp ((lw_gt _ _).mp q); have q2 := own_key hsm.1 (by omega); have q3 := c_i2l tk; omega)).2.2.1) kq) ?_
    refine own_by (T' := T13) (g' := (mkF m 169 #[.val (.int p0), .val (.int p1), .val (.int p2), .val (.int p3), .val (.long q4), .second, .val (.ref aSPREAD), .val (.int t), .val (.int u), .val (.int tk), .val (.int sm), .val (.long ((t + (1 : Int32)).toInt64)), .second, .val (.long ((u + (1 : Int32)).toInt64)), .second, .val (.long ((sm + (1 : Int32)).toInt64)), .second, .val (.ref rw12), .val (.int (1 : Int32)), .unset] [(.int (1 : Int32))])) (fun _ kq => XS.iconst X13.here hx rfl (hb hby at_168) kq) ?_
    refine own_by (T' := T13) (g' := (mkF m 173 #[.val (.int p0), .val (.int p1), .val (.int p2), .val (.int p3), .val (.long q4), .second, .val (.ref aSPREAD), .val (.int t), .val (.int u), .val (.int tk), .val (.int sm), .val (.long ((t + (1 : Int32)).toInt64)), .second, .val (.long ((u + (1 : Int32)).toInt64)), .second, .val (.long ((sm + (1 : Int32)).toInt64)), .second, .val (.ref rw12), .val (.int (1 : Int32)), .unset] [(.int (1 : Int32))])) (fun _ kq => XS.goto X13.here hx rfl (pc0 := 169) (pc' := 173) rfl (hb hby at_169) (by decide) (by decide) kq) ?_
    refine own_by (T' := T13) (g' := (mkF m 175 #[.val (.int p0), .val (.int p1), .val (.int p2), .val (.int p3), .val (.long q4), .second, .val (.ref aSPREAD), .val (.int t), .val (.int u), .val (.int tk), .val (.int sm), .val (.long ((t + (1 : Int32)).toInt64)), .second, .val (.long ((u + (1 : Int32)).toInt64)), .second, .val (.long ((sm + (1 : Int32)).toInt64)), .second, .val (.ref rw12), .val (.int (1 : Int32)), .val (.int (1 : Int32))] [])) (fun _ kq => XS.istore X13.here hx rfl (hb hby at_173) rfl (l' := #[.val (.int p0), .val (.int p1), .val (.int p2), .val (.int p3), .val (.long q4), .second, .val (.ref aSPREAD), .val (.int t), .val (.int u), .val (.int tk), .val (.int sm), .val (.long ((t + (1 : Int32)).toInt64)), .second, .val (.long ((u + (1 : Int32)).toInt64)), .second, .val (.long ((sm + (1 : Int32)).toInt64)), .second, .val (.ref rw12), .val (.int (1 : Int32)), .val (.int (1 : Int32))]) rfl kq) ?_
    refine own_by (T' := T13) (g' := (mkF m 177 #[.val (.int p0), .val (.int p1), .val (.int p2), .val (.int p3), .val (.long q4), .second, .val (.ref aSPREAD), .val (.int t), .val (.int u), .val (.int tk), .val (.int sm), .val (.long ((t + (1 : Int32)).toInt64)), .second, .val (.long ((u + (1 : Int32)).toInt64)), .second, .val (.long ((sm + (1 : Int32)).toInt64)), .second, .val (.ref rw12), .val (.int (1 : Int32)), .val (.int (1 : Int32))] [(.int (1 : Int32))])) (fun _ kq => XS.iload X13.here hx rfl (hb hby at_175) rfl kq) ?_
    refine own_by (T' := T13) (g' := (mkF m 180 #[.val (.int p0), .val (.int p1), .val (.int p2), .val (.int p3), .val (.long q4), .second, .val (.ref aSPREAD), .val (.int t), .val (.int u), .val (.int tk), .val (.int sm), .val (.long ((t + (1 : Int32)).toInt64)), .second, .val (.long ((u + (1 : Int32)).toInt64)), .second, .val (.long ((sm + (1 : Int32)).toInt64)), .second, .val (.ref rw12), .val (.int (1 : Int32)), .val (.int (1 : Int32))] [])) (fun _ kq => XS.ifNo X13.here hx rfl (hb hby at_177) rfl ((if0 _ _).trans (feq (by decide : ¬ ((1 : Int32) = (0 : Int32)))).1) kq) ?_
    refine own_by (T' := T13) (g' := (mkF m 182 #[.val (.int p0), .val (.int p1), .val (.int p2), .val (.int p3), .val (.long q4), .second, .val (.ref aSPREAD), .val (.int t), .val (.int u), .val (.int tk), .val (.int sm), .val (.long ((t + (1 : Int32)).toInt64)), .second, .val (.long ((u + (1 : Int32)).toInt64)), .second, .val (.long ((sm + (1 : Int32)).toInt64)), .second, .val (.ref rw12), .val (.int (1 : Int32)), .val (.int (1 : Int32))] [(.int (1 : Int32))])) (fun _ kq => XS.iload X13.here hx rfl (hb hby at_180) rfl kq) ?_
    refine own_by (T' := T13) (g' := (mkF m 185 #[.val (.int p0), .val (.int p1), .val (.int p2), .val (.int p3), .val (.long q4), .second, .val (.ref aSPREAD), .val (.int t), .val (.int u), .val (.int tk), .val (.int sm), .val (.long ((t + (1 : Int32)).toInt64)), .second, .val (.long ((u + (1 : Int32)).toInt64)), .second, .val (.long ((sm + (1 : Int32)).toInt64)), .second, .val (.ref rw12), .val (.int (1 : Int32)), .val (.int (1 : Int32))] [])) (fun _ kq => XS.ifNo X13.here hx rfl (hb hby at_182) rfl ((if0 _ _).trans (feq (by decide : ¬ ((1 : Int32) = (0 : Int32)))).1) kq) ?_
    refine own_by (T' := T13) (g' := (mkF m 186 #[.val (.int p0), .val (.int p1), .val (.int p2), .val (.int p3), .val (.long q4), .second, .val (.ref aSPREAD), .val (.int t), .val (.int u), .val (.int tk), .val (.int sm), .val (.long ((t + (1 : Int32)).toInt64)), .second, .val (.long ((u + (1 : Int32)).toInt64)), .second, .val (.long ((sm + (1 : Int32)).toInt64)), .second, .val (.ref rw12), .val (.int (1 : Int32)), .val (.int (1 : Int32))] [(.int (1 : Int32))])) (fun _ kq => XS.iconst X13.here hx rfl (hb hby at_185) kq) ?_
    refine own_by (T' := T13) (g' := (mkF m 190 #[.val (.int p0), .val (.int p1), .val (.int p2), .val (.int p3), .val (.long q4), .second, .val (.ref aSPREAD), .val (.int t), .val (.int u), .val (.int tk), .val (.int sm), .val (.long ((t + (1 : Int32)).toInt64)), .second, .val (.long ((u + (1 : Int32)).toInt64)), .second, .val (.long ((sm + (1 : Int32)).toInt64)), .second, .val (.ref rw12), .val (.int (1 : Int32)), .val (.int (1 : Int32))] [(.int (1 : Int32))])) (fun _ kq => XS.goto X13.here hx rfl (pc0 := 186) (pc' := 190) rfl (hb hby at_186) (by decide) (by decide) kq) ?_
    exact own_end X13 (v := some (.int (nar .boolean (1 : Int32)))) (fun h => by rw [Bd.returns] at h; cases h) hlk (fun hr => retN X13 hx (t := .boolean) Bd.returns (by simp) (hb hby at_190) hr) (by rw [e13]; exact ⟨rfl, N12⟩) (by decide) (by decide)
set_option maxRecDepth 65536 in
set_option maxHeartbeats 40000000 in
theorem own_comes {Post : Tables → Env → Array Value → State → Outcome → State → Prop} (hpost : ∀ tb e args s v u, (limb_1_1.after args s (.returned v) u = true ∧ limb_1_2.after args s (.returned v) u = true ∧ True) → FrameEnd s (.returned v) u (Jvm.fieldLocs frame_1_writes args s ++ Jvm.arrayLocs frame_1_arrays args s ++ Jvm.staticLocs frame_1_statics s) 16 128 → Post tb e args s (.returned v) u) :
    ArmFor flags0 classFile x code maxLocals ret World_1 tables_1 room_1 Calls_1 rest_1 Pre_1 Post := by
  intro l hfl _ _ p e ha hc hk s m args below hf hA hF happ hP
  obtain ⟨hcalls, hrest, hpre⟩ := hP
  obtain ⟨-, -, -, hnamed, -, -, -, hat⟩ := (Spec.applies_iff hf).mp happ
  obtain ⟨hg, hn⟩ := and_e (Cond.before_iff.mp (show (Jvm.Cond.and given_1 narrow_1).before args s = true from hpre))
  obtain ⟨g0, g1⟩ := and_e hg
  obtain ⟨g2, g3⟩ := and_e g1
  obtain ⟨g4, g5⟩ := and_e g3
  obtain ⟨g6, g7⟩ := and_e g5
  obtain ⟨g8, g9⟩ := and_e g7
  obtain ⟨w0, w1, w2, w3, w4, rfl⟩ : ∃ w0 w1 w2 w3 w4 : Value, args = #[w0, w1, w2, w3, w4] := by
    have hs : args.size = 5 := by simpa [Jvm.Cond.value, given_1] using g0
    obtain ⟨L⟩ := args
    match L, hs with
    | [w0, w1, w2, w3, w4], _ => exact ⟨w0, w1, w2, w3, w4, rfl⟩
  have hw := fun d (hd : d ∈ tables_1) => atoms_spec (ws := Jvm.Cond.code x code maxLocals ret :: tables_1) hat d (List.mem_cons_of_mem _ hd)
  have hfit : Fit s := fun {y c} hc i hi => by
    obtain ⟨ha, rfl⟩ := Array.getElem?_eq_some_iff.mp hc
    have q := List.all_eq_true.mp ((Array.all_eq_true_iff_forall_mem.mp hF) _ (Array.getElem_mem ha)) i (List.mem_range.mpr hi)
    simpa [Array.getElem?_eq_getElem hi] using q
  obtain ⟨i0, ei0⟩ := is_v g2
  obtain rfl : w0 = (.int i0) := Option.some.inj ei0
  obtain ⟨i1, ei1⟩ := is_v g4
  obtain rfl : w1 = (.int i1) := Option.some.inj ei1
  obtain ⟨i2, ei2⟩ := is_v g6
  obtain rfl : w2 = (.int i2) := Option.some.inj ei2
  obtain ⟨i3, ei3⟩ := is_v g8
  obtain rfl : w3 = (.int i3) := Option.some.inj ei3
  obtain ⟨i4, ei4⟩ := isL_v g9
  obtain rfl : w4 = (.long i4) := Option.some.inj ei4
  obtain ⟨g10, g11⟩ := and_e hn
  obtain ⟨g12, g13⟩ := and_e g11
  obtain ⟨g14, g15⟩ := and_e g13
  obtain ⟨a_STOCK, ea_STOCK⟩ := exa_v g10
  have E_STOCK := Exa.start ea_STOCK g10
  have S_STOCK := Sta.start ea_STOCK (Or.inr ⟨(hw _ (List.mem_of_getElem? (i := 1) rfl)), (hw _ (List.mem_of_getElem? (i := 2) rfl))⟩)
  obtain ⟨a_SPREAD, ea_SPREAD⟩ := exa_v g12
  have E_SPREAD := Exa.start ea_SPREAD g12
  have S_SPREAD := Sta.start ea_SPREAD (Or.inr ⟨(hw _ (List.mem_of_getElem? (i := 1) rfl)), (hw _ (List.mem_of_getElem? (i := 17) rfl))⟩)
  have O_SPREAD := own_fldI g14 ea_SPREAD
  have O_STOCK := own_fldI g15 ea_STOCK
  obtain ⟨n, o, h1, h2, h3, _, L, rfl, ⟨rfl, N⟩, hq⟩ := own_rm0 l s _ hw tables_1 i0 i1 i2 i3 i4 a_STOCK a_SPREAD s.heap s.heap.size (Nat.le_refl _) S_STOCK S_SPREAD E_STOCK E_SPREAD (O_SPREAD.ne O_STOCK (by decide)) (Old.start s) p e ha hc hk s m _ below hf ((Spec.applies_iff_loose hf).mp happ).1 ⟨rfl, State.Warmed39.refl s, rfl⟩ trivial
  refine ⟨n, _, h1, h2, h3, hpost _ _ _ _ _ _ ⟨Cond.after_iff.mpr rfl, Cond.after_iff.mpr (eq_i res_at (Term.int_eval (1)) rfl), trivial⟩ ⟨hq.1, hq.2.1, (hq.2.2.sift fun y hy => Or.inr (N y hy)).mono (by decide) (by decide)⟩⟩
theorem main_1_1 : Claimed_1_1 := own_comes fun _ _ _ _ _ _ h hF => ⟨h.1, hF⟩
theorem main_1_2 : Claimed_1_2 := own_comes fun _ _ _ _ _ _ h hF => ⟨h.2.1, hF⟩
end Jvm.Pilot.@@N@@
namespace Jvm.Pilot.@@N@@
open Jvm Jvm.ClassFile Sem Op Lib Jvm.Free Jvm.Stand Jvm.Pilot.@@N@@.Jvm.D
/-! MADE BY PROGRAM (witnessworld.py) out of the Statement's table words and the real class files: 15 classes; the members and pool entries that the words name. The judged class is class 1, her method 1. -/
namespace start1
open Jvm.ClassFile
def u (s : String) : CpInfo := .utf8 (stringToUtf16 s)
/-- a pool by its gaps: so many unusable entries, then the entry; so many at the end -/
def gap : Nat → List CpInfo → List CpInfo
  | 0, r => r
  | n + 1, r => .unusable :: gap n r
def poolList (es : List (Nat × CpInfo)) (last : Nat) : List CpInfo := es.foldr (fun e r => gap e.1 (e.2 :: r)) (gap last [])
def pool (es : List (Nat × CpInfo)) (last : Nat) : Array CpInfo := ⟨poolList es last⟩
def fileOf (pool : Array CpInfo) (this : Nat) (attrs : Array Attribute := #[]) (ms : Array MethodInfo := #[]) (fl : Nat := 33) (sup : Nat := 0) (ifs : Array Nat := #[]) (fds : Array FieldInfo := #[]) : ClassFile where
  minorVersion := 0
  majorVersion := 65
  constantPool := pool
  accessFlags := fl
  thisClass := this
  superClass := sup
  interfaces := ifs
  fields := fds
  methods := ms
  attributes := attrs
def plain (name : String) (sup : Option ClassId) : Class where
  name := name
  kind := .ordinary
  loader := none
  accessFlags := 33
  super := sup
  interfaces := #[]
  cf := none
  fields := #[]
  methods := #[]
  instanceTypes := #[]
  staticTypes := #[]
  resolved := #[]
  callSites := []
  init := .initialized
  statics := none
  mirror := none

def pool0 : Array CpInfo := pool [(5, u "<init>"), (0, u "()V"), (1, .class_ 10), (1, u "java/lang/Object")] 113

def k0m0 : Method := { name := "<init>", desc := "()V", sig := { parameters := [], returnType := none }, accessFlags := 1, code := none }
/-- java/lang/Object -/
def k0 : Class := { plain "java/lang/Object" none with
  accessFlags := 33
  interfaces := #[]
  cf := some (fileOf pool0 8 #[] #[{ accessFlags := 1, nameIndex := 5, descriptorIndex := 6, attributes := #[] }] 33 0 #[] #[])
  fields := #[]
  methods := #[k0m0]
  instanceTypes := #[]
  staticTypes := #[]
  resolved := Array.replicate 124 none
  statics := none }

def pool1 : Array CpInfo := pool [(2, .class_ 4), (1, u "java/lang/Object"), (0, u "<init>"), (0, u "()V"), (0, .fieldref 8 9), (0, .class_ 10), (0, .nameAndType 11 12), (0, u "com/example/careful_commit/carefulcommit/drill/Scenario"), (0, u "STOCK"), (0, u "Lcom/example/careful_commit/carefulcommit/drill/Scenario;"), (0, .fieldref 8 14), (0, .nameAndType 15 12), (0, u "SPREAD"), (0, .integer 2147483647), (0, .methodref 8 18), (0, .nameAndType 19 20), (0, u "keyFor"), (0, u "(I)J"), (0, .methodref 8 22), (0, .nameAndType 23 24), (0, u "quantities"), (0, u "(IJ)[J"), (0, .class_ 26), (0, u "com/example/careful_commit/carefulcommit/drill/ScenarioKeyForPinLaw"), (2, u "law"), (0, u "(IIIIJ)Z")] 5

def k1m0 : Method := { name := "<init>", desc := "()V", sig := { parameters := [], returnType := none }, accessFlags := 1, code := none }
def k1c1 : Code := { maxStack := 6, maxLocals := 20, code := code, exceptionTable := #[], attributes := #[] }
def k1m1 : Method := { name := "law", desc := "(IIIIJ)Z", sig := { parameters := [.int, .int, .int, .int, .long], returnType := some .boolean }, accessFlags := 9, code := some k1c1 }
/-- com/example/careful_commit/carefulcommit/drill/ScenarioKeyForPinLaw -/
def k1 : Class := { plain "com/example/careful_commit/carefulcommit/drill/ScenarioKeyForPinLaw" (some 0) with
  accessFlags := 49
  interfaces := #[]
  cf := some (fileOf pool1 25 #[] #[{ accessFlags := 1, nameIndex := 5, descriptorIndex := 6, attributes := #[] }, { accessFlags := 9, nameIndex := 29, descriptorIndex := 30, attributes := #[] }] 49 2 #[] #[])
  fields := #[]
  methods := #[k1m0, k1m1]
  instanceTypes := #[]
  staticTypes := #[]
  resolved := Array.replicate 36 none
  statics := none }

def pool2 : Array CpInfo := pool [(1, .class_ 2), (0, u "java/lang/constant/Constable"), (0, .class_ 4), (0, u "java/lang/Object")] 6

/-- java/lang/constant/Constable -/
def k2 : Class := { plain "java/lang/constant/Constable" (some 0) with
  accessFlags := 1537
  interfaces := #[]
  cf := some (fileOf pool2 1 #[] #[] 1537 3 #[] #[])
  fields := #[]
  methods := #[]
  instanceTypes := #[]
  staticTypes := #[]
  resolved := Array.replicate 11 none
  statics := none }

def pool3 : Array CpInfo := pool [(1, .class_ 2), (0, u "java/lang/Comparable"), (0, .class_ 4), (0, u "java/lang/Object")] 7

/-- java/lang/Comparable -/
def k3 : Class := { plain "java/lang/Comparable" (some 0) with
  accessFlags := 1537
  interfaces := #[]
  cf := some (fileOf pool3 1 #[] #[] 1537 3 #[] #[])
  fields := #[]
  methods := #[]
  instanceTypes := #[]
  staticTypes := #[]
  resolved := Array.replicate 12 none
  statics := none }

def pool4 : Array CpInfo := pool [(1, .class_ 2), (0, u "java/io/Serializable"), (0, .class_ 4), (0, u "java/lang/Object")] 2

/-- java/io/Serializable -/
def k4 : Class := { plain "java/io/Serializable" (some 0) with
  accessFlags := 1537
  interfaces := #[]
  cf := some (fileOf pool4 1 #[] #[] 1537 3 #[] #[])
  fields := #[]
  methods := #[]
  instanceTypes := #[]
  staticTypes := #[]
  resolved := Array.replicate 7 none
  statics := none }

def pool5 : Array CpInfo := pool [(2, .class_ 4), (1, u "java/lang/Enum"), (0, u "name"), (0, u "Ljava/lang/String;"), (2, u "ordinal"), (0, u "I"), (1, .class_ 14), (1, u "java/lang/Object"), (4, u "hash"), (86, .class_ 108), (1, u "java/lang/Enum$EnumDesc"), (2, .class_ 112), (0, u "java/lang/constant/Constable"), (0, .class_ 114), (0, u "java/lang/Comparable"), (0, .class_ 116), (0, u "java/io/Serializable")] 87

/-- java/lang/Enum -/
def k5 : Class := { plain "java/lang/Enum" (some 0) with
  accessFlags := 1057
  interfaces := #[2, 3, 4]
  cf := some (fileOf pool5 2 #[.nestMembers #[106]] #[] 1057 12 #[111, 113, 115] #[{ accessFlags := 18, nameIndex := 5, descriptorIndex := 6, attributes := #[] }, { accessFlags := 18, nameIndex := 9, descriptorIndex := 10, attributes := #[] }, { accessFlags := 2, nameIndex := 19, descriptorIndex := 10, attributes := #[] }])
  fields := #[{ name := "name", type := (.object "java/lang/String"), accessFlags := 18, slot := 0, constantValue := 0 }, { name := "ordinal", type := .int, accessFlags := 18, slot := 1, constantValue := 0 }, { name := "hash", type := .int, accessFlags := 2, slot := 2, constantValue := 0 }]
  methods := #[]
  instanceTypes := #[(.object "java/lang/String"), .int, .int]
  staticTypes := #[]
  resolved := Array.replicate 204 none
  statics := none }

def pool6 : Array CpInfo := pool [(1, .class_ 2), (0, u "com/example/careful_commit/carefulcommit/drill/Scenario"), (0, .fieldref 1 4), (0, .nameAndType 5 6), (0, u "STOCK"), (0, u "Lcom/example/careful_commit/carefulcommit/drill/Scenario;"), (2, u "SPREAD"), (2, u "$VALUES"), (0, u "[Lcom/example/careful_commit/carefulcommit/drill/Scenario;"), (6, .class_ 22), (1, u "java/lang/Enum"), (6, .methodref 30 31), (0, .class_ 32), (0, .nameAndType 33 34), (0, u "java/util/Arrays"), (0, u "fill"), (0, u "([JJ)V"), (14, u "quantities"), (0, u "(IJ)[J"), (3, u "keyFor"), (0, u "(I)J")] 4

def k6c0 : Code := { maxStack := 5, maxLocals := 5, code := prog_61_method_4_code, exceptionTable := #[], attributes := #[] }
def k6m0 : Method := { name := "quantities", desc := "(IJ)[J", sig := { parameters := [.int, .long], returnType := some (.array .long) }, accessFlags := 0, code := some k6c0 }
def k6c1 : Code := { maxStack := 2, maxLocals := 2, code := prog_61_method_5_code, exceptionTable := #[], attributes := #[] }
def k6m1 : Method := { name := "keyFor", desc := "(I)J", sig := { parameters := [.int], returnType := some .long }, accessFlags := 0, code := some k6c1 }
/-- com/example/careful_commit/carefulcommit/drill/Scenario -/
def k6 : Class := { plain "com/example/careful_commit/carefulcommit/drill/Scenario" (some 5) with
  accessFlags := 16432
  interfaces := #[]
  cf := some (fileOf pool6 1 #[] #[{ accessFlags := 0, nameIndex := 49, descriptorIndex := 50, attributes := #[] }, { accessFlags := 0, nameIndex := 54, descriptorIndex := 55, attributes := #[] }] 16432 20 #[] #[{ accessFlags := 16409, nameIndex := 5, descriptorIndex := 6, attributes := #[] }, { accessFlags := 16409, nameIndex := 9, descriptorIndex := 6, attributes := #[] }, { accessFlags := 4122, nameIndex := 12, descriptorIndex := 13, attributes := #[] }])
  fields := #[{ name := "STOCK", type := (.object "com/example/careful_commit/carefulcommit/drill/Scenario"), accessFlags := 16409, slot := 0, constantValue := 0 }, { name := "SPREAD", type := (.object "com/example/careful_commit/carefulcommit/drill/Scenario"), accessFlags := 16409, slot := 1, constantValue := 0 }, { name := "$VALUES", type := (.array (.object "com/example/careful_commit/carefulcommit/drill/Scenario")), accessFlags := 4122, slot := 2, constantValue := 0 }]
  methods := #[k6m0, k6m1]
  instanceTypes := #[(.object "java/lang/String"), .int, .int]
  staticTypes := #[(.object "com/example/careful_commit/carefulcommit/drill/Scenario"), (.object "com/example/careful_commit/carefulcommit/drill/Scenario"), (.array (.object "com/example/careful_commit/carefulcommit/drill/Scenario"))]
  resolved := Array.replicate 60 none
  statics := some 0 }

def pool7 : Array CpInfo := pool [(2, .class_ 4), (1, u "java/lang/Object"), (0, u "<init>"), (0, u "()V"), (7, .class_ 16), (1, u "java/util/Arrays"), (57, .class_ 76), (1, u "java/util/Arrays$NaturalOrder"), (36, .class_ 115), (1, u "java/util/Arrays$LegacyMergeSort"), (1, u "Z"), (257, .class_ 376), (0, u "java/util/Arrays$ArrayList"), (68, u "$assertionsDisabled"), (269, u "MIN_ARRAY_SORT_GRAN"), (0, u "I"), (2, u "INSERTIONSORT_THRESHOLD"), (120, u "fill"), (0, u "([JJ)V"), (133, .class_ 976), (0, u "java/util/Arrays$ArrayItr")] 52

def k7m0 : Method := { name := "<init>", desc := "()V", sig := { parameters := [], returnType := none }, accessFlags := 2, code := none }
def k7c1 : Code := { maxStack := 4, maxLocals := 5, code := jdk_65_method_101_code, exceptionTable := #[], attributes := #[] }
def k7m1 : Method := { name := "fill", desc := "([JJ)V", sig := { parameters := [(.array .long), .long], returnType := none }, accessFlags := 9, code := some k7c1 }
/-- java/util/Arrays -/
def k7 : Class := { plain "java/util/Arrays" (some 0) with
  accessFlags := 49
  interfaces := #[]
  cf := some (fileOf pool7 14 #[.nestMembers #[975, 375, 113, 74]] #[{ accessFlags := 2, nameIndex := 5, descriptorIndex := 6, attributes := #[] }, { accessFlags := 9, nameIndex := 840, descriptorIndex := 841, attributes := #[] }] 49 2 #[] #[{ accessFlags := 26, nameIndex := 715, descriptorIndex := 716, attributes := #[] }, { accessFlags := 26, nameIndex := 719, descriptorIndex := 716, attributes := #[] }, { accessFlags := 4120, nameIndex := 445, descriptorIndex := 117, attributes := #[] }])
  fields := #[{ name := "MIN_ARRAY_SORT_GRAN", type := .int, accessFlags := 26, slot := 0, constantValue := 0 }, { name := "INSERTIONSORT_THRESHOLD", type := .int, accessFlags := 26, slot := 1, constantValue := 0 }, { name := "$assertionsDisabled", type := .boolean, accessFlags := 4120, slot := 2, constantValue := 0 }]
  methods := #[k7m0, k7m1]
  instanceTypes := #[]
  staticTypes := #[.int, .int, .boolean]
  resolved := Array.replicate 1029 none
  statics := none }

def pool8 : Array CpInfo := pool [(1, u "java/lang/Cloneable"), (0, .class_ 1), (0, u "java/lang/Object"), (0, .class_ 3)] 3

/-- java/lang/Cloneable -/
def k8 : Class := { plain "java/lang/Cloneable" (some 0) with
  accessFlags := 1537
  interfaces := #[]
  cf := some (fileOf pool8 2 #[] #[] 1537 4 #[] #[])
  fields := #[]
  methods := #[]
  instanceTypes := #[]
  staticTypes := #[]
  resolved := Array.replicate 8 none
  statics := none }

/-- the primitive byte -/
def k9 : Class := { plain "byte" none with kind := .primitive 'B', accessFlags := 0x411 }
/-- [B -/
def k10 : Class := { plain "[B" (some 0) with kind := .array 9 .byte, interfaces := #[8, 4], accessFlags := 1041 }

/-- the primitive int -/
def k11 : Class := { plain "int" none with kind := .primitive 'I', accessFlags := 0x411 }
/-- [I -/
def k12 : Class := { plain "[I" (some 0) with kind := .array 11 .int, interfaces := #[8, 4], accessFlags := 1041 }

/-- the primitive long -/
def k13 : Class := { plain "long" none with kind := .primitive 'J', accessFlags := 0x411 }
/-- [J -/
def k14 : Class := { plain "[J" (some 0) with kind := .array 13 .long, interfaces := #[8, 4], accessFlags := 1041 }

def heap : Heap := #[{ cls := 6, slots := #[.ref 1, .ref 2, .null], vm := .statics 6 },
  { cls := 6, slots := #[.null, .int 0, .int 0], vm := .none },
  { cls := 6, slots := #[.null, .int 1, .int 0], vm := .none }]
def classes : Array Class := #[k0, k1, k2, k3, k4, k5, k6, k7, k8, k9, k10, k11, k12, k13, k14]
def interned : List (Array UInt16 × Addr) := []
def slotsUsed : Nat := 9
def theMethod : MethodId := ⟨1, 1⟩
def args0 : Array Value := #[.int 5, .int 5, .int 5, .int 5, .long 5]
def aboutOver (below : List Frame) : State where
  vm := { classes := classes, interned := interned.toArray }
  heap := heap
  slotsUsed := slotsUsed
  threads := #[{ frames := .invoking theMethod args0 :: below }]
def below0 : List Frame := [.native { method := ⟨0, 0⟩, args := #[] }]
def about1 : State := aboutOver below0
def p0 : Program := .bare "" "" ""
def e0 : Env := launch0.env 0 0 0
theorem w_frames : about1.frames = Frame.invoking theMethod args0 :: below0 := rfl
set_option maxRecDepth 65536 in
theorem w_args : argsFit about1.vm theMethod args0 = true := by decide +kernel
set_option maxRecDepth 65536 in
theorem w_heap : heapFits about1 = true := by decide +kernel
set_option maxRecDepth 65536 in
theorem w_runnable : about1.curStatus? = some .runnable := by decide +kernel
set_option maxRecDepth 65536 in
theorem w_alone : about1.alone = true := by decide +kernel
set_option maxRecDepth 65536 in
theorem w_named : about1.methodNamed? x = some theMethod := by decide +kernel
set_option maxRecDepth 65536 in
theorem w_hears : about1.hears theMethod below0 = true := by decide +kernel
set_option maxRecDepth 65536 in
theorem w_ripe : about1.ripe theMethod args0 below0 = true := by decide +kernel
theorem w_running : about1.status = .running := rfl
set_option maxRecDepth 65536 in
theorem w_room : about1.hasRoom e0.platform room_1 = true :=
  launch0.hasRoom_least _ room_1 (by decide +kernel) (by decide +kernel) (by decide +kernel) (by decide +kernel) (by decide +kernel) (by decide +kernel)
theorem allAtoms_all (ts : List Jvm.Cond) (a : Array Jvm.Value) (st : Jvm.State) : (allAtoms ts).before a st = ts.all (fun c => c.before a st) := by
  induction ts with
  | nil => rfl
  | cons c t ih =>
    show (Jvm.Cond.and c (allAtoms t)).before a st = _
    rw [Jvm.Cond.before_and, ih, List.all_cons]
def words1 : List Jvm.Cond := Jvm.Cond.code x code maxLocals ret :: tables_1
/-- a 'code' word, met by the world's own term for the bytes: nothing is compared byte by byte -/
theorem code_word {y : MethodName} {bytes : ByteArray} {mx : Nat} {rt : Option FieldType} {a : Array Value} {s : State} {m : MethodId} {meth : Method} {c : Code} (h1 : s.methodNamed? y = some m) (h2 : s.vm.method? m = some meth) (h3 : meth.code = some c) (h4 : c.code = bytes)
    (h5 : (c.maxLocals == mx && c.exceptionTable.isEmpty && decide (c.maxStack ≤ mostOperands) && decide (meth.sig.returnType = rt) && !meth.locks && decide (parseMethodDescriptor y.desc = some meth.sig)) = true) : (Jvm.Cond.code y bytes mx rt).before a s = true := by
  simp only [Bool.and_eq_true, beq_iff_eq, Bool.not_eq_true', decide_eq_true_eq] at h5
  obtain ⟨⟨⟨⟨⟨g1, g2⟩, g3⟩, g4⟩, g5⟩, g6⟩ := h5
  simp [Cond.before, Cond.holds, Cond.value, h1, h2, h3, h4, g1, g2, g3, g4, g5, g6]
def isCode : Jvm.Cond → Bool
  | .code _ _ _ _ => true
  | _ => false
theorem all_split {L : List Jvm.Cond} {P : Jvm.Cond → Bool} (h1 : L.all (fun c => isCode c || P c) = true) (h2 : ∀ c ∈ L.filter isCode, P c = true) : L.all P = true := by
  refine List.all_eq_true.mpr fun c hc => ?_
  have h := List.all_eq_true.mp h1 c hc
  rcases Bool.eq_false_or_eq_true (isCode c) with hi | hi
  · exact h2 c (List.mem_filter.mpr ⟨hc, hi⟩)
  · simpa [hi] using h
set_option maxRecDepth 65536 in
theorem w_c0 : (Jvm.Cond.code x code maxLocals ret).before args0 about1 = true := code_word (m := ⟨1, 1⟩) (meth := k1m1) (c := k1c1) (by decide +kernel) rfl rfl rfl (by decide +kernel)
set_option maxRecDepth 65536 in
theorem w_c1 : (Jvm.Cond.code ({ cls := "com/example/careful_commit/carefulcommit/drill/Scenario", name := "keyFor", desc := "(I)J" } : Jvm.MethodName) prog_61_method_5_code (2 : Nat) (Option.some Jvm.ClassFile.FieldType.long)).before args0 about1 = true := code_word (m := ⟨6, 1⟩) (meth := k6m1) (c := k6c1) (by decide +kernel) rfl rfl rfl (by decide +kernel)
set_option maxRecDepth 65536 in
theorem w_c2 : (Jvm.Cond.code ({ cls := "com/example/careful_commit/carefulcommit/drill/Scenario", name := "quantities", desc := "(IJ)[J" } : Jvm.MethodName) prog_61_method_4_code (5 : Nat) (Option.some (Jvm.ClassFile.FieldType.array Jvm.ClassFile.FieldType.long))).before args0 about1 = true := code_word (m := ⟨6, 0⟩) (meth := k6m0) (c := k6c0) (by decide +kernel) rfl rfl rfl (by decide +kernel)
set_option maxRecDepth 65536 in
theorem w_c3 : (Jvm.Cond.code ({ cls := "java/util/Arrays", name := "fill", desc := "([JJ)V" } : Jvm.MethodName) jdk_65_method_101_code (5 : Nat) (Option.none : Option Jvm.ClassFile.FieldType)).before args0 about1 = true := code_word (m := ⟨7, 1⟩) (meth := k7m1) (c := k7c1) (by decide +kernel) rfl rfl rfl (by decide +kernel)
def codes1 : List Jvm.Cond := [Jvm.Cond.code x code maxLocals ret, Jvm.Cond.code ({ cls := "com/example/careful_commit/carefulcommit/drill/Scenario", name := "keyFor", desc := "(I)J" } : Jvm.MethodName) prog_61_method_5_code (2 : Nat) (Option.some Jvm.ClassFile.FieldType.long), Jvm.Cond.code ({ cls := "com/example/careful_commit/carefulcommit/drill/Scenario", name := "quantities", desc := "(IJ)[J" } : Jvm.MethodName) prog_61_method_4_code (5 : Nat) (Option.some (Jvm.ClassFile.FieldType.array Jvm.ClassFile.FieldType.long)), Jvm.Cond.code ({ cls := "java/util/Arrays", name := "fill", desc := "([JJ)V" } : Jvm.MethodName) jdk_65_method_101_code (5 : Nat) (Option.none : Option Jvm.ClassFile.FieldType)]
set_option maxRecDepth 65536 in
theorem codes_eq : words1.filter isCode = codes1 := rfl
theorem w_codes : ∀ c ∈ words1.filter isCode, c.before args0 about1 = true := by
  rw [codes_eq]
  intro c hc
  simp only [codes1, List.mem_cons, List.not_mem_nil, or_false] at hc
  rcases hc with rfl | rfl | rfl | rfl
  · exact w_c0
  · exact w_c1
  · exact w_c2
  · exact w_c3
set_option maxRecDepth 65536 in
theorem w_t1 : words1.all (fun c => isCode c || c.before args0 about1) = true := by decide +kernel
theorem w_tables : (allAtoms (Jvm.Cond.code x code maxLocals ret :: tables_1)).before args0 about1 = true := by
  rw [allAtoms_all]
  show words1.all (fun c => c.before args0 about1) = true
  refine all_split ?_ w_codes
  rw [w_t1]
set_option maxRecDepth 65536 in
theorem w_case : (Jvm.Cond.and given_1 narrow_1).before args0 about1 = true := by decide +kernel
theorem w_applies : (headSpec (Jvm.Cond.code x code maxLocals ret :: tables_1) room_1).applies x e0.platform about1 = true :=
  (Spec.applies_iff w_frames).mpr ⟨w_running, w_runnable, w_alone, w_named, w_hears, w_ripe, w_room, w_tables⟩
theorem atStart : AtStart classFile x code maxLocals ret World_1 tables_1 room_1 Calls_1 rest_1 Pre_1 launch0 p0 e0 about1 theMethod args0 below0 :=
  ⟨lists_1, trivial, launch0.admits_env _ _ _, launch0.least_env, fairChoices_fair.cas, fairChoices_fair.clock, w_frames, w_args, w_heap, w_applies, trivial, trivial, w_case⟩
end start1
theorem witness_1 : WitnessClaimed_1 := ⟨start1.p0, start1.e0, start1.about1, start1.theMethod, start1.args0, start1.below0, start1.atStart⟩
end Jvm.Pilot.@@N@@
